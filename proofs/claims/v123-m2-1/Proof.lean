import JvmDerived
import JvmDerived.Pilot.@@N@@Statement
import JvmDerived.Pilot.@@N@@Code
set_option linter.unusedVariables false
set_option linter.unusedSimpArgs false
namespace Jvm.RoadKit
section OwnHeaps
variable {h h' h2 hm : Heap} {ws : List Addr}
theorem Ext.oRefl (h : Heap) : Ext h h := ⟨Nat.le_refl _, fun _ _ q => q⟩
theorem Ext.oTrans (A : Ext h h') (B : Ext h' h2) : Ext h h2 := ⟨Nat.le_trans A.1 B.1, fun x c q => B.2 x c (A.2 x c q)⟩
theorem Keep.oExt (K : Keep h h' []) : Ext h h' := ⟨K.1, fun x c q => K.2.1 x c q (fun z => nomatch z)⟩
theorem Ext.oKeepOf (E : Ext h h') (ws : List Addr) : Keep h h' ws := (Keep.refl h ws).ext E
theorem Ext.oKeep (A : Ext hm h) (K : Keep h h' ws) (q : ∀ x ∈ ws, hm.size ≤ x) : Ext hm h' :=
  ⟨Nat.le_trans A.1 K.1, fun x c hx => K.2.1 x c (A.2 x c hx) fun z => absurd (Array.getElem?_eq_some_iff.mp hx).1 (Nat.not_lt.mpr (q x z))⟩
end OwnHeaps
end Jvm.RoadKit
namespace Jvm.OwnKit
open Sem ClassFile Op Lib Jvm.Stand Jvm.Free Jvm.LawKit Jvm.RoadKit Bundle
/-! the author's own layer: a walk as a chain of goals 'from this frame the body ends right' -/
/-- from this frame on the body comes to an end of which Q holds -/
def Goes (tb : Tables) (e : Env) (below : List Frame) (Q : Outcome → State → Prop) (T : State) (g : JFrame) : Prop :=
  ∃ s₂ o, Steps tb e below (T.setTop g) s₂ ∧ s₂.status = .running ∧ Ended s₂ below o ∧ Q o s₂
section Core
variable {tb : Tables} {e : Env} {below : List Frame} {Q : Outcome → State → Prop} {T T' : State} {g g' : JFrame}
theorem Goes.go (st : ∀ t, Steps tb e below (T'.setTop g') t → Steps tb e below (T.setTop g) t) (k : Goes tb e below Q T' g') : Goes tb e below Q T g := by
  obtain ⟨s₂, o, h1, h2⟩ := k
  exact ⟨s₂, o, st _ h1, h2⟩
theorem Goes.via (st : Steps tb e below (T.setTop g) (T'.setTop g')) (k : Goes tb e below Q T' g') : Goes tb e below Q T g := Goes.go (fun _ h => st.trans h) k
theorem Goes.cast {g1 : JFrame} (q : g = g1) (k : Goes tb e below Q T g1) : Goes tb e below Q T g := q ▸ k
end Core
/-! heaps -/
section Heaps
variable {Z : State} {EL : List (String × Nat)} {vm vm0 : Vm} {h h' h0 h2 hm : Heap} {ws : List Addr} {a b : Addr}
/-- safe under whatever alike tables -/
def SafeA (Z : State) (EL : List (String × Nat)) (h : Heap) (x : Addr) : Prop := ∀ vm : Vm, Z.vm.Alike vm → Safe Z EL vm h x
theorem SafeA.exa {C : String} (E : Exa Z h a C) (h1 : C ≠ "java/lang/String") (h2 : C ≠ "[B") : SafeA Z EL h a := fun _ hal => Safe.exa hal E h1 h2
theorem SafeA.arv {k : ClassId} {ty : FieldType} {z : Int32} {vs : List Value} {dv : Value} (A : Arv Z h a k ty z vs dv) (ht : ty ≠ .byte) : SafeA Z EL h a := fun _ hal => Safe.arv hal A ht
theorem SafeA.nil : SafeA Z [] h a := fun _ _ B => by obtain ⟨p, hp, -⟩ := B; cases hp
/-- how the mark goes on: it stays where only younger cells were written; or it is set anew, where what was written is younger or safe -/
def Mark (Z : State) (EL : List (String × Nat)) (hm h : Heap) (ws : List Addr) (h' hm' : Heap) : Prop :=
  (hm' = hm ∧ ∀ x ∈ ws, hm.size ≤ x) ∨ (hm' = h' ∧ ∀ x ∈ ws, hm.size ≤ x ∨ SafeA Z EL h x)
theorem Mark.stay (q : ∀ x ∈ ws, hm.size ≤ x) : Mark Z EL hm h ws h' hm := Or.inl ⟨rfl, q⟩
theorem Mark.anew (q : ∀ x ∈ ws, hm.size ≤ x ∨ SafeA Z EL h x) : Mark Z EL hm h ws h' h' := Or.inr ⟨rfl, q⟩
theorem mark_go {vs : Vm} {hs hm' : Heap} (hal : Z.vm.Alike vm0) (C : CHr Z EL vs hs vm0 hm) (E : Ext hm h) (K : Keep h h' ws) (M : Mark Z EL hm h ws h' hm') : CHr Z EL vs hs vm0 hm' ∧ Ext hm' h' := by
  rcases M with ⟨rfl, q⟩ | ⟨rfl, q⟩
  · exact ⟨C, E.oKeep K q⟩
  · have C1 := C.trans (CHr.ext E C.1)
    exact ⟨C1.trans (CHr.keep K (fun x hx => (q x hx).elim (fun y => Safe.ext E C.1 (Safe.new y)) (fun y => y _ hal)) C1.1), Ext.oRefl _⟩
end Heaps
/-! the walk -/
/-- where a walk stands: N: it may not have interned; hm: the mark (literals that the tables book lie in it); h: the heap -/
def Wk (N : Prop) (p : Program) (l : Launch) (e : Env) (R : Room) (s : State) (m : MethodId) (args : Array Value) (below : List Frame) (meth : Method) (c : Code) (Z : State) (own : String) (EL : List (String × Nat)) (hm : Heap) (T : State) (h : Heap) (cells slots : Nat) : Prop :=
  ∃ (vm0 : Vm) (locs : List Loc) (k0 : Nat), (N → vm0 = s.vm) ∧ Stand p l e R (s.setVm vm0) m args below meth c T locs cells slots ∧ T.heap = h ∧ p.tables.exec = Jvm.exec ∧ Z.Warmed39 vm0 ∧ vm0.findClass own = some m.cls ∧ Fr Z.heap.size locs ∧ s.Since vm0 k0 ∧ k0 ≤ h.size ∧ CHr Z EL s.vm s.heap vm0 hm ∧ Ext hm h ∧ Ext Z.heap h
/-- the two kinds of end -/
def EndN (Z s : State) (C S : Nat) (Qv : Option Value → Heap → Prop) (o : Outcome) (U : State) : Prop := ∃ v L, o = .returned v ∧ (Qv v U.heap ∧ Fr Z.heap.size L) ∧ FrameEnd s o U L C S
def EndS (Z s : State) (EL : List (String × Nat)) (C S : Nat) (Qv : Option Value → Heap → Prop) (o : Outcome) (U : State) : Prop := ∃ v L, o = .returned v ∧ (Qv v U.heap ∧ Fr Z.heap.size L) ∧ CHr Z EL s.vm s.heap U.vm U.heap ∧ ReturnedEndW s o U L C S
/-- a callee's contract: it interns nothing -/
def CtrN (l : Launch) (Z : State) (y : MethodName) (bytes : ByteArray) (maxL : Nat) (ret : Option FieldType) (rm : Room) (as' : Array Value) (h0 : Heap) (Qv : Option Value → Heap → Prop) : Prop :=
  ∀ ws, MetFree l y (head1 (Cond.code y bytes maxL ret :: ws) rm) (fun a U => a = as' ∧ Z.Warmed39 U.vm ∧ U.heap = h0) (fun _ _ _ _ _ => True) (fun _ U o U' => EndN Z U rm.cells rm.slots Qv o U')
/-- a callee's contract: it may intern -/
def CtrS (l : Launch) (Z : State) (EL : List (String × Nat)) (y : MethodName) (bytes : ByteArray) (maxL : Nat) (ret : Option FieldType) (rm : Room) (as' : Array Value) (h0 : Heap) (Qv : Option Value → Heap → Prop) : Prop :=
  ∀ ws, MetFree l y (head1 (Cond.code y bytes maxL ret :: ws) rm) (fun a U => a = as' ∧ Z.Warmed39 U.vm ∧ U.heap = h0 ∧ CHv Z EL U.vm h0) (fun _ _ _ _ _ => True) (fun _ U o U' => EndS Z U EL rm.cells rm.slots Qv o U')
section Walk
variable {N : Prop} {p : Program} {l : Launch} {e : Env} {R : Room} {s : State} {m : MethodId} {args : Array Value} {below : List Frame} {meth : Method} {c : Code} {Z : State} {a0 : Array Value} {own : String} {EL : List (String × Nat)} {hm : Heap} {T : State} {h : Heap} {cells slots : Nat} {Q : Outcome → State → Prop} {g : JFrame}
theorem Wk.here (X : Wk N p l e R s m args below meth c Z own EL hm T h cells slots) : At T m c below := by obtain ⟨_, _, _, _, X, _⟩ := X; exact X.here
theorem Wk.ex (X : Wk N p l e R s m args below meth c Z own EL hm T h cells slots) : p.tables.exec = Jvm.exec := by obtain ⟨_, _, _, _, _, _, q, _⟩ := X; exact q
theorem Wk.ext (X : Wk N p l e R s m args below meth c Z own EL hm T h cells slots) : Ext hm h := by obtain ⟨_, _, _, _, _, _, _, _, _, _, _, _, _, q, _⟩ := X; exact q
theorem Wk.old (X : Wk N p l e R s m args below meth c Z own EL hm T h cells slots) : Ext Z.heap h := by obtain ⟨_, _, _, _, _, _, _, _, _, _, _, _, _, _, q⟩ := X; exact q
theorem Wk.free (X : Wk N p l e R s m args below meth c Z own EL hm T h cells slots) : Wk False p l e R s m args below meth c Z own EL hm T h cells slots := by
  obtain ⟨vm0, locs, k0, _, r⟩ := X; exact ⟨vm0, locs, k0, fun q => q.elim, r⟩
/-- the mark may be set anew at any time -/
theorem Wk.mark (X : Wk N p l e R s m args below meth c Z own EL hm T h cells slots) : Wk N p l e R s m args below meth c Z own EL h T h cells slots := by
  obtain ⟨vm0, locs, k0, h1, h2, h3, h4, h5, h6, h7, h8, h9, h10, h11, h12⟩ := X
  exact ⟨vm0, locs, k0, h1, h2, h3, h4, h5, h6, h7, h8, h9, h10.trans (CHr.ext h11 h10.1), Ext.oRefl _, h12⟩
theorem Wk.mono {c' n' : Nat} (X : Wk N p l e R s m args below meth c Z own EL hm T h cells slots) (hc : cells ≤ c') (hn : slots ≤ n') : Wk N p l e R s m args below meth c Z own EL hm T h c' n' := by
  obtain ⟨vm0, locs, k0, h1, h2, r⟩ := X
  exact ⟨vm0, locs, k0, h1, h2.mono hc hn, r⟩
theorem Wk.start {s₁ : State} {h0 : Heap} (X : Stand p l e R s m args below meth c s₁ [] 0 0) (e0 : s₁.heap = h0) (es : s.heap = h0) (hx : p.tables.exec = Jvm.exec) (hZ : Z.Warmed39 s.vm) (hown : s.vm.findClass own = some m.cls) (H : CHv Z EL s.vm h0) (hO : Ext Z.heap h0) :
    Wk N p l e R s m args below meth c Z own EL h0 s₁ h0 0 0 :=
  ⟨s.vm, [], s.heap.size, fun _ => rfl, X, e0, hx, hZ, hown, Fr.nil _, (State.WarmedH.refl s).since _, by rw [es]; exact Nat.le_refl _, by rw [es]; exact CHr.refl H, Ext.oRefl _, hO⟩
/-! leaving -/
theorem Goes.outN {C S : Nat} {Qv : Option Value → Heap → Prop} (X : Wk True p l e R s m args below meth c Z own EL hm T h cells slots) {v : Option Value} (hv : meth.sig.returnType = none → v = none) (hlk : meth.locks = false)
    (st : ∀ fs, (∀ (f : JFrame) (acts : List Action), f.method = m → f.locked = none → f.entered = [] → (doReturn e (T.setTop f) acts v).1 = T.setFrames fs) → Steps p.tables e below (T.setTop g) (T.setFrames fs))
    (hq : Qv v h) (hc : cells ≤ C) (hs : slots ≤ S) : Goes p.tables e below (EndN Z s C S Qv) T g := by
  obtain ⟨vm0, locs, k0, h1, X, h3, h4, h5, h6, h7, h8, h9, h10, h11, h12⟩ := X
  obtain rfl := h1 trivial
  obtain ⟨fs, hr, hrun, hended, hW, hsame⟩ := X.leave (v := v) hv hlk
  exact ⟨_, _, st fs hr, hrun, hended, v, locs, rfl, ⟨by rw [← h3] at hq; exact hq, h7⟩, ⟨v, rfl⟩, hW, hsame.mono hc hs⟩
theorem Goes.outS {C S : Nat} {Qv : Option Value → Heap → Prop} (X : Wk N p l e R s m args below meth c Z own EL hm T h cells slots) (hEL : EW Z a0 EL) {v : Option Value} (hv : meth.sig.returnType = none → v = none) (hlk : meth.locks = false)
    (st : ∀ fs, (∀ (f : JFrame) (acts : List Action), f.method = m → f.locked = none → f.entered = [] → (doReturn e (T.setTop f) acts v).1 = T.setFrames fs) → Steps p.tables e below (T.setTop g) (T.setFrames fs))
    (hq : Qv v h) (hc : cells ≤ C) (hs : slots ≤ S) : Goes p.tables e below (EndS Z s EL C S Qv) T g := by
  obtain ⟨vm0, locs, k0, h1, X, h3, h4, h5, h6, h7, h8, h9, h10, h11, h12⟩ := X
  have h9' : k0 ≤ T.heap.size := by rw [h3]; exact h9
  obtain ⟨fs, hr, hrun, hended, r1, r2, r3, r4⟩ := X.leaveW h8 h9' (v := v) hv hlk
  have C1 := h10.trans (CHr.ext h11 h10.1)
  have C2 : CHr Z EL vm0 h T.vm h := CHv.at X h5 hEL C1.1
  refine ⟨_, _, st fs hr, hrun, hended, v, locs, rfl, ⟨by rw [← h3] at hq; exact hq, h7⟩, ?_, r1, r2, r3, r4.mono hc hs⟩
  have C3 := C1.trans C2
  rw [← h3] at C3
  exact C3
/-- the six returns; t: what is owed at the end (EndN or EndS) by outN, outS -/
theorem st_int {vm0 : Vm} {locs : List Loc} (X : Stand p l e R (s.setVm vm0) m args below meth c T locs cells slots) (hx : p.tables.exec = Jvm.exec) {pc : Nat} {Ls : Array Slot} {z : Int32} {rest : List Value} (hret : meth.sig.returnType = some .int) (hd : decode c.code pc = .ok (.ireturn, 1)) :
    ∀ fs, (∀ (f : JFrame) (acts : List Action), f.method = m → f.locked = none → f.entered = [] → (doReturn e (T.setTop f) acts (some (.int z))).1 = T.setFrames fs) → Steps p.tables e below (T.setTop (mkF m pc Ls (.int z :: rest))) (T.setFrames fs) :=
  fun fs hl => retOut X hx hret rfl (Or.inl ⟨rfl, Or.inl rfl, z, rfl⟩) hd hl
theorem Wk.rI (X : Wk N p l e R s m args below meth c Z own EL hm T h cells slots) {pc : Nat} {Ls : Array Slot} {z : Int32} {rest : List Value} (hret : meth.sig.returnType = some .int) (hd : decode c.code pc = .ok (.ireturn, 1)) :
    ∀ fs, (∀ (f : JFrame) (acts : List Action), f.method = m → f.locked = none → f.entered = [] → (doReturn e (T.setTop f) acts (some (.int z))).1 = T.setFrames fs) → Steps p.tables e below (T.setTop (mkF m pc Ls (.int z :: rest))) (T.setFrames fs) := by
  obtain ⟨vm0, locs, k0, h1, X', h3, h4, r⟩ := X
  exact fun fs hl => retOut X' h4 hret rfl (Or.inl ⟨rfl, Or.inl rfl, z, rfl⟩) hd hl
theorem Wk.rB (X : Wk N p l e R s m args below meth c Z own EL hm T h cells slots) {t : FieldType} {pc : Nat} {Ls : Array Slot} {z : Int32} {rest : List Value} (hret : meth.sig.returnType = some t) (ht : t = .boolean ∨ t = .byte ∨ t = .char ∨ t = .short) (hd : decode c.code pc = .ok (.ireturn, 1)) :
    ∀ fs, (∀ (f : JFrame) (acts : List Action), f.method = m → f.locked = none → f.entered = [] → (doReturn e (T.setTop f) acts (some (.int (nar t z)))).1 = T.setFrames fs) → Steps p.tables e below (T.setTop (mkF m pc Ls (.int z :: rest))) (T.setFrames fs) := by
  obtain ⟨vm0, locs, k0, h1, X', h3, h4, r⟩ := X
  exact fun fs hl => retN X' h4 hret ht hd hl
theorem Wk.rJ (X : Wk N p l e R s m args below meth c Z own EL hm T h cells slots) {pc : Nat} {Ls : Array Slot} {z : Int64} {rest : List Value} (hret : meth.sig.returnType = some .long) (hd : decode c.code pc = .ok (.lreturn, 1)) :
    ∀ fs, (∀ (f : JFrame) (acts : List Action), f.method = m → f.locked = none → f.entered = [] → (doReturn e (T.setTop f) acts (some (.long z))).1 = T.setFrames fs) → Steps p.tables e below (T.setTop (mkF m pc Ls (.long z :: rest))) (T.setFrames fs) := by
  obtain ⟨vm0, locs, k0, h1, X', h3, h4, r⟩ := X
  exact fun fs hl => retOut X' h4 hret rfl (Or.inr (Or.inl ⟨rfl, rfl, z, rfl⟩)) hd hl
theorem Wk.rA (X : Wk N p l e R s m args below meth c Z own EL hm T h cells slots) {t : FieldType} {pc : Nat} {Ls : Array Slot} {w : Value} {rest : List Value} (hret : meth.sig.returnType = some t) (ht : t.isReference = true) (hw : w.isRef = true) (hd : decode c.code pc = .ok (.areturn, 1)) :
    ∀ fs, (∀ (f : JFrame) (acts : List Action), f.method = m → f.locked = none → f.entered = [] → (doReturn e (T.setTop f) acts (some w)).1 = T.setFrames fs) → Steps p.tables e below (T.setTop (mkF m pc Ls (w :: rest))) (T.setFrames fs) := by
  obtain ⟨vm0, locs, k0, h1, X', h3, h4, r⟩ := X
  have hn : narrow t w = w := by
    rcases ref_cases hw with rfl | ⟨_, rfl⟩ <;> cases t <;> first | rfl | exact absurd ht (by decide)
  exact fun fs hl => retOut X' h4 hret hn (Or.inr (Or.inr (Or.inr (Or.inr ⟨rfl, ht, hw⟩)))) hd hl
theorem Wk.rV (X : Wk N p l e R s m args below meth c Z own EL hm T h cells slots) {pc : Nat} {Ls : Array Slot} (hret : meth.sig.returnType = none) (hd : decode c.code pc = .ok (.return_, 1)) :
    ∀ fs, (∀ (f : JFrame) (acts : List Action), f.method = m → f.locked = none → f.entered = [] → (doReturn e (T.setTop f) acts none).1 = T.setFrames fs) → Steps p.tables e below (T.setTop (mkF m pc Ls [])) (T.setFrames fs) := by
  obtain ⟨vm0, locs, k0, h1, X', h3, h4, r⟩ := X
  exact fun fs hl => X'.returnOut h4 hret hd hl
/-! steps that move the tables or the heap -/
theorem Wk.getF (X : Wk N p l e R s m args below meth c Z own EL hm T h cells slots) {R0 O n d host : String} {index : Nat} (w : (Cond.fieldLink own index R0 n d).before a0 Z = true ∨ (Cond.fieldLinkNest own index R0 n d host).before a0 Z = true) (via : Via Z R0 O n d) {a : Addr} {v : Value} (F : Fld Z h a O n d v)
    {g : JFrame} (hg : g.method = m) {rest : List Value} (hs : g.stack = .ref a :: rest) (hd : decode c.code g.pc = .ok (.getfield index, 3))
    (k : ∀ T', Wk N p l e R s m args below meth c Z own EL hm T' h cells slots → Goes p.tables e below Q T' { g with pc := g.pc + 3, stack := v :: rest }) : Goes p.tables e below Q T g := by
  obtain ⟨vm0, locs, k0, h1, X', h3, h4, h5, h6, r⟩ := X
  obtain ⟨T', X2, e2, st⟩ := RoadKit.getF (s := s.setVm vm0) X' h4 h5 h6 w via h3 F hg hs hd
  exact Goes.go st (k T' ⟨vm0, locs, k0, h1, X2, e2, h4, h5, h6, r⟩)
theorem Wk.getS (X : Wk N p l e R s m args below meth c Z own EL hm T h cells slots) {R0 O n d host : String} {index : Nat} (w : (Cond.fieldLink own index R0 n d).before a0 Z = true ∨ (Cond.fieldLinkNest own index R0 n d host).before a0 Z = true) (via : Via Z R0 O n d) {v : Value} (F : Sta Z Z.heap O n d v)
    {g : JFrame} (hg : g.method = m) (hd : decode c.code g.pc = .ok (.getstatic index, 3))
    (k : ∀ T', Wk N p l e R s m args below meth c Z own EL hm T' h cells slots → Goes p.tables e below Q T' { g with pc := g.pc + 3, stack := v :: g.stack }) : Goes p.tables e below Q T g := by
  have hOld := X.old
  obtain ⟨vm0, locs, k0, h1, X', h3, h4, h5, h6, r⟩ := X
  obtain ⟨T', X2, e2, st⟩ := getS2 (s := s.setVm vm0) X' h4 h5 h6 w via h3 (F.ext hOld) hg hd
  exact Goes.go st (k T' ⟨vm0, locs, k0, h1, X2, e2, h4, h5, h6, r⟩)
theorem Wk.new (X : Wk N p l e R s m args below meth c Z own EL hm T h cells slots) {C : String} {index n : Nat} (w : (Cond.classLink own index C).before a0 Z = true) (wi : (Cond.instantiable C n).before a0 Z = true) (wz : (Cond.initialized C).before a0 Z = true)
    {g : JFrame} (hg : g.method = m) (hd : decode c.code g.pc = .ok (.new index, 3)) (hc : cells + 1 ≤ R.cells) (hl : slots + n ≤ R.slots)
    (k : ∀ (T' : State) (h' : Heap) (a : Addr), a = h.size → Wk N p l e R s m args below meth c Z own EL hm T' h' (cells + 1) (slots + n) → Ext h h' → Exa Z h' a C → (∀ {O nm d : String} {ty : FieldType}, Laid Z a0 C O nm d → parseFieldDescriptor d = some ty → Fld Z h' a O nm d (defaultValue ty)) →
      Goes p.tables e below Q T' { g with pc := g.pc + 3, stack := .ref a :: g.stack }) : Goes p.tables e below Q T g := by
  obtain ⟨vm0, locs, k0, h1, X', h3, h4, h5, h6, h7, h8, h9, h10, h11, h12⟩ := X
  obtain ⟨T', h', X2, e2, E, A, D, -, st⟩ := newO (s := s.setVm vm0) X' h4 h5 h6 w wi wz h3 hg hd hc hl
  exact Goes.go st (k T' h' _ rfl ⟨vm0, locs, k0, h1, X2, e2, h4, h5, h6, h7, h8, Nat.le_trans h9 E.1, h10, h11.oTrans E, h12.oTrans E⟩ E A D)
theorem Wk.newA (X : Wk N p l e R s m args below meth c Z own EL hm T h cells slots) {aty : ArrayType} (w : (Cond.arrayClass (newarray.typeOf aty)).before a0 Z = true)
    {g : JFrame} (hg : g.method = m) (hd : decode c.code g.pc = .ok (.newarray aty, 2)) {n : Int32} {rest : List Value} (hs : g.stack = .int n :: rest) (hn : ¬ n < 0) {cap : Nat} (hcap : n.toNatClampNeg ≤ cap) (hb : cap * 8 ≤ 536870912) (hc : cells + 1 ≤ R.cells) (hl : slots + cap ≤ R.slots)
    (k : ∀ (T' : State) (h' : Heap) (a : Addr) (kA : ClassId), a = h.size → Wk N p l e R s m args below meth c Z own EL hm T' h' (cells + 1) (slots + cap) → Ext h h' → Arv Z h' a kA (newarray.typeOf aty) n [] (defaultValue (newarray.typeOf aty)) → Exa Z h' a ("[" ++ (newarray.typeOf aty).toString) →
      Goes p.tables e below Q T' { g with pc := g.pc + 2, stack := .ref a :: rest }) : Goes p.tables e below Q T g := by
  obtain ⟨vm0, locs, k0, h1, X', h3, h4, h5, h6, h7, h8, h9, h10, h11, h12⟩ := X
  obtain ⟨T', h', kA, X2, e2, E, A, B, st⟩ := newPE (s := s.setVm vm0) X' h4 h5 w h3 hg hd hs hn hcap hb hc hl rfl
  exact Goes.go st (k T' h' _ kA rfl ⟨vm0, locs, k0, h1, X2, e2, h4, h5, h6, h7, h8, Nat.le_trans h9 E.1, h10, h11.oTrans E, h12.oTrans E⟩ E (Arv.new A hn) B)
theorem own_fitC {a : Addr} {kA : ClassId} {ty : FieldType} {z : Int32} {vs : List Value} {dv : Value} {cl : Cell} (A : Arr Z h a cl ty) (Hh : Has cl vs dv) (G : ∀ i, i < cl.slots.size → fits ty (vs.getD i dv) = true) : FitC Z cl := by
  intro i v hv
  obtain ⟨-, kk, hk, comp, hkind⟩ := A.2.1
  have hi : i < cl.slots.size := (Array.getElem?_eq_some_iff.mp hv).1
  have e := Hh i hi
  rw [hv] at e
  cases e
  have e2 : Z.slotType? cl.cls .none i = some ty := by simp [State.slotType?, hk, hkind]
  simpa [State.fitsSlot, e2] using G i hi
theorem Wk.cloneV (X : Wk N p l e R s m args below meth c Z own EL hm T h cells slots) {ad : String} {index : Nat}
    (w1 : (Cond.methodLink own index ⟨ad, "clone", "()Ljava/lang/Object;"⟩).before a0 Z = true) (w2 : (Cond.sameMethod ad "java/lang/Object" "clone" "()Ljava/lang/Object;").before a0 Z = true) (w3 : (Cond.native ⟨"java/lang/Object", "clone", "()Ljava/lang/Object;"⟩).before a0 Z = true)
    (w4 : (Cond.instanceMethod ⟨"java/lang/Object", "clone", "()Ljava/lang/Object;"⟩).before a0 Z = true) (w5 : (Cond.selects ad ⟨ad, "clone", "()Ljava/lang/Object;"⟩ ⟨"java/lang/Object", "clone", "()Ljava/lang/Object;"⟩).before a0 Z = true) (w6 : (Cond.castable ad "java/lang/Cloneable").before a0 Z = true)
    {a : Addr} {kA : ClassId} {ty : FieldType} {z : Int32} {vs : List Value} {dv : Value} (A : Arv Z h a kA ty z vs dv) (E : Exa Z h a ad) {g : JFrame} (hg : g.method = m) (hsize : g.locals.size = c.maxLocals) {rest : List Value} (hs : g.stack = .ref a :: rest) (hd : decode c.code g.pc = .ok (.invokevirtual index, 3))
    (hf : 1 ≤ R.frames) {W cap : Nat} (hW : 2 * g.monitorRoom + (rest.map fun v => v.category).sum ≤ W) (hl : W + 14 ≤ R.locals) (hcap : z.toNatClampNeg ≤ cap) (hc : cells + 1 ≤ R.cells) (hsl : slots + cap ≤ R.slots)
    (k : ∀ (T' : State) (h' : Heap) (b : Addr), b = h.size → Wk N p l e R s m args below meth c Z own EL hm T' h' (cells + 1) (slots + cap) → Ext h h' → Arv Z h' b kA ty z vs dv → Exa Z h' b ad →
      Goes p.tables e below Q T' { g with pc := g.pc + 3, stack := .ref b :: rest }) : Goes p.tables e below Q T g := by
  obtain ⟨vm0, locs, k0, h1, X', h3, h4, h5, h6, h7, h8, h9, h10, h11, h12⟩ := X
  obtain ⟨cl, Ar, q, Sz, Nn, Hh, G⟩ := A
  obtain ⟨T', h', X2, e2, E2, A2, B2, st⟩ := cloneA (s := s.setVm vm0) X' h4 h5 h6 w1 w2 w3 w4 w5 w6 h3 Ar E (own_fitC (kA := kA) (z := z) Ar Hh G) hg hsize hs hd hf hW hl (cap := cap) (by rw [Sz]; exact hcap) hc hsl
  exact Goes.go st (k T' h' _ rfl ⟨vm0, locs, k0, h1, X2, e2, h4, h5, h6, h7, h8, Nat.le_trans h9 E2.1, h10, h11.oTrans E2, h12.oTrans E2⟩ E2 ⟨_, A2, q, Sz, Nn, Hh, G⟩ B2)
/-- the core of every write of one slot -/
theorem Wk.wrote {vm0 : Vm} {locs : List Loc} {k0 : Nat} {T' : State} {h' hm' : Heap} {a : Addr} {sl : Nat} {v : Value} (h1 : N → vm0 = s.vm) (h4 : p.tables.exec = Jvm.exec) (h5 : Z.Warmed39 vm0) (h6 : vm0.findClass own = some m.cls) (h7 : Fr Z.heap.size locs) (h8 : s.Since vm0 k0) (h9 : k0 ≤ h.size) (h10 : CHr Z EL s.vm s.heap vm0 hm) (h11 : Ext hm h) (h12 : Ext Z.heap h)
    (X2 : Stand p l e R (s.setVm vm0) m args below meth c T' (locs ++ [⟨a, sl⟩]) cells slots) (e2 : T'.heap = h') (W : Wr h h' a sl v) (ga : Z.heap.size ≤ a) (M : Mark Z EL hm h [a] h' hm') : Wk N p l e R s m args below meth c Z own EL hm' T' h' cells slots := by
  have K := Keep.of_wr W
  obtain ⟨C, E⟩ := mark_go h5.alike h10 h11 K M
  exact ⟨vm0, _, k0, h1, X2, e2, h4, h5, h6, Fr.snoc X2 h7 ga, h8, Nat.le_trans h9 K.1, C, E, h12.oKeep K (fun x hx => by cases List.mem_singleton.mp hx; exact ga)⟩
theorem Wk.putF {hm' : Heap → Heap} (X : Wk N p l e R s m args below meth c Z own EL hm T h cells slots) {R0 O n d host C : String} {index kk : Nat} {ty : FieldType} (w : (Cond.fieldLink own index R0 n d).before a0 Z = true ∨ (Cond.fieldLinkNest own index R0 n d host).before a0 Z = true) (via : Via Z R0 O n d)
    {a : Addr} {v old : Value} (F : Fld Z h a O n d old) (E : Exa Z h a C) (L : (Cond.lays C O n d).before a0 Z = true ∨ ((Cond.laysFinal C O n d).before a0 Z = true ∧ own = O ∧ meth.name = "<init>")) (wi : (Cond.instantiable C kk).before a0 Z = true)
    (hty : parseFieldDescriptor d = some ty) (hn : narrow ty v = v) (hf : fits ty v = true) (ga : Z.heap.size ≤ a) (M : ∀ h', Mark Z EL hm h [a] h' (hm' h')) {g : JFrame} (hg : g.method = m) {rest : List Value} (hs : g.stack = v :: .ref a :: rest) (hd : decode c.code g.pc = .ok (.putfield index, 3))
    (k : ∀ (T' : State) (h' : Heap), Wk N p l e R s m args below meth c Z own EL (hm' h') T' h' cells slots → Wr h h' a (Jvm.RoadKit.slotOf Z O n d) v → Goes p.tables e below Q T' { g with pc := g.pc + 3, stack := rest }) : Goes p.tables e below Q T g := by
  obtain ⟨vm0, locs, k0, h1, X', h3, h4, h5, h6, h7, h8, h9, h10, h11, h12⟩ := X
  obtain ⟨T', h', X2, e2, W, st⟩ := RoadKit.putF (s := s.setVm vm0) X' h4 h5 h6 w via h3 F E L wi hty hn hf hg hs hd
  exact Goes.go st (k T' h' (Wk.wrote h1 h4 h5 h6 h7 h8 h9 h10 h11 h12 X2 e2 W ga (M h')) W)
theorem Wk.putFN {hm' : Heap → Heap} (X : Wk N p l e R s m args below meth c Z own EL hm T h cells slots) {R0 O n d C : String} {index kk : Nat} {ty : FieldType} (w : (Cond.fieldLink own index R0 n d).before a0 Z = true) (via : Via Z R0 O n d)
    {a : Addr} {v v' old : Value} (F : Fld Z h a O n d old) (E : Exa Z h a C) (L : (Cond.lays C O n d).before a0 Z = true ∨ ((Cond.laysFinal C O n d).before a0 Z = true ∧ own = O ∧ meth.name = "<init>")) (wi : (Cond.instantiable C kk).before a0 Z = true)
    (hty : parseFieldDescriptor d = some ty) (hn : narrow ty v = v') (hf : fits ty v' = true) (ga : Z.heap.size ≤ a) (M : ∀ h', Mark Z EL hm h [a] h' (hm' h')) {g : JFrame} (hg : g.method = m) {rest : List Value} (hs : g.stack = v :: .ref a :: rest) (hd : decode c.code g.pc = .ok (.putfield index, 3))
    (k : ∀ (T' : State) (h' : Heap), Wk N p l e R s m args below meth c Z own EL (hm' h') T' h' cells slots → Wr h h' a (Jvm.RoadKit.slotOf Z O n d) v' → Goes p.tables e below Q T' { g with pc := g.pc + 3, stack := rest }) : Goes p.tables e below Q T g := by
  obtain ⟨vm0, locs, k0, h1, X', h3, h4, h5, h6, h7, h8, h9, h10, h11, h12⟩ := X
  obtain ⟨T', h', X2, e2, W, st⟩ := RoadKit.putFN (s := s.setVm vm0) X' h4 h5 h6 w via h3 F E L wi hty hn hf hg hs hd
  exact Goes.go st (k T' h' (Wk.wrote h1 h4 h5 h6 h7 h8 h9 h10 h11 h12 X2 e2 W ga (M h')) W)
theorem wr_same {O n d : String} {h' : Heap} {a : Addr} {v : Value} (W : Wr h h' a (Jvm.RoadKit.slotOf Z O n d) v) (F : Fld Z h a O n d v) : h' = h := by
  obtain ⟨cell, h1, -, hlt, rfl⟩ := W
  obtain ⟨c2, cf, k, i, f, g1, g2, -, -, -, -, g7⟩ := F
  cases h1.symm.trans g1
  have es : Jvm.RoadKit.slotOf Z O n d = f.slot := by simp [Jvm.RoadKit.slotOf, g2]
  have e1 : cell.setSlot f.slot v = cell := by
    have e2 : cell.slots.setIfInBounds f.slot v = cell.slots := by
      apply Array.ext_getElem?
      intro j
      by_cases q : f.slot = j
      · subst q
        rw [Array.getElem?_setIfInBounds_self_of_lt (Array.getElem?_eq_some_iff.mp g7).1, g7]
      · rw [Array.getElem?_setIfInBounds_ne q]
    show { cell with slots := cell.slots.setIfInBounds f.slot v } = cell
    rw [e2]
  rw [es, e1]
  apply Array.ext_getElem?
  intro j
  by_cases q : a = j
  · subst q
    rw [Array.getElem?_setIfInBounds_self_of_lt (Array.getElem?_eq_some_iff.mp h1).1, h1]
  · rw [Array.getElem?_setIfInBounds_ne q]
theorem Wk.putFNsame (X : Wk N p l e R s m args below meth c Z own EL hm T h cells slots) {R0 O n d C : String} {index kk : Nat} {ty : FieldType} (w : (Cond.fieldLink own index R0 n d).before a0 Z = true) (via : Via Z R0 O n d)
    {a : Addr} {v v' : Value} (F : Fld Z h a O n d v') (E : Exa Z h a C) (L : (Cond.lays C O n d).before a0 Z = true ∨ ((Cond.laysFinal C O n d).before a0 Z = true ∧ own = O ∧ meth.name = "<init>")) (wi : (Cond.instantiable C kk).before a0 Z = true)
    (hty : parseFieldDescriptor d = some ty) (hn : narrow ty v = v') (hf : fits ty v' = true) (ga : Z.heap.size ≤ a) {g : JFrame} (hg : g.method = m) {rest : List Value} (hs : g.stack = v :: .ref a :: rest) (hd : decode c.code g.pc = .ok (.putfield index, 3))
    (k : ∀ (T' : State), Wk N p l e R s m args below meth c Z own EL hm T' h cells slots → Goes p.tables e below Q T' { g with pc := g.pc + 3, stack := rest }) : Goes p.tables e below Q T g := by
  obtain ⟨vm0, locs, k0, h1, X', h3, h4, h5, h6, h7, h8, h9, h10, h11, h12⟩ := X
  obtain ⟨T', h', X2, e2, W, st⟩ := RoadKit.putFN (s := s.setVm vm0) X' h4 h5 h6 w via h3 F E L wi hty hn hf hg hs hd
  obtain rfl := wr_same W F
  exact Goes.go st (k T' ⟨vm0, _, k0, h1, X2, e2, h4, h5, h6, Fr.snoc X2 h7 ga, h8, h9, h10, h11, h12⟩)
theorem Wk.castore {hm' : Heap → Heap} (X : Wk N p l e R s m args below meth c Z own EL hm T h cells slots) {a : Addr} {kA : ClassId} {z j x : Int32} {vs : List Value} {dv : Value} (A : Arv Z h a kA .char z vs dv) (hj : ¬ j < 0 ∧ j < z) {i : Nat} (hi : j.toNatClampNeg = i) (hl : i < vs.length) (ga : Z.heap.size ≤ a) (M : ∀ h', Mark Z EL hm h [a] h' (hm' h'))
    {g : JFrame} (hg : g.method = m) {rest : List Value} (hs : g.stack = .int x :: .int j :: .ref a :: rest) (hd : decode c.code g.pc = .ok (.castore, 1))
    (k : ∀ (T' : State) (h' : Heap), Wk N p l e R s m args below meth c Z own EL (hm' h') T' h' cells slots → Wr h h' a j.toNatClampNeg (.int (nar .char x)) → Arv Z h' a kA .char z (vs.set i (.int (nar .char x))) dv → Goes p.tables e below Q T' { g with pc := g.pc + 1, stack := rest }) : Goes p.tables e below Q T g := by
  obtain ⟨vm0, locs, k0, h1, X', h3, h4, h5, h6, h7, h8, h9, h10, h11, h12⟩ := X
  obtain ⟨cl, Ar, q, Sz, Nn, Hh, G⟩ := A
  obtain ⟨T', h', X2, e2, W, st⟩ := stC (s := s.setVm vm0) X' h4 h5 h3 Ar (j := j) (inb_of Sz hj) hg hs hd
  exact Goes.go st (k T' h' (Wk.wrote h1 h4 h5 h6 h7 h8 h9 h10 h11 h12 X2 e2 W ga (M h')) W (Arv.set Ar q Sz Nn Hh G (fits_nar_char _) W i hi hl))
theorem Wk.lastore {hm' : Heap → Heap} (X : Wk N p l e R s m args below meth c Z own EL hm T h cells slots) {a : Addr} {kA : ClassId} {z j : Int32} {x : Int64} {vs : List Value} {dv : Value} (A : Arv Z h a kA .long z vs dv) (hj : ¬ j < 0 ∧ j < z) {i : Nat} (hi : j.toNatClampNeg = i) (hl : i < vs.length) (ga : Z.heap.size ≤ a) (M : ∀ h', Mark Z EL hm h [a] h' (hm' h'))
    {g : JFrame} (hg : g.method = m) {rest : List Value} (hs : g.stack = .long x :: .int j :: .ref a :: rest) (hd : decode c.code g.pc = .ok (.lastore, 1))
    (k : ∀ (T' : State) (h' : Heap), Wk N p l e R s m args below meth c Z own EL (hm' h') T' h' cells slots → Wr h h' a j.toNatClampNeg (.long x) → Arv Z h' a kA .long z (vs.set i (.long x)) dv → Goes p.tables e below Q T' { g with pc := g.pc + 1, stack := rest }) : Goes p.tables e below Q T g := by
  obtain ⟨vm0, locs, k0, h1, X', h3, h4, h5, h6, h7, h8, h9, h10, h11, h12⟩ := X
  obtain ⟨cl, Ar, q, Sz, Nn, Hh, G⟩ := A
  obtain ⟨T', h', X2, e2, W, st⟩ := stJ (s := s.setVm vm0) X' h4 h5 h3 Ar (j := j) (inb_of Sz hj) hg hs hd
  exact Goes.go st (k T' h' (Wk.wrote h1 h4 h5 h6 h7 h8 h9 h10 h11 h12 X2 e2 W ga (M h')) W (Arv.set Ar q Sz Nn Hh G rfl W i hi hl))
theorem Wk.bastore {hm' : Heap → Heap} (X : Wk N p l e R s m args below meth c Z own EL hm T h cells slots) {a : Addr} {kA : ClassId} {z j x : Int32} {vs : List Value} {dv : Value} (A : Arv Z h a kA .byte z vs dv) (hj : ¬ j < 0 ∧ j < z) {i : Nat} (hi : j.toNatClampNeg = i) (hl : i < vs.length) (ga : Z.heap.size ≤ a) (M : ∀ h', Mark Z EL hm h [a] h' (hm' h'))
    {g : JFrame} (hg : g.method = m) {rest : List Value} (hs : g.stack = .int x :: .int j :: .ref a :: rest) (hd : decode c.code g.pc = .ok (.bastore, 1))
    (k : ∀ (T' : State) (h' : Heap), Wk N p l e R s m args below meth c Z own EL (hm' h') T' h' cells slots → Wr h h' a j.toNatClampNeg (.int (nar .byte x)) → Arv Z h' a kA .byte z (vs.set i (.int (nar .byte x))) dv → Goes p.tables e below Q T' { g with pc := g.pc + 1, stack := rest }) : Goes p.tables e below Q T g := by
  obtain ⟨vm0, locs, k0, h1, X', h3, h4, h5, h6, h7, h8, h9, h10, h11, h12⟩ := X
  obtain ⟨cl, Ar, q, Sz, Nn, Hh, G⟩ := A
  obtain ⟨T', h', X2, e2, W, st⟩ := stB (s := s.setVm vm0) X' h4 h5 h3 Ar (j := j) (inb_of Sz hj) hg hs hd
  exact Goes.go st (k T' h' (Wk.wrote h1 h4 h5 h6 h7 h8 h9 h10 h11 h12 X2 e2 W ga (M h')) W (Arv.set Ar q Sz Nn Hh G (fits_nar_byte _) W i hi hl))
/-! loads out of arrays, lengths -/
theorem Wk.caload (X : Wk N p l e R s m args below meth c Z own EL hm T h cells slots) {a : Addr} {kA : ClassId} {z j : Int32} {vs : List Value} {dv v : Value} (A : Arv Z h a kA .char z vs dv) (hj : ¬ j < 0 ∧ j < z) (hv : vs.getD j.toNatClampNeg dv = v)
    {g : JFrame} (hg : g.method = m) {rest : List Value} (hs : g.stack = .int j :: .ref a :: rest) (hd : decode c.code g.pc = .ok (.caload, 1)) : ∀ t, Steps p.tables e below (T.setTop { g with pc := g.pc + 1, stack := v :: rest }) t → Steps p.tables e below (T.setTop g) t := by
  obtain ⟨vm0, locs, k0, h1, X', h3, h4, h5, r⟩ := X
  obtain ⟨cl, Ar, q, Sz, Nn, Hh, G⟩ := A
  intro t k
  exact X'.caload h4 (j := j) (v := v) (by rw [h3]; exact Ar.1) (State.isArrayOf_alike h5.alike Ar.2.1) Ar.2.2 (inb_of Sz hj) (Hh.at (inb_of Sz hj) hv) hg hs hd t k
theorem Wk.laload (X : Wk N p l e R s m args below meth c Z own EL hm T h cells slots) {a : Addr} {kA : ClassId} {z j : Int32} {vs : List Value} {dv v : Value} (A : Arv Z h a kA .long z vs dv) (hj : ¬ j < 0 ∧ j < z) (hv : vs.getD j.toNatClampNeg dv = v)
    {g : JFrame} (hg : g.method = m) {rest : List Value} (hs : g.stack = .int j :: .ref a :: rest) (hd : decode c.code g.pc = .ok (.laload, 1)) : ∀ t, Steps p.tables e below (T.setTop { g with pc := g.pc + 1, stack := v :: rest }) t → Steps p.tables e below (T.setTop g) t := by
  obtain ⟨vm0, locs, k0, h1, X', h3, h4, h5, r⟩ := X
  obtain ⟨cl, Ar, q, Sz, Nn, Hh, G⟩ := A
  intro t k
  exact X'.laload h4 (j := j) (v := v) (by rw [h3]; exact Ar.1) (State.isArrayOf_alike h5.alike Ar.2.1) Ar.2.2 (inb_of Sz hj) (Hh.at (inb_of Sz hj) hv) hg hs hd t k
theorem Wk.baload (X : Wk N p l e R s m args below meth c Z own EL hm T h cells slots) {a : Addr} {kA : ClassId} {z j : Int32} {vs : List Value} {dv v : Value} (A : Arv Z h a kA .byte z vs dv) (hj : ¬ j < 0 ∧ j < z) (hv : vs.getD j.toNatClampNeg dv = v)
    {g : JFrame} (hg : g.method = m) {rest : List Value} (hs : g.stack = .int j :: .ref a :: rest) (hd : decode c.code g.pc = .ok (.baload, 1)) : ∀ t, Steps p.tables e below (T.setTop { g with pc := g.pc + 1, stack := v :: rest }) t → Steps p.tables e below (T.setTop g) t := by
  obtain ⟨vm0, locs, k0, h1, X', h3, h4, h5, r⟩ := X
  obtain ⟨cl, Ar, q, Sz, Nn, Hh, G⟩ := A
  intro t k
  exact X'.baloadBytes h4 (j := j) (v := v) (by rw [h3]; exact Ar.1) (State.isArrayOf_alike h5.alike Ar.2.1) Ar.2.2 (inb_of Sz hj) (Hh.at (inb_of Sz hj) hv) hg hs hd t k
theorem Wk.alen (X : Wk N p l e R s m args below meth c Z own EL hm T h cells slots) {a : Addr} {kA : ClassId} {ty : FieldType} {z : Int32} {vs : List Value} {dv : Value} (A : Arv Z h a kA ty z vs dv)
    {g : JFrame} (hg : g.method = m) {rest : List Value} (hs : g.stack = .ref a :: rest) (hd : decode c.code g.pc = .ok (.arraylength, 1)) : ∀ t, Steps p.tables e below (T.setTop { g with pc := g.pc + 1, stack := .int z :: rest }) t → Steps p.tables e below (T.setTop g) t := by
  obtain ⟨vm0, locs, k0, h1, X', h3, h4, h5, r⟩ := X
  obtain ⟨cl, Ar, q, Sz, Nn, Hh, G⟩ := A
  intro t k
  rw [← len_of Sz Nn] at k
  exact X'.arraylength h4 (by rw [h3]; exact Ar.1) (State.isArrayOf_alike h5.alike Ar.2.1) hg hs hd t k
theorem Wk.acopy {hm' : Heap → Heap} (X : Wk N p l e R s m args below meth c Z own EL hm T h cells slots) {index : Nat}
    (w1 : (Cond.methodLink own index Jvm.Stand.acN).before a0 Z = true) (w2 : (Cond.native Jvm.Stand.acN).before a0 Z = true) (w3 : (Cond.static Jvm.Stand.acN).before a0 Z = true) (w4 : (Cond.initialized "java/lang/System").before a0 Z = true)
    {a b : Addr} {k' kA : ClassId} {ty ty' : FieldType} {z z' sp dp nn : Int32} {vs vd us : List Value} {dv dd : Value} (A : Arv Z h a kA ty z vs dv) (B : Arv Z h b k' ty' z' vd dd) (hty : ty = ty' ∧ refKind ty = false)
    (h1 : ¬ sp < 0) (h2 : ¬ dp < 0) (h3 : ¬ nn < 0) (h4 : sp.toNatClampNeg + nn.toNatClampNeg ≤ z.toNatClampNeg) (h5 : dp.toNatClampNeg + nn.toNatClampNeg ≤ z'.toNatClampNeg)
    (hus : us = (List.range nn.toNatClampNeg).map fun i => vs.getD (sp.toNatClampNeg + i) dv) (hl : dp.toNatClampNeg + nn.toNatClampNeg ≤ vd.length) (gb : Z.heap.size ≤ b) (M : ∀ h', Mark Z EL hm h [b] h' (hm' h'))
    {g : JFrame} (hg : g.method = m) (hsize : g.locals.size = c.maxLocals) {rest : List Value} (hs : g.stack = .int nn :: .int dp :: .ref b :: .int sp :: .ref a :: rest) (hd : decode c.code g.pc = .ok (.invokestatic index, 3))
    (hf : 1 ≤ R.frames) {W : Nat} (hW : 2 * g.monitorRoom + (rest.map fun v => v.category).sum ≤ W) (hlo : W + (nativeFrameWords "java/lang/System" "arraycopy" 5 + 11) ≤ R.locals)
    (k : ∀ (T' : State) (h' : Heap), Wk N p l e R s m args below meth c Z own EL (hm' h') T' h' cells slots → Keep h h' [b] → Arv Z h' b k' ty' z' (vd.take dp.toNatClampNeg ++ us ++ vd.drop (dp.toNatClampNeg + nn.toNatClampNeg)) dd → Goes p.tables e below Q T' { g with pc := g.pc + 3, stack := rest }) : Goes p.tables e below Q T g := by
  obtain ⟨vm0, locs, k0, x1, X', x3, x4, x5, x6, x7, x8, x9, x10, x11, x12⟩ := X
  obtain ⟨T', h', L, X2, e2, FL, K, A2, st⟩ := cpA (s := s.setVm vm0) X' x4 x5 x6 w1 w2 w3 w4 x3 A B (Or.inl hty) h1 h2 h3 h4 h5 hus hl x7 gb hg hsize hs hd hf hW hlo
  obtain ⟨C, E⟩ := mark_go x5.alike x10 x11 K (M h')
  exact Goes.go st (k T' h' ⟨vm0, L, k0, x1, X2, e2, x4, x5, x6, FL, x8, Nat.le_trans x9 K.1, C, E, x12.oKeep K (fun x hx => by cases List.mem_singleton.mp hx; exact gb)⟩ K A2)
theorem Wk.ldcI (X : Wk N p l e R s m args below meth c Z own EL hm T h cells slots) {index : Nat} {v : Int32} (w : (Cond.constant own index v).before a0 Z = true) {g : JFrame} (hg : g.method = m) (hd : decode c.code g.pc = .ok (.ldc index, 2)) : ∀ t, Steps p.tables e below (T.setTop { g with pc := g.pc + 2, stack := .int v :: g.stack }) t → Steps p.tables e below (T.setTop g) t := by
  obtain ⟨vm0, locs, k0, h1, X', h3, h4, h5, h6, r⟩ := X
  exact X'.ldcInt h4 h6 (mv (s := s.setVm vm0) h5 w) hg hd
theorem Wk.ldcL (X : Wk N p l e R s m args below meth c Z own EL hm T h cells slots) {index : Nat} {v : Int64} (w : (Cond.constantLong own index v).before a0 Z = true) {g : JFrame} (hg : g.method = m) (hd : decode c.code g.pc = .ok (.ldc2_w index, 3)) : ∀ t, Steps p.tables e below (T.setTop { g with pc := g.pc + 3, stack := .long v :: g.stack }) t → Steps p.tables e below (T.setTop g) t := by
  obtain ⟨vm0, locs, k0, h1, X', h3, h4, h5, h6, r⟩ := X
  exact X'.ldc2Long h4 h6 (mv (s := s.setVm vm0) h5 w) hg hd
theorem Wk.castY (X : Wk N p l e R s m args below meth c Z own EL hm T h cells slots) {K : String} {index : Nat} (w : (Cond.classLink own index K).before a0 Z = true) {a : Addr} (F : Ins Z h a K true) {g : JFrame} (hg : g.method = m) {rest : List Value} (hs : g.stack = .ref a :: rest) (hd : decode c.code g.pc = .ok (.checkcast index, 3))
    (k : ∀ T', Wk N p l e R s m args below meth c Z own EL hm T' h cells slots → Goes p.tables e below Q T' { g with pc := g.pc + 3 }) : Goes p.tables e below Q T g := by
  obtain ⟨vm0, locs, k0, h1, X', h3, h4, h5, h6, r⟩ := X
  obtain ⟨T', X2, e2, st⟩ := RoadKit.castY (s := s.setVm vm0) X' h4 h5 h6 w h3 F hg hs hd
  exact Goes.go st (k T' ⟨vm0, locs, k0, h1, X2, e2, h4, h5, h6, r⟩)
theorem Wk.instY (X : Wk N p l e R s m args below meth c Z own EL hm T h cells slots) {K : String} {index : Nat} (w : (Cond.classLink own index K).before a0 Z = true) {a : Addr} (F : Ins Z h a K true) {g : JFrame} (hg : g.method = m) {rest : List Value} (hs : g.stack = .ref a :: rest) (hd : decode c.code g.pc = .ok (.instanceof index, 3))
    (k : ∀ T', Wk N p l e R s m args below meth c Z own EL hm T' h cells slots → Goes p.tables e below Q T' { g with pc := g.pc + 3, stack := .int 1 :: rest }) : Goes p.tables e below Q T g := by
  obtain ⟨vm0, locs, k0, h1, X', h3, h4, h5, h6, r⟩ := X
  obtain ⟨T', X2, e2, st⟩ := RoadKit.instY (s := s.setVm vm0) X' h4 h5 h6 w h3 F hg hs hd
  exact Goes.go st (k T' ⟨vm0, locs, k0, h1, X2, e2, h4, h5, h6, r⟩)
theorem Wk.instNo (X : Wk N p l e R s m args below meth c Z own EL hm T h cells slots) {C K : String} {index : Nat} (w : (Cond.classLink own index K).before a0 Z = true) {a : Addr} (E : Exa Z h a C) (F : ∃ c t, Z.vm.findClass C = some c ∧ Z.vm.findClass K = some t ∧ Z.vm.assignable c t = false) {g : JFrame} (hg : g.method = m) {rest : List Value} (hs : g.stack = .ref a :: rest) (hd : decode c.code g.pc = .ok (.instanceof index, 3))
    (k : ∀ T', Wk N p l e R s m args below meth c Z own EL hm T' h cells slots → Goes p.tables e below Q T' { g with pc := g.pc + 3, stack := .int 0 :: rest }) : Goes p.tables e below Q T g := by
  obtain ⟨vm0, locs, k0, h1, X', h3, h4, h5, h6, r⟩ := X
  obtain ⟨T', X2, e2, st⟩ := RoadKit.instNo (s := s.setVm vm0) X' h4 h5 h6 w h3 E F hg hs hd
  exact Goes.go st (k T' ⟨vm0, locs, k0, h1, X2, e2, h4, h5, h6, r⟩)
theorem Wk.instNull (X : Wk N p l e R s m args below meth c Z own EL hm T h cells slots) {index : Nat} {g : JFrame} (hg : g.method = m) {rest : List Value} (hs : g.stack = .null :: rest) (hd : decode c.code g.pc = .ok (.instanceof index, 3)) : ∀ t, Steps p.tables e below (T.setTop { g with pc := g.pc + 3, stack := .int 0 :: rest }) t → Steps p.tables e below (T.setTop g) t := by
  obtain ⟨vm0, locs, k0, h1, X', h3, h4, r⟩ := X
  exact X'.instanceofNull h4 hg hs hd
theorem own_noinst {C S K : String} {n : Nat} (w : (Cond.superclass C S).before a0 Z = true) (wr : (Cond.noSuperclass S).before a0 Z = true) (wi : (Cond.instantiable K n).before a0 Z = true) (n1 : C ≠ K) (n2 : S ≠ K) : ∃ c t, Z.vm.findClass C = some c ∧ Z.vm.findClass K = some t ∧ Z.vm.assignable c t = false := by
  obtain ⟨cS, kS, s1, s2, s3, -, -⟩ := Cond.noSuperclass_spec wr
  obtain ⟨t, kt, t1, t2, t3, t4, -⟩ := Cond.instantiable_spec wi
  have ne2 := ids_ne s1 t1 n2
  have nS : NS Z S K := ⟨cS, t, s1, t1, fun fuel => by
    cases fuel with
    | zero => rfl
    | succ f => simp [Vm.isSubclassAux, ne2, s2, s3]⟩
  obtain ⟨c, t', h0, g0, n3⟩ := NS.step w nS n1
  cases g0.symm.trans t1
  obtain ⟨p', k, kp, h1, h2, h3, h4, h5, -, h7⟩ := Cond.superclass_spec h0 w
  have ne := ids_ne h0 g0 n1
  simp only [Bool.or_eq_false_iff] at t4
  refine ⟨c, _, h0, t1, ?_⟩
  show Z.vm.assignableAux (255 + 1) c _ = false
  simp [Vm.assignableAux, ne, h2, t2, h5, t3, t4.1, Vm.isSubclass, n3]
/-! Object.<init>, literals -/
theorem Wk.initO (X : Wk N p l e R s m args below meth c Z own EL hm T h cells slots) {idx : Nat} (w1 : (Cond.methodLink own idx Lib.objectInit).before a0 Z = true) (w2 : (Cond.instanceMethod Lib.objectInit).before a0 Z = true) (w3 : (Cond.code Lib.objectInit ⟨#[0xb1]⟩ 1 none).before a0 Z = true)
    {g : JFrame} (hg : g.method = m) (hsize : g.locals.size = c.maxLocals) {a : Addr} {rest : List Value} (hs : g.stack = .ref a :: rest) (hd : decode c.code g.pc = .ok (.invokespecial idx, 3)) (hf : 1 ≤ R.frames) {W : Nat} (hW : 2 * g.monitorRoom + (rest.map fun v => v.category).sum ≤ W) (hl : W + 12 ≤ R.locals)
    (k : ∀ T', Wk N p l e R s m args below meth c Z own EL hm T' h cells slots → Goes p.tables e below Q T' { g with pc := g.pc + 3, stack := rest }) : Goes p.tables e below Q T g := by
  obtain ⟨vm0, locs, k0, h1, X', h3, h4, h5, h6, r⟩ := X
  obtain ⟨T', X2, e2, st⟩ := RoadKit.initO (s := s.setVm vm0) X' h4 h5 h6 w1 w2 w3 h3 hg hsize hs hd hf hW hl
  exact Goes.go st (k T' ⟨vm0, locs, k0, h1, X2, e2, h4, h5, h6, r⟩)
theorem Wk.ldcR (X : Wk N p l e R s m args below meth c Z own EL hm T h cells slots) {text : String} {index : Nat} (w : (Cond.stringLink own index text).before a0 Z = true) (wS : ∀ a ∈ Bundle.stringAtoms, a.before a0 Z = true) (hEL : EW Z a0 EL) (hmem : (own, index) ∈ EL)
    {vs : List Value} {z : Int32} (ht : (∀ c ∈ text.toList, c.toNat < 256) ∧ text.toList.map (fun c => Value.int (Jvm.Lit.byteI c.toNat.toUInt16)) = vs) (hz : ¬ z < 0) (hl : z.toNatClampNeg = vs.length)
    {g : JFrame} (hg : g.method = m) (hd : decode c.code g.pc = .ok (.ldc index, 2)) {n : Nat} (hn : 4 * text.toList.length ≤ n) (hbig : n ≤ 536870912) (hc : cells + 2 ≤ R.cells) (hl' : slots + (n + 4) ≤ R.slots)
    (k : ∀ (T' : State) (h' : Heap) (a b : Addr) (kB : ClassId), Wk False p l e R s m args below meth c Z own EL h' T' h' (cells + 2) (slots + (n + 4)) → Ext h h' → Exa Z h' a "java/lang/String" → Fld Z h' a "java/lang/String" "coder" "B" (.int 0) → Fld Z h' a "java/lang/String" "value" "[B" (.ref b) → Arv Z h' b kB .byte z vs (.int 0) →
      Goes p.tables e below Q T' { g with pc := g.pc + 2, stack := .ref a :: g.stack }) : Goes p.tables e below Q T g := by
  obtain ⟨vm0, locs, k0, h1, X', h3, h4, h5, h6, h7, h8, h9, h10, h11, h12⟩ := X
  have C1 := h10.trans (CHr.ext h11 h10.1)
  obtain ⟨a, T', h', k1, b, kB, X2, e2, E, S2, hk2, hW, hf, r1, r2, r3, r4, -, -, C2, -, -, st⟩ := ldcCH X' h4 h5 h6 w wS h3 h8 h9 hEL hmem C1.1 ht hz hl hg hd hn hbig hc hl'
  exact Goes.go st (k T' h' a b kB ⟨T'.vm, locs, k1, fun q => q.elim, X2, e2, h4, hW, hf, h7, S2, hk2, C1.trans C2, Ext.oRefl _, h12.oTrans E⟩ E r1 r2 r3 r4)
theorem Wk.ldcO (X : Wk N p l e R s m args below meth c Z own EL hm T h cells slots) {text : String} {index : Nat} (w : (Cond.stringLink own index text).before a0 Z = true) (wS : ∀ a ∈ Bundle.stringAtoms, a.before a0 Z = true) (hEL : EW Z a0 EL)
    {g : JFrame} (hg : g.method = m) (hd : decode c.code g.pc = .ok (.ldc index, 2)) {n : Nat} (hn : 4 * text.toList.length ≤ n) (hbig : n ≤ 536870912) (hc : cells + 2 ≤ R.cells) (hl' : slots + (n + 4) ≤ R.slots)
    (k : ∀ (T' : State) (h' : Heap) (a : Addr), Wk False p l e R s m args below meth c Z own EL h' T' h' (cells + 2) (slots + (n + 4)) → Ext h h' →
      Goes p.tables e below Q T' { g with pc := g.pc + 2, stack := .ref a :: g.stack }) : Goes p.tables e below Q T g := by
  obtain ⟨vm0, locs, k0, h1, X', h3, h4, h5, h6, h7, h8, h9, h10, h11, h12⟩ := X
  have C1 := h10.trans (CHr.ext h11 h10.1)
  obtain ⟨a, T', h', k1, X2, e2, E, S2, hk2, hW, hf, C2, -, st⟩ := ldcOH X' h4 h5 h6 w wS h3 h8 h9 hEL C1.1 hg hd hn hbig hc hl'
  exact Goes.go st (k T' h' a ⟨T'.vm, locs, k1, fun q => q.elim, X2, e2, h4, hW, hf, h7, S2, hk2, C1.trans C2, Ext.oRefl _, h12.oTrans E⟩ E)
/-! calls -/
theorem CtrN.back {y : MethodName} {bytes : ByteArray} {maxL : Nat} {ret : Option FieldType} {rm : Room} {as' : Array Value} {Qv : Option Value → Heap → Prop} {len W : Nat} (K : CtrN l Z y bytes maxL ret rm as' h Qv) {vm0 : Vm} (hZ : Z.Warmed39 vm0) (wc : (Cond.code y bytes maxL ret).before a0 Z = true) (wz : (Cond.initialized y.cls).before a0 Z = true) (hf : rm.frames + 1 ≤ R.frames) (hl : W + (maxL + 11) + rm.locals ≤ R.locals) :
    Back l R p e below (s.setVm vm0) args y len W (fun A a => a = as' ∧ A.U.heap = h ∧ A.cells + rm.cells ≤ R.cells ∧ A.slots + rm.slots ≤ R.slots) (fun A _ v B => ∃ L, (Qv v B.U.heap ∧ Fr Z.heap.size L) ∧ B.locs = A.locs ++ L ∧ B.cells = A.cells + rm.cells ∧ B.slots = A.slots + rm.slots) :=
  backOf (s := s.setVm vm0) (Q := fun v h' L => Qv v h' ∧ Fr Z.heap.size L) (K []) hZ wc wz hf hl
theorem CtrS.back {y : MethodName} {bytes : ByteArray} {maxL : Nat} {ret : Option FieldType} {rm : Room} {as' : Array Value} {Qv : Option Value → Heap → Prop} {len W : Nat} (K : CtrS l Z EL y bytes maxL ret rm as' h Qv) {vm0 : Vm} (hZ : Z.Warmed39 vm0) (wc : (Cond.code y bytes maxL ret).before a0 Z = true) (wz : (Cond.initialized y.cls).before a0 Z = true) (hf : rm.frames + 1 ≤ R.frames) (hl : W + (maxL + 11) + rm.locals ≤ R.locals) (hEL : EW Z a0 EL) (H : CHv Z EL vm0 h) :
    BackS l R p e below (s.setVm vm0) args y len W (fun A a => a = as' ∧ A.U.heap = h ∧ A.cells + rm.cells ≤ R.cells ∧ A.slots + rm.slots ≤ R.slots) (fun A _ v B => ∃ L, (Qv v B.U.heap ∧ Fr Z.heap.size L) ∧ B.locs = A.locs ++ L ∧ B.cells = A.cells + rm.cells ∧ B.slots = A.slots + rm.slots ∧ CHr Z EL vm0 h B.U.vm B.U.heap) :=
  backOfSH (Q := fun v h' L => Qv v h' ∧ Fr Z.heap.size L) (K []) hZ wc wz hf hl hEL H
/-- what a payer says that interns nothing -/
def Pays (l : Launch) (R : Room) (p : Program) (e : Env) (below : List Frame) (s : State) (args : Array Value) (Z : State) (y : MethodName) (len W : Nat) (as' : Array Value) (h : Heap) (kc ks : Nat) (QQ : Option Value → Heap → List Loc → Prop) : Prop :=
  ∀ vm0, Z.Warmed39 vm0 → Back l R p e below (s.setVm vm0) args y len W (fun A a => a = as' ∧ A.U.heap = h ∧ A.cells + kc ≤ R.cells ∧ A.slots + ks ≤ R.slots) (fun A _ v B => ∃ L, QQ v B.U.heap L ∧ B.locs = A.locs ++ L ∧ B.cells = A.cells + kc ∧ B.slots = A.slots + ks)
def PaysS (l : Launch) (R : Room) (p : Program) (e : Env) (below : List Frame) (s : State) (args : Array Value) (Z : State) (EL : List (String × Nat)) (y : MethodName) (len W : Nat) (as' : Array Value) (h : Heap) (kc ks : Nat) (QQ : Option Value → Heap → List Loc → Prop) : Prop :=
  ∀ vm0, Z.Warmed39 vm0 → CHv Z EL vm0 h → BackS l R p e below (s.setVm vm0) args y len W (fun A a => a = as' ∧ A.U.heap = h ∧ A.cells + kc ≤ R.cells ∧ A.slots + ks ≤ R.slots) (fun A _ v B => ∃ L, QQ v B.U.heap L ∧ B.locs = A.locs ++ L ∧ B.cells = A.cells + kc ∧ B.slots = A.slots + ks ∧ CHr Z EL vm0 h B.U.vm B.U.heap)
theorem CtrN.pays {y : MethodName} {bytes : ByteArray} {maxL : Nat} {ret : Option FieldType} {rm : Room} {as' : Array Value} {Qv : Option Value → Heap → Prop} {len W : Nat} (K : CtrN l Z y bytes maxL ret rm as' h Qv) (wc : (Cond.code y bytes maxL ret).before a0 Z = true) (wz : (Cond.initialized y.cls).before a0 Z = true) (hf : rm.frames + 1 ≤ R.frames) (hl : W + (maxL + 11) + rm.locals ≤ R.locals) :
    Pays l R p e below s args Z y len W as' h rm.cells rm.slots (fun v h' L => Qv v h' ∧ Fr Z.heap.size L) := fun _ hZ => CtrN.back K hZ wc wz hf hl
theorem CtrS.pays {y : MethodName} {bytes : ByteArray} {maxL : Nat} {ret : Option FieldType} {rm : Room} {as' : Array Value} {Qv : Option Value → Heap → Prop} {len W : Nat} (K : CtrS l Z EL y bytes maxL ret rm as' h Qv) (wc : (Cond.code y bytes maxL ret).before a0 Z = true) (wz : (Cond.initialized y.cls).before a0 Z = true) (hf : rm.frames + 1 ≤ R.frames) (hl : W + (maxL + 11) + rm.locals ≤ R.locals) (hEL : EW Z a0 EL) :
    PaysS l R p e below s args Z EL y len W as' h rm.cells rm.slots (fun v h' L => Qv v h' ∧ Fr Z.heap.size L) := fun _ hZ H => CtrS.back K hZ wc wz hf hl hEL H
theorem Wk.came {vm0 : Vm} {locs L : List Loc} {k0 kc ks : Nat} {T' : State} {hm' : Heap} {ws : List Addr} (h1 : N → vm0 = s.vm) (h4 : p.tables.exec = Jvm.exec) (h5 : Z.Warmed39 vm0) (h6 : vm0.findClass own = some m.cls) (h7 : Fr Z.heap.size locs) (h8 : s.Since vm0 k0) (h9 : k0 ≤ h.size) (h10 : CHr Z EL s.vm s.heap vm0 hm) (h11 : Ext hm h) (h12 : Ext Z.heap h)
    (X2 : Stand p l e R (s.setVm vm0) m args below meth c T' (locs ++ L) (cells + kc) (slots + ks)) (F : Fr Z.heap.size L) (K : Keep h T'.heap ws) (hws : ∀ x ∈ ws, Z.heap.size ≤ x) (M : Mark Z EL hm h ws T'.heap hm') : Wk N p l e R s m args below meth c Z own EL hm' T' T'.heap (cells + kc) (slots + ks) := by
  obtain ⟨C, E⟩ := mark_go h5.alike h10 h11 K M
  exact ⟨vm0, _, k0, h1, X2, rfl, h4, h5, h6, Fr.app h7 F, h8, Nat.le_trans h9 K.1, C, E, h12.oKeep K hws⟩
theorem Wk.cameS {vm0 : Vm} {locs L : List Loc} {k0 kc ks : Nat} {T' : State} {ws : List Addr} (h4 : p.tables.exec = Jvm.exec) (h5 : Z.Warmed39 vm0) (h6 : vm0.findClass own = some m.cls) (h7 : Fr Z.heap.size locs) (h8 : s.Since vm0 k0) (h9 : k0 ≤ h.size) (C1 : CHr Z EL s.vm s.heap vm0 h) (h12 : Ext Z.heap h)
    (X2 : Stand p l e R ((s.setVm vm0).setVm T'.vm) m args below meth c T' (locs ++ L) (cells + kc) (slots + ks)) (S2 : (s.setVm vm0).Since T'.vm T'.heap.size) (F : Fr Z.heap.size L) (K : Keep h T'.heap ws) (hws : ∀ x ∈ ws, Z.heap.size ≤ x) (C2 : CHr Z EL vm0 h T'.vm T'.heap) : Wk False p l e R s m args below meth c Z own EL T'.heap T' T'.heap (cells + kc) (slots + ks) :=
  ⟨T'.vm, _, T'.heap.size, fun q => q.elim, X2, rfl, h4, State.Warmed39.trans (t := s.setVm vm0) h5 S2.1, (S2.1.alike.findClass _ _).trans h6, Fr.app h7 F, h8.trans S2 (Nat.le_trans h9 K.1), Nat.le_refl _, C1.trans C2, Ext.oRefl _, h12.oKeep K hws⟩
theorem Wk.static {hm' : Heap → Heap} {y : MethodName} {bytes : ByteArray} {maxL : Nat} {ret : Option FieldType} {index W kc ks : Nat} {QQ : Option Value → Heap → List Loc → Prop} {argsL rest : List Value} {as' : Array Value} {ws : List Addr} (X : Wk N p l e R s m args below meth c Z own EL hm T h cells slots)
    (w1 : (Cond.methodLink own index y).before a0 Z = true) (w2 : (Cond.static y).before a0 Z = true) (w3 : (Cond.initialized y.cls).before a0 Z = true) (w4 : (Cond.code y bytes maxL ret).before a0 Z = true) (hy : y.cls ≠ "java/lang/invoke/MethodHandle" ∧ y.cls ≠ "java/lang/invoke/VarHandle")
    (hK : Pays l R p e below s args Z y 3 W as' h kc ks QQ) (hQ : ∀ v h' L, QQ v h' L → Fr Z.heap.size L ∧ Keep h h' ws) (hws : ∀ x ∈ ws, Z.heap.size ≤ x) (M : ∀ h', Mark Z EL hm h ws h' (hm' h'))
    {g : JFrame} (hg : g.method = m) (hsize : g.locals.size = c.maxLocals) (hlen : ∀ sig, parseMethodDescriptor y.desc = some sig → argsL.length = sig.parameters.length) (has : argsL.toArray = as') (hstack : g.stack = argsL.reverse ++ rest) (hW : 2 * g.monitorRoom + (rest.map fun v => v.category).sum ≤ W)
    (hdg : decode c.code g.pc = .ok (.invokestatic index, 3)) (hc : cells + kc ≤ R.cells) (hs : slots + ks ≤ R.slots)
    (k : ∀ (T' : State) (h' : Heap) (v : Option Value) (L : List Loc), Wk N p l e R s m args below meth c Z own EL (hm' h') T' h' (cells + kc) (slots + ks) → QQ v h' L → Keep h h' ws → Goes p.tables e below Q T' { g with pc := g.pc + 3, stack := v.toList ++ rest }) : Goes p.tables e below Q T g := by
  obtain ⟨vm0, locs, k0, h1, X', h3, h4, h5, h6, h7, h8, h9, h10, h11, h12⟩ := X
  obtain ⟨v, vm₁, ⟨T', L', k', n'⟩, -, X2, ⟨L, q, l2, y2, z2⟩, st⟩ := Jvm.LawKit.callS (s := s.setVm vm0) X' h4 h6 (mvT (s := s.setVm vm0) h5 w1) (mvT (s := s.setVm vm0) h5 w2) (mvT (s := s.setVm vm0) h5 w3) (mvT (s := s.setVm vm0) h5 w4) hy (hK vm0 h5) hg hsize hlen hstack hW hdg (fun _ _ => ⟨has, h3, hc, hs⟩)
  dsimp only [Pt.U, Pt.locs, Pt.cells, Pt.slots] at X2 l2 y2 z2 st q
  subst l2 y2 z2
  obtain ⟨F, K⟩ := hQ _ _ _ q
  exact Goes.go st (k T' T'.heap v L (Wk.came h1 h4 h5 h6 h7 h8 h9 h10 h11 h12 X2 F K hws (M _)) q K)
theorem Wk.special {hm' : Heap → Heap} {y : MethodName} {bytes : ByteArray} {maxL : Nat} {index W kc ks : Nat} {QQ : Option Value → Heap → List Loc → Prop} {a : Addr} {argsL rest : List Value} {as' : Array Value} {ws : List Addr} (X : Wk N p l e R s m args below meth c Z own EL hm T h cells slots)
    (hy1 : y.name = "<init>") (w1 : (Cond.methodLink own index y).before a0 Z = true) (w2 : (Cond.instanceMethod y).before a0 Z = true) (w4 : (Cond.code y bytes maxL none).before a0 Z = true) (hy : y.cls ≠ "java/lang/invoke/MethodHandle" ∧ y.cls ≠ "java/lang/invoke/VarHandle")
    (hK : Pays l R p e below s args Z y 3 W as' h kc ks QQ) (hQ : ∀ v h' L, QQ v h' L → Fr Z.heap.size L ∧ Keep h h' ws) (hws : ∀ x ∈ ws, Z.heap.size ≤ x) (M : ∀ h', Mark Z EL hm h ws h' (hm' h'))
    {g : JFrame} (hg : g.method = m) (hsize : g.locals.size = c.maxLocals) (hlen : ∀ sig, parseMethodDescriptor y.desc = some sig → argsL.length = sig.parameters.length) (has : (.ref a :: argsL).toArray = as') (hstack : g.stack = argsL.reverse ++ .ref a :: rest) (hW : 2 * g.monitorRoom + (rest.map fun v => v.category).sum ≤ W)
    (hdg : decode c.code g.pc = .ok (.invokespecial index, 3)) (hc : cells + kc ≤ R.cells) (hs : slots + ks ≤ R.slots)
    (k : ∀ (T' : State) (h' : Heap) (v : Option Value) (L : List Loc), Wk N p l e R s m args below meth c Z own EL (hm' h') T' h' (cells + kc) (slots + ks) → QQ v h' L → Keep h h' ws → Goes p.tables e below Q T' { g with pc := g.pc + 3, stack := v.toList ++ rest }) : Goes p.tables e below Q T g := by
  obtain ⟨vm0, locs, k0, h1, X', h3, h4, h5, h6, h7, h8, h9, h10, h11, h12⟩ := X
  obtain ⟨v, vm₁, ⟨T', L', k', n'⟩, -, X2, ⟨L, q, l2, y2, z2⟩, st⟩ := Stand.specialBack (s := s.setVm vm0) X' h4 hy1 h6 (mvT (s := s.setVm vm0) h5 w1) (mvT (s := s.setVm vm0) h5 w2) (mvT (s := s.setVm vm0) h5 w4) hy (hK vm0 h5) hg hsize (Steps.refl _) hlen hstack hW hdg (fun _ _ => ⟨has, h3, hc, hs⟩)
  dsimp only [Pt.U, Pt.locs, Pt.cells, Pt.slots] at X2 l2 y2 z2 st q
  subst l2 y2 z2
  obtain ⟨F, K⟩ := hQ _ _ _ q
  exact Goes.via st (k T' T'.heap v L (Wk.came h1 h4 h5 h6 h7 h8 h9 h10 h11 h12 X2 F K hws (M _)) q K)
theorem Wk.virtual {hm' : Heap → Heap} {C : String} {y z : MethodName} {index W kc ks : Nat} {QQ : Option Value → Heap → List Loc → Prop} {b : Addr} {argsL rest : List Value} {as' : Array Value} {ws : List Addr} (X : Wk N p l e R s m args below meth c Z own EL hm T h cells slots)
    (w1 : (Cond.methodLink own index y).before a0 Z = true) (w2 : (Cond.declares y).before a0 Z = true) (w3 : (Cond.selects C y z).before a0 Z = true) (w4 : (Cond.instanceMethod z).before a0 Z = true) (hy : y.cls ≠ "java/lang/invoke/MethodHandle" ∧ y.cls ≠ "java/lang/invoke/VarHandle") (E : Exa Z h b C)
    (hnf : ∀ vm0, Z.Warmed39 vm0 → NotFace (s.setVm vm0) y)
    (hK : Pays l R p e below s args Z z 3 W as' h kc ks QQ) (hQ : ∀ v h' L, QQ v h' L → Fr Z.heap.size L ∧ Keep h h' ws) (hws : ∀ x ∈ ws, Z.heap.size ≤ x) (M : ∀ h', Mark Z EL hm h ws h' (hm' h'))
    {g : JFrame} (hg : g.method = m) (hsize : g.locals.size = c.maxLocals) (hlen : ∀ sig, parseMethodDescriptor y.desc = some sig → argsL.length = sig.parameters.length) (has : (.ref b :: argsL).toArray = as') (hstack : g.stack = argsL.reverse ++ .ref b :: rest) (hW : 2 * g.monitorRoom + (rest.map fun v => v.category).sum ≤ W)
    (hdg : decode c.code g.pc = .ok (.invokevirtual index, 3)) (hc : cells + kc ≤ R.cells) (hs : slots + ks ≤ R.slots)
    (k : ∀ (T' : State) (h' : Heap) (v : Option Value) (L : List Loc), Wk N p l e R s m args below meth c Z own EL (hm' h') T' h' (cells + kc) (slots + ks) → QQ v h' L → Keep h h' ws → Goes p.tables e below Q T' { g with pc := g.pc + 3, stack := v.toList ++ rest }) : Goes p.tables e below Q T g := by
  obtain ⟨vm0, locs, k0, h1, X', h3, h4, h5, h6, h7, h8, h9, h10, h11, h12⟩ := X
  obtain ⟨cq, kq, qa, qb, qc⟩ := isOf (s := s.setVm vm0) h5 h3 E
  obtain ⟨v, vm₁, ⟨T', L', k', n'⟩, -, X2, ⟨L, q, l2, y2, z2⟩, st⟩ := Stand.virtualBack (s := s.setVm vm0) X' h4 h6 (mvT (s := s.setVm vm0) h5 w1) (mvT (s := s.setVm vm0) h5 w2) (hnf vm0 h5) (mvT (s := s.setVm vm0) h5 w3) (mvT (s := s.setVm vm0) h5 w4) hy (hK vm0 h5) qa qc hg hsize (Steps.refl _) hlen hstack hW hdg (fun _ _ => ⟨has, h3, hc, hs⟩)
  dsimp only [Pt.U, Pt.locs, Pt.cells, Pt.slots] at X2 l2 y2 z2 st q
  subst l2 y2 z2
  obtain ⟨F, K⟩ := hQ _ _ _ q
  exact Goes.via st (k T' T'.heap v L (Wk.came h1 h4 h5 h6 h7 h8 h9 h10 h11 h12 X2 F K hws (M _)) q K)
theorem Wk.staticS {y : MethodName} {bytes : ByteArray} {maxL : Nat} {ret : Option FieldType} {index W kc ks : Nat} {QQ : Option Value → Heap → List Loc → Prop} {argsL rest : List Value} {as' : Array Value} {ws : List Addr} (X : Wk N p l e R s m args below meth c Z own EL hm T h cells slots)
    (w1 : (Cond.methodLink own index y).before a0 Z = true) (w2 : (Cond.static y).before a0 Z = true) (w3 : (Cond.initialized y.cls).before a0 Z = true) (w4 : (Cond.code y bytes maxL ret).before a0 Z = true) (hy : y.cls ≠ "java/lang/invoke/MethodHandle" ∧ y.cls ≠ "java/lang/invoke/VarHandle")
    (hK : PaysS l R p e below s args Z EL y 3 W as' h kc ks QQ) (hQ : ∀ v h' L, QQ v h' L → Fr Z.heap.size L ∧ Keep h h' ws) (hws : ∀ x ∈ ws, Z.heap.size ≤ x)
    {g : JFrame} (hg : g.method = m) (hsize : g.locals.size = c.maxLocals) (hlen : ∀ sig, parseMethodDescriptor y.desc = some sig → argsL.length = sig.parameters.length) (has : argsL.toArray = as') (hstack : g.stack = argsL.reverse ++ rest) (hW : 2 * g.monitorRoom + (rest.map fun v => v.category).sum ≤ W)
    (hdg : decode c.code g.pc = .ok (.invokestatic index, 3)) (hc : cells + kc ≤ R.cells) (hs : slots + ks ≤ R.slots)
    (k : ∀ (T' : State) (h' : Heap) (v : Option Value) (L : List Loc), Wk False p l e R s m args below meth c Z own EL h' T' h' (cells + kc) (slots + ks) → QQ v h' L → Keep h h' ws → Goes p.tables e below Q T' { g with pc := g.pc + 3, stack := v.toList ++ rest }) : Goes p.tables e below Q T g := by
  obtain ⟨vm0, locs, k0, h1, X', h3, h4, h5, h6, h7, h8, h9, h10, h11, h12⟩ := X
  have C1 := h10.trans (CHr.ext h11 h10.1)
  obtain ⟨v, vm₁, ⟨T', L', k', n'⟩, -, X2, S2, -, ⟨L, q, l2, y2, z2, C2⟩, st⟩ := callSS (s := s.setVm vm0) X' h4 h6 (mvT (s := s.setVm vm0) h5 w1) (mvT (s := s.setVm vm0) h5 w2) (mvT (s := s.setVm vm0) h5 w3) (mvT (s := s.setVm vm0) h5 w4) hy (hK vm0 h5 C1.1) hg hsize hlen hstack hW hdg (fun _ _ => ⟨has, h3, hc, hs⟩)
  dsimp only [Pt.U, Pt.locs, Pt.cells, Pt.slots] at X2 S2 l2 y2 z2 st q C2
  subst l2 y2 z2
  obtain ⟨F, K⟩ := hQ _ _ _ q
  exact Goes.via st (k T' T'.heap v L (Wk.cameS h4 h5 h6 h7 h8 h9 C1 h12 X2 S2 F K hws C2) q K)
theorem Wk.specialS {y : MethodName} {bytes : ByteArray} {maxL : Nat} {index W kc ks : Nat} {QQ : Option Value → Heap → List Loc → Prop} {a : Addr} {argsL rest : List Value} {as' : Array Value} {ws : List Addr} (X : Wk N p l e R s m args below meth c Z own EL hm T h cells slots)
    (hy1 : y.name = "<init>") (w1 : (Cond.methodLink own index y).before a0 Z = true) (w2 : (Cond.instanceMethod y).before a0 Z = true) (w4 : (Cond.code y bytes maxL none).before a0 Z = true) (hy : y.cls ≠ "java/lang/invoke/MethodHandle" ∧ y.cls ≠ "java/lang/invoke/VarHandle")
    (hK : PaysS l R p e below s args Z EL y 3 W as' h kc ks QQ) (hQ : ∀ v h' L, QQ v h' L → Fr Z.heap.size L ∧ Keep h h' ws) (hws : ∀ x ∈ ws, Z.heap.size ≤ x)
    {g : JFrame} (hg : g.method = m) (hsize : g.locals.size = c.maxLocals) (hlen : ∀ sig, parseMethodDescriptor y.desc = some sig → argsL.length = sig.parameters.length) (has : (.ref a :: argsL).toArray = as') (hstack : g.stack = argsL.reverse ++ .ref a :: rest) (hW : 2 * g.monitorRoom + (rest.map fun v => v.category).sum ≤ W)
    (hdg : decode c.code g.pc = .ok (.invokespecial index, 3)) (hc : cells + kc ≤ R.cells) (hs : slots + ks ≤ R.slots)
    (k : ∀ (T' : State) (h' : Heap) (v : Option Value) (L : List Loc), Wk False p l e R s m args below meth c Z own EL h' T' h' (cells + kc) (slots + ks) → QQ v h' L → Keep h h' ws → Goes p.tables e below Q T' { g with pc := g.pc + 3, stack := v.toList ++ rest }) : Goes p.tables e below Q T g := by
  obtain ⟨vm0, locs, k0, h1, X', h3, h4, h5, h6, h7, h8, h9, h10, h11, h12⟩ := X
  have C1 := h10.trans (CHr.ext h11 h10.1)
  obtain ⟨v, vm₁, ⟨T', L', k', n'⟩, -, X2, S2, -, ⟨L, q, l2, y2, z2, C2⟩, st⟩ := Stand.specialBackS (s := s.setVm vm0) X' h4 hy1 h6 (mvT (s := s.setVm vm0) h5 w1) (mvT (s := s.setVm vm0) h5 w2) (mvT (s := s.setVm vm0) h5 w4) hy (hK vm0 h5 C1.1) hg hsize (Steps.refl _) hlen hstack hW hdg (fun _ _ => ⟨has, h3, hc, hs⟩)
  dsimp only [Pt.U, Pt.locs, Pt.cells, Pt.slots] at X2 S2 l2 y2 z2 st q C2
  subst l2 y2 z2
  obtain ⟨F, K⟩ := hQ _ _ _ q
  exact Goes.via st (k T' T'.heap v L (Wk.cameS h4 h5 h6 h7 h8 h9 C1 h12 X2 S2 F K hws C2) q K)
theorem Wk.virtualS {C : String} {y z : MethodName} {index W kc ks : Nat} {QQ : Option Value → Heap → List Loc → Prop} {b : Addr} {argsL rest : List Value} {as' : Array Value} {ws : List Addr} (X : Wk N p l e R s m args below meth c Z own EL hm T h cells slots)
    (w1 : (Cond.methodLink own index y).before a0 Z = true) (w2 : (Cond.declares y).before a0 Z = true) (w3 : (Cond.selects C y z).before a0 Z = true) (w4 : (Cond.instanceMethod z).before a0 Z = true) (hy : y.cls ≠ "java/lang/invoke/MethodHandle" ∧ y.cls ≠ "java/lang/invoke/VarHandle") (E : Exa Z h b C)
    (hnf : ∀ vm0, Z.Warmed39 vm0 → NotFace (s.setVm vm0) y)
    (hK : PaysS l R p e below s args Z EL z 3 W as' h kc ks QQ) (hQ : ∀ v h' L, QQ v h' L → Fr Z.heap.size L ∧ Keep h h' ws) (hws : ∀ x ∈ ws, Z.heap.size ≤ x)
    {g : JFrame} (hg : g.method = m) (hsize : g.locals.size = c.maxLocals) (hlen : ∀ sig, parseMethodDescriptor y.desc = some sig → argsL.length = sig.parameters.length) (has : (.ref b :: argsL).toArray = as') (hstack : g.stack = argsL.reverse ++ .ref b :: rest) (hW : 2 * g.monitorRoom + (rest.map fun v => v.category).sum ≤ W)
    (hdg : decode c.code g.pc = .ok (.invokevirtual index, 3)) (hc : cells + kc ≤ R.cells) (hs : slots + ks ≤ R.slots)
    (k : ∀ (T' : State) (h' : Heap) (v : Option Value) (L : List Loc), Wk False p l e R s m args below meth c Z own EL h' T' h' (cells + kc) (slots + ks) → QQ v h' L → Keep h h' ws → Goes p.tables e below Q T' { g with pc := g.pc + 3, stack := v.toList ++ rest }) : Goes p.tables e below Q T g := by
  obtain ⟨vm0, locs, k0, h1, X', h3, h4, h5, h6, h7, h8, h9, h10, h11, h12⟩ := X
  obtain ⟨cq, kq, qa, qb, qc⟩ := isOf (s := s.setVm vm0) h5 h3 E
  have C1 := h10.trans (CHr.ext h11 h10.1)
  obtain ⟨v, vm₁, ⟨T', L', k', n'⟩, -, X2, S2, -, ⟨L, q, l2, y2, z2, C2⟩, st⟩ := Stand.virtualBackS (s := s.setVm vm0) X' h4 h6 (mvT (s := s.setVm vm0) h5 w1) (mvT (s := s.setVm vm0) h5 w2) (hnf vm0 h5) (mvT (s := s.setVm vm0) h5 w3) (mvT (s := s.setVm vm0) h5 w4) hy (hK vm0 h5 C1.1) qa qc hg hsize (Steps.refl _) hlen hstack hW hdg (fun _ _ => ⟨has, h3, hc, hs⟩)
  dsimp only [Pt.U, Pt.locs, Pt.cells, Pt.slots] at X2 S2 l2 y2 z2 st q C2
  subst l2 y2 z2
  obtain ⟨F, K⟩ := hQ _ _ _ q
  exact Goes.via st (k T' T'.heap v L (Wk.cameS h4 h5 h6 h7 h8 h9 C1 h12 X2 S2 F K hws C2) q K)
theorem nf_sel {C : String} {y : MethodName} (w3 : (Cond.selects C y y).before a0 Z = true) : ∀ vm0, Z.Warmed39 vm0 → NotFace (s.setVm vm0) y := fun vm0 h5 => notFace_of_selects (args := #[]) (mvT (s := s.setVm vm0) h5 w3)
/-! entering a body -/
theorem CHv.none {vm : Vm} : CHv Z [] vm h := fun _ hp => by cases hp
theorem CtrN.of {y : MethodName} {bytes : ByteArray} {maxL : Nat} {ret : Option FieldType} {rm : Room} {as' : Array Value} {h0 : Heap} {Qv : Option Value → Heap → Prop} (hpn : plainFor y = true) (hO : Ext Z.heap h0)
    (body : ∀ (p : Program) (e : Env) (s : State) (m : MethodId) (below : List Frame) (meth : Method) (c : Code) (T : State), Wk True p l e rm s m as' below meth c Z y.cls [] h0 T h0 0 0 → s.heap = h0 → c.code = bytes → c.maxLocals = maxL → meth.sig.returnType = ret → meth.locks = false → meth.name = y.name →
      Goes p.tables e below (EndN Z s rm.cells rm.slots Qv) T (entryFrame m as' maxL)) : CtrN l Z y bytes maxL ret rm as' h0 Qv := by
  intro ws
  refine MetFree.of_bodySF hpn hisR ?_
  intro p e s m args below meth c s₁ Bd hml0 hP hK
  obtain ⟨rfl, hZ, hh⟩ := hP
  have hown := findClass_of_methodNamed Bd.named
  have hnm := (name_of_methodNamed Bd.named Bd.method).1
  have e0 : s₁.heap = h0 := by rw [← hh, Bd.state]; rfl
  exact body p e s m below meth c s₁ (Wk.start (Stand.of_body Bd) e0 hh Bd.exec hZ hown CHv.none hO) hh Bd.bytes hml0 Bd.returns Bd.notSynchronized hnm
theorem CtrS.of {y : MethodName} {bytes : ByteArray} {maxL : Nat} {ret : Option FieldType} {rm : Room} {as' : Array Value} {h0 : Heap} {Qv : Option Value → Heap → Prop} (hpn : plainFor y = true) (hO : Ext Z.heap h0)
    (body : ∀ (p : Program) (e : Env) (s : State) (m : MethodId) (below : List Frame) (meth : Method) (c : Code) (T : State), Wk False p l e rm s m as' below meth c Z y.cls EL h0 T h0 0 0 → s.heap = h0 → c.code = bytes → c.maxLocals = maxL → meth.sig.returnType = ret → meth.locks = false → meth.name = y.name →
      Goes p.tables e below (EndS Z s EL rm.cells rm.slots Qv) T (entryFrame m as' maxL)) : CtrS l Z EL y bytes maxL ret rm as' h0 Qv := by
  intro ws
  refine MetFree.of_bodySF hpn hisR ?_
  intro p e s m args below meth c s₁ Bd hml0 hP hK
  obtain ⟨rfl, hZ, hh, hC⟩ := hP
  have hown := findClass_of_methodNamed Bd.named
  have hnm := (name_of_methodNamed Bd.named Bd.method).1
  have e0 : s₁.heap = h0 := by rw [← hh, Bd.state]; rfl
  exact body p e s m below meth c s₁ (Wk.start (Stand.of_body Bd) e0 hh Bd.exec hZ hown hC hO) hh Bd.bytes hml0 Bd.returns Bd.notSynchronized hnm
end Walk
/-! branches -/
section Branch
variable {tb : Tables} [Ours tb] {e : Env} {below : List Frame} {Q : Outcome → State → Prop} {T : State} {m : MethodId} {c : Code} {Ls : Array Slot} {rest : List Value} {pc pc' : Nat} {o : Int} {x y : Int32} {cd : ClassFile.Cond}
abbrev cdP (cd : ClassFile.Cond) (x y : Int32) : Prop := match cd with
  | .eq => x = y
  | .ne => ¬ x = y
  | .lt => x < y
  | .ge => ¬ x < y
  | .gt => y < x
  | .le => ¬ y < x
theorem cd_t (h : cdP cd x y) : if_icmp.holds cd x y = true := by
  cases cd
  · exact (teq h).1
  · exact (feq h).2
  · exact (tlt h).1
  · exact (flt h).2.1
  · exact (tlt h).2.2.1
  · exact (flt h).2.2.2
theorem cd_f (h : ¬ cdP cd x y) : if_icmp.holds cd x y = false := by
  cases cd
  · exact (feq h).1
  · exact (teq (Classical.not_not.mp h)).2
  · exact (flt h).1
  · exact (tlt (Classical.not_not.mp h)).2.1
  · exact (flt h).2.2.1
  · exact (tlt (Classical.not_not.mp h)).2.2.2
theorem Goes.icmp (h : At T m c below) (hx : tb.exec = Jvm.exec) (hd : decode c.code pc = .ok (.if_icmp cd o, 3)) (ho : 0 ≤ (pc : Int) + o) (hp : ((pc : Int) + o).toNat = pc')
    (kt : cdP cd x y → Goes tb e below Q T (mkF m pc' Ls rest)) (kf : ¬ cdP cd x y → Goes tb e below Q T (mkF m (pc + 3) Ls rest)) : Goes tb e below Q T (mkF m pc Ls (.int y :: .int x :: rest)) := by
  by_cases q : cdP cd x y
  · exact Goes.go (fun _ => XS.icmpYes h hx rfl rfl hd rfl (cd_t q) ho hp) (kt q)
  · exact Goes.go (fun _ => XS.icmpNo h hx rfl hd rfl (cd_f q)) (kf q)
theorem Goes.ifc (h : At T m c below) (hx : tb.exec = Jvm.exec) (hd : decode c.code pc = .ok (.ifCond cd o, 3)) (ho : 0 ≤ (pc : Int) + o) (hp : ((pc : Int) + o).toNat = pc')
    (kt : cdP cd x 0 → Goes tb e below Q T (mkF m pc' Ls rest)) (kf : ¬ cdP cd x 0 → Goes tb e below Q T (mkF m (pc + 3) Ls rest)) : Goes tb e below Q T (mkF m pc Ls (.int x :: rest)) := by
  by_cases q : cdP cd x 0
  · exact Goes.go (fun _ => XS.ifYes h hx rfl rfl hd rfl ((if0 _ _).trans (cd_t q)) ho hp) (kt q)
  · exact Goes.go (fun _ => XS.ifNo h hx rfl hd rfl ((if0 _ _).trans (cd_f q))) (kf q)
theorem Goes.acmp {ac : ClassFile.ACond} {u v : Value} (h : At T m c below) (hx : tb.exec = Jvm.exec) (hd : decode c.code pc = .ok (.if_acmp ac o, 3)) (r1 : u.isRef = true) (r2 : v.isRef = true) (ho : 0 ≤ (pc : Int) + o) (hp : ((pc : Int) + o).toNat = pc')
    (kt : Jvm.Free.XT.acmp ac u v = true → Goes tb e below Q T (mkF m pc' Ls rest)) (kf : Jvm.Free.XT.acmp ac u v = false → Goes tb e below Q T (mkF m (pc + 3) Ls rest)) : Goes tb e below Q T (mkF m pc Ls (v :: u :: rest)) := by
  cases q : Jvm.Free.XT.acmp ac u v
  · exact Goes.go (fun _ => Jvm.Free.XT.acmpNo h hx rfl hd rfl r1 r2 q) (kf q)
  · exact Goes.go (fun _ => Jvm.Free.XT.acmpYes h hx rfl rfl hd rfl r1 r2 q ho hp) (kt q)
end Branch
/-! Strings of Latin-1 chars -/
section Strs
variable {Z : State} {a0 : Array Value} {h h' : Heap} {a x : Addr} {cs : List Int32}
/-- a String whose chars are cs, each 0 to 255 -/
def LStr (Z : State) (h : Heap) (a : Addr) (cs : List Int32) : Prop :=
  Exa Z h a "java/lang/String" ∧ Fld Z h a "java/lang/String" "coder" "B" (.int 0) ∧ (∃ (t : Addr) (kb : ClassId), Fld Z h a "java/lang/String" "value" "[B" (.ref t) ∧ Arv Z h t kb .byte (Int32.ofNat cs.length) ((cs.map fun c => c.toInt8.toInt32).map Value.int) (.int 0)) ∧ (∀ c ∈ cs, ¬ c < 0 ∧ ¬ (255 : Int32) < c) ∧ cs.length ≤ 4000
theorem LStr.ext (S : LStr Z h a cs) (E : Ext h h') : LStr Z h' a cs := by
  obtain ⟨h1, h2, ⟨t, kb, h3, h4⟩, h5⟩ := S
  exact ⟨h1.ext E, h2.ext E, ⟨t, kb, h3.ext E, h4.ext E⟩, h5⟩
theorem LStr.keep {C : String} {n : Nat} (S : LStr Z h a cs) (K : Keep h h' [x]) (E : Exa Z h x C) (hC : C ≠ "java/lang/String") (wi : (Cond.instantiable C n).before a0 Z = true) : LStr Z h' a cs := by
  obtain ⟨h1, h2, ⟨t, kb, h3, h4⟩, h5⟩ := S
  have n1 : a ∉ [x] := fun q => by cases List.mem_singleton.mp q; exact Exa.ne h1 E (Ne.symm hC) rfl
  have n2 : t ∉ [x] := fun q => by cases List.mem_singleton.mp q; exact Exa.neArv E h4 wi rfl
  exact ⟨h1.keep K, h2.keep K n1, ⟨t, kb, h3.keep K n1, h4.keep K n2⟩, h5⟩
theorem LStr.keep2 {C D : String} {n k : Nat} {y : Addr} (S : LStr Z h a cs) (K : Keep h h' [x, y]) (E : Exa Z h x C) (hC : C ≠ "java/lang/String") (wi : (Cond.instantiable C n).before a0 Z = true) (E' : Exa Z h y D) (hD : D ≠ "java/lang/String") (wi' : (Cond.instantiable D k).before a0 Z = true) : LStr Z h' a cs := by
  obtain ⟨h1, h2, ⟨t, kb, h3, h4⟩, h5⟩ := S
  have n1 : a ∉ [x, y] := ninS (Exa.ne h1 E (Ne.symm hC)) (ninS (Exa.ne h1 E' (Ne.symm hD)) nin0)
  have n2 : t ∉ [x, y] := ninS (Exa.neArv E h4 wi).symm (ninS (Exa.neArv E' h4 wi').symm nin0)
  exact ⟨h1.keep K, h2.keep K n1, ⟨t, kb, h3.keep K n1, h4.keep K n2⟩, h5⟩
/-- a String under construction (its value still null) is no literal's -/
theorem SafeA.null {EL : List (String × Nat)} (E : Exa Z h x "java/lang/String") (V : Fld Z h x "java/lang/String" "value" "[B" .null) : SafeA Z EL h x := fun vm hal B => by
  obtain ⟨p, -, u, a, -, q, -, F, hy⟩ := B
  have Fa := F.ha
  have Fd := F.hd
  obtain ⟨cS, ⟨⟨s1, s2, s3, ⟨cv, kv, iv, s4, s4'⟩, ⟨cc, kc, ic, s5, s5'⟩, s6, s7, s8, s9, s10, s11, s12, s13, s14, s15, s16⟩, hfS, hcS⟩, ⟨kS, k1, k2, k3⟩, hB, hbyt⟩ := F
  obtain ⟨c1, kx, e1, e2, e3, e4, e5⟩ := E
  obtain ⟨c2, cf, k, i, f, v1, v2, v3, v4, v5, v6, v7⟩ := V
  cases e1.symm.trans v1
  rcases hy with rfl | rfl
  · obtain ⟨kv', z4⟩ := ff_back (U := Wst Z vm h) hal s4
    have z4 : Z.fieldFound? "java/lang/String" "value" "[B" = _ := z4
    rw [v2] at z4
    simp only [Option.some.injEq, Prod.mk.injEq] at z4
    cases (show h[q.sa]? = some q.sC from s1).symm.trans e1
    rw [z4.2.2.2, s8] at v7
    cases v7
  · cases (show h[q.sd]? = some q.SA from s10).symm.trans e1
    obtain ⟨-, kA, hkA, comp, hkind⟩ := s11
    have hfS' : vm.findClass "java/lang/String" = some cS := hfS
    rw [hal.findClass] at hfS'
    cases hfS'.symm.trans e2
    cases (show vm.classes[q.SA.cls]? = some kS from k1).symm.trans (show vm.classes[q.SA.cls]? = some kA from hkA)
    rw [k2] at hkind
    cases hkind
theorem LStr.lt (S : LStr Z h a cs) : a < h.size := S.1.lt
end Strs
end Jvm.OwnKit
/- laws to paste: Road.backV, Road.lenW, Road.chN, Road.empW, Road.codOf (cut by pick.py; bodies as the Statement names them) -/
namespace Jvm.Pilot.@@N@@
namespace StrChars
open Jvm Sem ClassFile Op Lib Jvm.Stand Jvm.Free.XT Jvm.Free.ALB Jvm.Free.JM Jvm.Free
open Jvm.Lib.Cold (StaticIs)
/-- a char array whose places are chars -/
def Ch (a : Addr) (A : Cell) (U : State) : Prop := Arr .char a A U ∧ Typed .char A
theorem Ch.mv {a : Addr} {A : Cell} {U U' : State} (h : Ch a A U) (hal : U.vm.Alike U'.vm) (hh : U'.heap = U.heap) : Ch a A U' := ⟨h.1.mv hal hh, h.2⟩
theorem Ch.keep {a : Addr} {A : Cell} {U U' : State} (h : Ch a A U) (hal : U.vm.Alike U'.vm) (hk : U'.heap[a]? = some A) : Ch a A U' := ⟨h.1.keep hal hk, h.2⟩
/-- what place i of a char[]'s cell holds -/
def cv (A : Cell) (i : Nat) : Int32 := match A.slots[i]? with | some (.int x) => x | _ => 0
theorem Ch.get {a : Addr} {A : Cell} {U : State} (h : Ch a A U) {i : Nat} (hi : i < A.slots.size) : A.slots[i]? = some (.int (cv A i)) := by
  have e := Array.getElem?_eq_getElem hi
  have f := h.2 i _ e
  unfold cv; rw [e]
  generalize A.slots[i] = v at f
  cases v <;> simp [fits] at f ⊢
/-- the byte that i2b leaves of a char -/
def lo8 (x : Int32) : Int32 := x.toInt8.toInt32
theorem fits_lo8 (y : Int32) : fits .byte (.int (lo8 y)) = true := by
  have h1 := y.toInt8.le_toInt
  have h2 := y.toInt8.toInt_lt
  simp only [lo8, fits, Bool.and_eq_true, decide_eq_true_eq, Int32.le_iff_toInt_le, Int8.toInt_toInt32, show (-128 : Int32).toInt = -128 from by decide, show (127 : Int32).toInt = 127 from by decide]
  omega
/-- A' is A but that each place j of lo .. hi - 1 holds f j -/
def Laid (A A' : Cell) (lo hi : Nat) (f : Nat → Value) : Prop := A'.cls = A.cls ∧ A'.vm = A.vm ∧ A'.slots.size = A.slots.size ∧ ∀ i, A'.slots[i]? = if lo ≤ i ∧ i < hi then some (f i) else A.slots[i]?
theorem Laid.zero (A : Cell) (lo : Nat) (f : Nat → Value) : Laid A A lo (lo + 0) f := ⟨rfl, rfl, rfl, fun i => by rw [if_neg (by omega)]⟩
theorem Laid.step {A Ak : Cell} {lo k : Nat} {f : Nat → Value} {v : Value} (h : Laid A Ak lo k f) (hlo : lo ≤ k) (hk : k < Ak.slots.size) (hv : v = f k) : Laid A (Ak.setSlot k v) lo (k + 1) f := by
  refine ⟨h.1, h.2.1, by simpa [Cell.setSlot] using h.2.2.1, fun i => ?_⟩
  by_cases e : k = i
  · subst e; rw [Cell.slots_setSlot_self v hk, if_pos (by omega), hv]
  · rw [Cell.slots_setSlot_ne v e, h.2.2.2 i]
    by_cases q : lo ≤ i ∧ i < k
    · rw [if_pos q, if_pos (by omega)]
    · rw [if_neg q, if_neg (by omega)]
def U16 : String := "java/lang/StringUTF16"
namespace Cmp5
def yN : MethodName := ⟨"java/lang/StringUTF16", "compress", "([CI[BII)I"⟩
abbrev yB : ByteArray := jdk_52_method_21_code
theorem d0 : decode yB 0 = .ok (.iconst 0, 1) := by decide +kernel
theorem d1 : decode yB 1 = .ok (.istore 5, 2) := by decide +kernel
theorem d3 : decode yB 3 = .ok (.iload 5, 2) := by decide +kernel
theorem d5 : decode yB 5 = .ok (.iload 4, 2) := by decide +kernel
theorem d7 : decode yB 7 = .ok (.if_icmp (.ge) 37, 3) := by decide +kernel
theorem d10 : decode yB 10 = .ok (.aload_n 0, 1) := by decide +kernel
theorem d11 : decode yB 11 = .ok (.iload_n 1, 1) := by decide +kernel
theorem d12 : decode yB 12 = .ok (.caload, 1) := by decide +kernel
theorem d13 : decode yB 13 = .ok (.istore 6, 2) := by decide +kernel
theorem d15 : decode yB 15 = .ok (.iload 6, 2) := by decide +kernel
theorem d17 : decode yB 17 = .ok (.sipush 255, 3) := by decide +kernel
theorem d20 : decode yB 20 = .ok (.if_icmp (.le) 6, 3) := by decide +kernel
theorem d26 : decode yB 26 = .ok (.aload_n 2, 1) := by decide +kernel
theorem d27 : decode yB 27 = .ok (.iload_n 3, 1) := by decide +kernel
theorem d28 : decode yB 28 = .ok (.iload 6, 2) := by decide +kernel
theorem d30 : decode yB 30 = .ok (.i2b, 1) := by decide +kernel
theorem d31 : decode yB 31 = .ok (.bastore, 1) := by decide +kernel
theorem d32 : decode yB 32 = .ok (.iinc 1 1, 3) := by decide +kernel
theorem d35 : decode yB 35 = .ok (.iinc 3 1, 3) := by decide +kernel
theorem d38 : decode yB 38 = .ok (.iinc 5 1, 3) := by decide +kernel
theorem d41 : decode yB 41 = .ok (.goto (-38), 3) := by decide +kernel
theorem d44 : decode yB 44 = .ok (.iload 4, 2) := by decide +kernel
theorem d46 : decode yB 46 = .ok (.ireturn, 1) := by decide +kernel
def site : List Cond := []
def tab : Cond := tabOf yN yB 7 (some .int) site
def P (b : Addr) (A : Cell) (d : Addr) (B : Cell) (o q len : Nat) (args : Array Value) (s : State) : Prop := args = #[.ref b, .int (Int32.ofNat o), .ref d, .int (Int32.ofNat q), .int (Int32.ofNat len)] ∧ Ch b A s ∧ Arr .byte d B s ∧ b ≠ d ∧ o + len ≤ A.slots.size ∧ q + len ≤ B.slots.size ∧ ∀ i, i < len → ¬ 255 < cv A (o + i)
def E (b : Addr) (A : Cell) (d : Addr) (B : Cell) (o q len : Nat) (r : Option Value) (s u : State) : Prop := r = some (.int (Int32.ofNat len)) ∧ ∃ B', Put d B' s u ∧ Laid B B' q (q + len) (fun j => Value.int (lo8 (cv A (o + (j - q)))))
/-- no char of the range above 255: len; the places written hold each char's low byte -/
theorem law (l : Launch) (b : Addr) (A : Cell) (d : Addr) (B : Cell) (o q len : Nat) : Law l yN 5 5 0 0 yB 7 (some .int) site (P b A d B o q len) (E b A d B o q len) (copyLocs d q len) 0 0 := by
  refine Law.of_walk (plainFor_of_name (by decide +kernel)) (by decide +kernel) (by decide +kernel) (by decide) (fun _ _ h => by rw [h.1]; rfl) (fun _ U U' hal hh h => ⟨h.1, h.2.1.mv hal hh, h.2.2.1.mv hal hh, h.2.2.2⟩) (fun r U U' V V' h1 hal h2 h => ⟨h.1, h.2.elim fun B' q => ⟨B', q.1.mv h1 h2, q.2⟩⟩) ?_
  intro p e s m args below meth c s₁ X0 hexec hbytes hml hret hlk hnm hown hh0 W hP
  obtain ⟨rfl, hA, hB, hne, l1, l2, hp⟩ := hP
  have c1 : Steps p.tables e below (s₁.setTop (entryFrame m #[.ref b, .int (Int32.ofNat o), .ref d, .int (Int32.ofNat q), .int (Int32.ofNat len)] 7)) (s₁.setTop (mkF m 0 #[.val (.ref b), .val (.int (Int32.ofNat o)), .val (.ref d), .val (.int (Int32.ofNat q)), .val (.int (Int32.ofNat len)), .unset, .unset] [])) := entry rfl
  have hA0 := hA.1.mv X0.warmed.alike hh0
  have hB0 := hB.mv X0.warmed.alike hh0
  have a31 := hA.1.2.2.2
  have c2 : Steps p.tables e below (s₁.setTop (entryFrame m #[.ref b, .int (Int32.ofNat o), .ref d, .int (Int32.ofNat q), .int (Int32.ofNat len)] 7)) (s₁.setTop (mkF m 3 #[.val (.ref b), .val (.int (Int32.ofNat o)), .val (.ref d), .val (.int (Int32.ofNat q)), .val (.int (Int32.ofNat len)), .val (.int 0), .unset] [])) := c1.trans (by
    refine iconstV X0.here hexec rfl 0 (hb hbytes d0) (by decide) ?_
    refine XS.istore X0.here hexec rfl (hb hbytes d1) rfl rfl ?_
    exact Steps.refl _)
  have loop : ∀ (r i : Nat), i + r = len → ∀ (z : Slot), (z = .unset ∨ ∃ w, z = .val w ∧ w.category = 1) → ∀ (Tl : State) (Bk : Cell), Stand p l e { frames := 0, locals := 0, cells := 0, slots := 0 } s m #[.ref b, .int (Int32.ofNat o), .ref d, .int (Int32.ofNat q), .int (Int32.ofNat len)] below meth c Tl ([] ++ copyLocs d q i) 0 0 → Put d Bk s₁ Tl → Laid B Bk q (q + i) (fun j => Value.int (lo8 (cv A (o + (j - q))))) →
      Steps p.tables e below (s₁.setTop (entryFrame m #[.ref b, .int (Int32.ofNat o), .ref d, .int (Int32.ofNat q), .int (Int32.ofNat len)] 7)) (Tl.setTop (mkF m 3 #[.val (.ref b), .val (.int (Int32.ofNat (o + i))), .val (.ref d), .val (.int (Int32.ofNat (q + i))), .val (.int (Int32.ofNat len)), .val (.int (Int32.ofNat i)), z] [])) → ∃ (T' : State) (B' : Cell) (z' : Slot), Stand p l e { frames := 0, locals := 0, cells := 0, slots := 0 } s m #[.ref b, .int (Int32.ofNat o), .ref d, .int (Int32.ofNat q), .int (Int32.ofNat len)] below meth c T' ([] ++ copyLocs d q len) 0 0 ∧ Put d B' s₁ T' ∧ Laid B B' q (q + len) (fun j => Value.int (lo8 (cv A (o + (j - q))))) ∧
      Steps p.tables e below (s₁.setTop (entryFrame m #[.ref b, .int (Int32.ofNat o), .ref d, .int (Int32.ofNat q), .int (Int32.ofNat len)] 7)) (T'.setTop (mkF m 3 #[.val (.ref b), .val (.int (Int32.ofNat (o + len))), .val (.ref d), .val (.int (Int32.ofNat (q + len))), .val (.int (Int32.ofNat len)), .val (.int (Int32.ofNat len)), z'] [])) := by
    intro r
    induction r with
    | zero =>
      intro i hi z hz Tl Bk Xl pl fl cl
      have hil : i = len := by omega
      rw [hil] at Xl fl cl
      exact ⟨Tl, Bk, z, Xl, pl, fl, cl⟩
    | succ r ih =>
      intro i hi z hz Tl Bk Xl pl fl cl
      have all := X0.warmed.alike.symm.trans Xl.warmed.alike
      have hAl := hA0.keep all (pl.other hne hA0.1)
      have hBk := hB0.like all pl.1 fl.1 fl.2.1 fl.2.2.1
      have hlt : q + i < Bk.slots.size := by rw [fl.2.2.1]; omega
      have c3 : Steps p.tables e below (s₁.setTop (entryFrame m #[.ref b, .int (Int32.ofNat o), .ref d, .int (Int32.ofNat q), .int (Int32.ofNat len)] 7)) (Tl.setTop (mkF m 12 #[.val (.ref b), .val (.int (Int32.ofNat (o + i))), .val (.ref d), .val (.int (Int32.ofNat (q + i))), .val (.int (Int32.ofNat len)), .val (.int (Int32.ofNat i)), z] [.int (Int32.ofNat (o + i)), .ref b])) := cl.trans (by
        refine XS.iload Xl.here hexec rfl (hb hbytes d3) rfl ?_
        refine XS.iload Xl.here hexec rfl (hb hbytes d5) rfl ?_
        refine XS.icmpNo Xl.here hexec rfl (hb hbytes d7) rfl (ii_ge_f (lt32 (by omega) (by omega))) ?_
        refine XS.aloadN Xl.here hexec rfl (hb hbytes d10) rfl rfl ?_
        refine XS.iloadN Xl.here hexec rfl (hb hbytes d11) rfl ?_
        exact Steps.refl _)
      have c4 : Steps p.tables e below (s₁.setTop (entryFrame m #[.ref b, .int (Int32.ofNat o), .ref d, .int (Int32.ofNat q), .int (Int32.ofNat len)] 7)) (Tl.setTop (mkF m 13 #[.val (.ref b), .val (.int (Int32.ofNat (o + i))), .val (.ref d), .val (.int (Int32.ofNat (q + i))), .val (.int (Int32.ofNat len)), .val (.int (Int32.ofNat i)), z] [.int (cv A (o + i))])) := c3.trans (by
        refine Xl.aget hexec hAl rfl (hA.get (i := o + i) (by omega)) rfl rfl (hb hbytes d12) ?_
        exact Steps.refl _)
      have c5 : Steps p.tables e below (s₁.setTop (entryFrame m #[.ref b, .int (Int32.ofNat o), .ref d, .int (Int32.ofNat q), .int (Int32.ofNat len)] 7)) (Tl.setTop (mkF m 15 #[.val (.ref b), .val (.int (Int32.ofNat (o + i))), .val (.ref d), .val (.int (Int32.ofNat (q + i))), .val (.int (Int32.ofNat len)), .val (.int (Int32.ofNat i)), .val (.int (cv A (o + i)))] [])) := c4.trans (by
        refine XS.istoreS Xl.here hexec rfl (hb hbytes d13) rfl rfl hz ?_
        exact Steps.refl _)
      have c6 : Steps p.tables e below (s₁.setTop (entryFrame m #[.ref b, .int (Int32.ofNat o), .ref d, .int (Int32.ofNat q), .int (Int32.ofNat len)] 7)) (Tl.setTop (mkF m 31 #[.val (.ref b), .val (.int (Int32.ofNat (o + i))), .val (.ref d), .val (.int (Int32.ofNat (q + i))), .val (.int (Int32.ofNat len)), .val (.int (Int32.ofNat i)), .val (.int (cv A (o + i)))] [.int (lo8 (cv A (o + i))), .int (Int32.ofNat (q + i)), .ref d])) := c5.trans (by
        refine XS.iload Xl.here hexec rfl (hb hbytes d15) rfl ?_
        refine sipushV Xl.here hexec rfl 255 (hb hbytes d17) (by decide) ?_
        refine XS.icmpYes Xl.here hexec rfl (pc0 := 20) rfl (hb hbytes d20) rfl (ii_le_t (hp i (by omega))) (by decide) rfl ?_
        refine XS.aloadN Xl.here hexec rfl (hb hbytes d26) rfl rfl ?_
        refine XS.iloadN Xl.here hexec rfl (hb hbytes d27) rfl ?_
        refine XS.iload Xl.here hexec rfl (hb hbytes d28) rfl ?_
        refine i2b Xl.here hexec rfl (hb hbytes d30) rfl ?_
        exact Steps.refl _)
      obtain ⟨T7, X7, p7, st7⟩ := Xl.aput hexec hBk rfl hlt rfl (fits_lo8 (cv A (o + i))) (g := (mkF m 31 #[.val (.ref b), .val (.int (Int32.ofNat (o + i))), .val (.ref d), .val (.int (Int32.ofNat (q + i))), .val (.int (Int32.ofNat len)), .val (.int (Int32.ofNat i)), .val (.int (cv A (o + i)))] [.int (lo8 (cv A (o + i))), .int (Int32.ofNat (q + i)), .ref d])) rfl (rest := []) rfl (hb hbytes d31)
      have c8 : Steps p.tables e below (s₁.setTop (entryFrame m #[.ref b, .int (Int32.ofNat o), .ref d, .int (Int32.ofNat q), .int (Int32.ofNat len)] 7)) (T7.setTop (mkF m 32 #[.val (.ref b), .val (.int (Int32.ofNat (o + i))), .val (.ref d), .val (.int (Int32.ofNat (q + i))), .val (.int (Int32.ofNat len)), .val (.int (Int32.ofNat i)), .val (.int (cv A (o + i)))] [])) := c6.trans (st7 _ (Steps.refl _))
      have c9 : Steps p.tables e below (s₁.setTop (entryFrame m #[.ref b, .int (Int32.ofNat o), .ref d, .int (Int32.ofNat q), .int (Int32.ofNat len)] 7)) (T7.setTop (mkF m 3 #[.val (.ref b), .val (.int (Int32.ofNat (o + i) + 1)), .val (.ref d), .val (.int (Int32.ofNat (q + i) + 1)), .val (.int (Int32.ofNat len)), .val (.int (Int32.ofNat i + 1)), .val (.int (cv A (o + i)))] [])) := c8.trans (by
        refine iincV X7.here hexec rfl 1 (hb hbytes d32) (by decide) rfl rfl ?_
        refine iincV X7.here hexec rfl 1 (hb hbytes d35) (by decide) rfl rfl ?_
        refine iincV X7.here hexec rfl 1 (hb hbytes d38) (by decide) rfl rfl ?_
        refine XS.goto X7.here hexec rfl (pc0 := 41) rfl (hb hbytes d41) (by decide) rfl ?_
        exact Steps.refl _)
      have c10 : Steps p.tables e below (s₁.setTop (entryFrame m #[.ref b, .int (Int32.ofNat o), .ref d, .int (Int32.ofNat q), .int (Int32.ofNat len)] 7)) (T7.setTop (mkF m 3 #[.val (.ref b), .val (.int (Int32.ofNat (o + (i + 1)))), .val (.ref d), .val (.int (Int32.ofNat (q + (i + 1)))), .val (.int (Int32.ofNat len)), .val (.int (Int32.ofNat (i + 1))), .val (.int (cv A (o + i)))] [])) := by
        have := c9
        rw [succ32, succ32, succ32] at this
        exact this
      exact ih (i + 1) (by omega) _ (Or.inr ⟨_, rfl, rfl⟩) T7 _ (by rw [copyLocs_step, ← List.append_assoc]; exact X7) (pl.trans p7) (fl.step (by omega) hlt (by simp)) c10
  obtain ⟨T9, B9, z9, X9, p9, f9, g9⟩ := loop len 0 (by omega) .unset (Or.inl rfl) s₁ B (by simpa [copyLocs] using X0) ⟨hB0.1, fun _ _ => rfl, rfl⟩ (Laid.zero _ _ _) c2
  have c11 : Steps p.tables e below (s₁.setTop (entryFrame m #[.ref b, .int (Int32.ofNat o), .ref d, .int (Int32.ofNat q), .int (Int32.ofNat len)] 7)) (T9.setTop (mkF m 46 #[.val (.ref b), .val (.int (Int32.ofNat (o + len))), .val (.ref d), .val (.int (Int32.ofNat (q + len))), .val (.int (Int32.ofNat len)), .val (.int (Int32.ofNat len)), z9] [.int (Int32.ofNat len)])) := g9.trans (by
    refine XS.iload X9.here hexec rfl (hb hbytes d3) rfl ?_
    refine XS.iload X9.here hexec rfl (hb hbytes d5) rfl ?_
    refine XS.icmpYes X9.here hexec rfl (pc0 := 7) rfl (hb hbytes d7) rfl (ii_ge_t (nlt32 (by omega) (Nat.le_refl _))) (by decide) rfl ?_
    refine XS.iload X9.here hexec rfl (hb hbytes d44) rfl ?_
    exact Steps.refl _)
  exact ⟨T9, some (.int (Int32.ofNat len)), _, _, _, X9, by simp, rfl, rfl, (fun h => by cases h), ⟨rfl, B9, p9.from hh0, f9⟩, fun fs hl => c11.trans (X9.ireturnOut hexec hret rfl (Or.inl rfl) (hb hbytes d46) hl)⟩
end Cmp5
namespace Cmp3
def yN : MethodName := ⟨"java/lang/StringUTF16", "compress", "([CII)[B"⟩
abbrev yB : ByteArray := jdk_52_method_16_code
theorem d0 : decode yB 0 = .ok (.iload_n 2, 1) := by decide +kernel
theorem d1 : decode yB 1 = .ok (.newarray .byte, 2) := by decide +kernel
theorem d3 : decode yB 3 = .ok (.astore_n 3, 1) := by decide +kernel
theorem d4 : decode yB 4 = .ok (.aload_n 0, 1) := by decide +kernel
theorem d5 : decode yB 5 = .ok (.iload_n 1, 1) := by decide +kernel
theorem d6 : decode yB 6 = .ok (.aload_n 3, 1) := by decide +kernel
theorem d7 : decode yB 7 = .ok (.iconst 0, 1) := by decide +kernel
theorem d8 : decode yB 8 = .ok (.iload_n 2, 1) := by decide +kernel
theorem d9 : decode yB 9 = .ok (.invokestatic 115, 3) := by decide +kernel
theorem d12 : decode yB 12 = .ok (.istore 4, 2) := by decide +kernel
theorem d14 : decode yB 14 = .ok (.iload 4, 2) := by decide +kernel
theorem d16 : decode yB 16 = .ok (.iload_n 2, 1) := by decide +kernel
theorem d17 : decode yB 17 = .ok (.if_icmp (.eq) 40, 3) := by decide +kernel
theorem d57 : decode yB 57 = .ok (.aload_n 3, 1) := by decide +kernel
theorem d58 : decode yB 58 = .ok (.areturn, 1) := by decide +kernel
def site : List Cond := [.arrayClass .byte, Cmp5.tab] ++ staticW U16 115 Cmp5.yN
def tab : Cond := tabOf yN yB 6 (some (.array .byte)) site
def P (b : Addr) (A : Cell) (o len : Nat) (args : Array Value) (s : State) : Prop := args = #[.ref b, .int (Int32.ofNat o), .int (Int32.ofNat len)] ∧ Ch b A s ∧ o + len ≤ A.slots.size ∧ len ≤ 536870912 ∧ ∀ i, i < len → ¬ 255 < cv A (o + i)
def E (b : Addr) (A : Cell) (o len : Nat) (r : Option Value) (s u : State) : Prop := NewArr .byte "[B" len (fun j => .int (lo8 (cv A (o + j)))) r s u ∧ u.heap.size = s.heap.size + 1
/-- no char of the range above 255: a new byte[] of their low bytes -/
theorem law (l : Launch) (b : Addr) (A : Cell) (o len : Nat) : Law l yN 3 3 1 18 yB 6 (some (.array .byte)) site (P b A o len) (E b A o len) [] 1 len := by
  refine Law.of_walk (plainFor_of_name (by decide +kernel)) (by decide +kernel) (by decide +kernel) (by decide) (fun _ _ h => by rw [h.1]; rfl) (fun _ U U' hal hh h => ⟨h.1, h.2.1.mv hal hh, h.2.2⟩) (fun r U U' V V' h1 hal h2 h => ⟨NewArr.mv r U U' V V' h1 hal h2 h.1, by rw [h1, h2]; exact h.2⟩) ?_
  intro p e s m args below meth c s₁ X0 hexec hbytes hml hret hlk hnm hown hh0 W hP
  obtain ⟨rfl, hA, l1, l2, hp⟩ := hP
  have a31 := hA.1.2.2.2
  have c1 : Steps p.tables e below (s₁.setTop (entryFrame m #[.ref b, .int (Int32.ofNat o), .int (Int32.ofNat len)] 6)) (s₁.setTop (mkF m 0 #[.val (.ref b), .val (.int (Int32.ofNat o)), .val (.int (Int32.ofNat len)), .unset, .unset, .unset] [])) := entry rfl
  have c2 : Steps p.tables e below (s₁.setTop (entryFrame m #[.ref b, .int (Int32.ofNat o), .int (Int32.ofNat len)] 6)) (s₁.setTop (mkF m 1 #[.val (.ref b), .val (.int (Int32.ofNat o)), .val (.int (Int32.ofNat len)), .unset, .unset, .unset] [.int (Int32.ofNat len)])) := c1.trans (by
    refine XS.iloadN X0.here hexec rfl (hb hbytes d0) rfl ?_
    exact Steps.refl _)
  obtain ⟨T3, B3, X3, ba3, bs3, bv3, bh3, bf3, st3⟩ := X0.anew hexec (atype := .byte) (wk W (.arrayClass .byte)) rfl (by show len * 1 ≤ _; omega) (by omega) (g := (mkF m 1 #[.val (.ref b), .val (.int (Int32.ofNat o)), .val (.int (Int32.ofNat len)), .unset, .unset, .unset] [.int (Int32.ofNat len)])) rfl (hb hbytes d1) (rest := []) rfl (Nat.le_refl _) (by show 0 + len ≤ len; omega)
  rw [hh0] at ba3 st3
  have kp3 : XT.Kept s T3 := (XT.Kept.of_eq hh0).push bh3
  have hA3 := hA.keep X3.warmed.alike (kp3 _ _ hA.1.1)
  have hne : b ≠ s.heap.size := hA.1.ne
  have c4 : Steps p.tables e below (s₁.setTop (entryFrame m #[.ref b, .int (Int32.ofNat o), .int (Int32.ofNat len)] 6)) (T3.setTop (mkF m 3 #[.val (.ref b), .val (.int (Int32.ofNat o)), .val (.int (Int32.ofNat len)), .unset, .unset, .unset] [.ref s.heap.size])) := c2.trans (st3 _ (Steps.refl _))
  have c5 : Steps p.tables e below (s₁.setTop (entryFrame m #[.ref b, .int (Int32.ofNat o), .int (Int32.ofNat len)] 6)) (T3.setTop (mkF m 9 #[.val (.ref b), .val (.int (Int32.ofNat o)), .val (.int (Int32.ofNat len)), .val (.ref s.heap.size), .unset, .unset] [.int (Int32.ofNat len), .int 0, .ref s.heap.size, .int (Int32.ofNat o), .ref b])) := c4.trans (by
    refine XS.astoreN X3.here hexec rfl (hb hbytes d3) rfl rfl rfl ?_
    refine XS.aloadN X3.here hexec rfl (hb hbytes d4) rfl rfl ?_
    refine XS.iloadN X3.here hexec rfl (hb hbytes d5) rfl ?_
    refine XS.aloadN X3.here hexec rfl (hb hbytes d6) rfl rfl ?_
    refine iconstV X3.here hexec rfl 0 (hb hbytes d7) (by decide) ?_
    refine XS.iloadN X3.here hexec rfl (hb hbytes d8) rfl ?_
    exact Steps.refl _)
  obtain ⟨v6, T6, X6, E6, g6⟩ := X3.callS hexec (Cmp5.law l b A s.heap.size B3 o 0 len) hown (wks W (staticW U16 115 Cmp5.yN)) (wk W Cmp5.tab) (W := 0) (Nat.le_of_ble_eq_true rfl) (Nat.le_of_ble_eq_true rfl) (Nat.le_refl _) (by show 0 + len + 0 ≤ len; omega) (g := (mkF m 9 #[.val (.ref b), .val (.int (Int32.ofNat o)), .val (.int (Int32.ofNat len)), .val (.ref s.heap.size), .unset, .unset] [.int (Int32.ofNat len), .int (Int32.ofNat 0), .ref s.heap.size, .int (Int32.ofNat o), .ref b])) rfl (by rw [hml]; rfl) c5 (argsL := [.ref b, .int (Int32.ofNat o), .ref s.heap.size, .int (Int32.ofNat 0), .int (Int32.ofNat len)]) (rest := []) rfl rfl (by show 2 * 0 + 0 ≤ _; decide) (hb hbytes d9) (⟨rfl, hA3, ba3, hne, l1, by rw [bs3]; simp, hp⟩)
  obtain ⟨rfl, B6, p6, f6⟩ := E6
  have c7 : Steps p.tables e below (s₁.setTop (entryFrame m #[.ref b, .int (Int32.ofNat o), .int (Int32.ofNat len)] 6)) (T6.setTop (mkF m 12 #[.val (.ref b), .val (.int (Int32.ofNat o)), .val (.int (Int32.ofNat len)), .val (.ref s.heap.size), .unset, .unset] [.int (Int32.ofNat len)])) := g6
  have c8 : Steps p.tables e below (s₁.setTop (entryFrame m #[.ref b, .int (Int32.ofNat o), .int (Int32.ofNat len)] 6)) (T6.setTop (mkF m 58 #[.val (.ref b), .val (.int (Int32.ofNat o)), .val (.int (Int32.ofNat len)), .val (.ref s.heap.size), .val (.int (Int32.ofNat len)), .unset] [.ref s.heap.size])) := c7.trans (by
    refine XS.istore X6.here hexec rfl (hb hbytes d12) rfl rfl ?_
    refine XS.iload X6.here hexec rfl (hb hbytes d14) rfl ?_
    refine XS.iloadN X6.here hexec rfl (hb hbytes d16) rfl ?_
    refine XS.icmpYes X6.here hexec rfl (pc0 := 17) rfl (hb hbytes d17) rfl (ii_eq_t rfl) (by decide) rfl ?_
    refine XS.aloadN X6.here hexec rfl (hb hbytes d57) rfl rfl ?_
    exact Steps.refl _)
  have X8 := X6.wide (L' := []) (cells' := 1) (slots' := len) (fun x hx hlt => by
    simp only [List.nil_append, copyLocs, List.mem_map, List.mem_range] at hx
    obtain ⟨i, -, rfl⟩ := hx
    exact absurd hlt (Nat.lt_irrefl _)) (Nat.le_refl _) (by omega)
  exact ⟨T6, some (.ref s.heap.size), _, _, _, X8, rfl, rfl, rfl, (fun h => by cases h), ⟨⟨rfl, B6, ba3.like (X3.warmed.alike.symm.trans X6.warmed.alike) p6.1 f6.1 f6.2.1 f6.2.2.1, f6.2.1.trans bv3, by rw [X6.warmed.alike.findClass, f6.1]; exact bf3, by rw [f6.2.2.1, bs3]; simp, fun j hj => by rw [f6.2.2.2 j, if_pos (by omega)]; rfl, kp3.put p6 (Nat.le_refl _)⟩, by rw [p6.2.2, bh3, hh0]; simp⟩, fun fs hl => c8.trans (X8.areturnOut hexec rfl hret rfl (hb hbytes d58) hl)⟩
end Cmp3
namespace CodL
def yN : MethodName := ⟨"java/lang/StringUTF16", "coderFromArrayLen", "([BI)B"⟩
abbrev yB : ByteArray := jdk_52_method_15_code
theorem d0 : decode yB 0 = .ok (.iload_n 1, 1) := by decide +kernel
theorem d1 : decode yB 1 = .ok (.aload_n 0, 1) := by decide +kernel
theorem d2 : decode yB 2 = .ok (.arraylength, 1) := by decide +kernel
theorem d3 : decode yB 3 = .ok (.isub, 1) := by decide +kernel
theorem d4 : decode yB 4 = .ok (.bipush 31, 2) := by decide +kernel
theorem d6 : decode yB 6 = .ok (.iushr, 1) := by decide +kernel
theorem d7 : decode yB 7 = .ok (.i2b, 1) := by decide +kernel
theorem d8 : decode yB 8 = .ok (.ireturn, 1) := by decide +kernel
def site : List Cond := []
def tab : Cond := tabOf yN yB 2 (some .byte) site
def P (d : Addr) (B : Cell) (args : Array Value) (s : State) : Prop := args = #[.ref d, .int (Int32.ofNat B.slots.size)] ∧ Arr .byte d B s
def E (r : Option Value) (s u : State) : Prop := XT.PureE (some (.int 0)) r s u
/-- an array as long as the number of chars: LATIN1 -/
theorem law (l : Launch) (d : Addr) (B : Cell) : Law l yN 2 2 0 0 yB 2 (some .byte) site (P d B) E [] 0 0 := by
  refine Law.of_walk (plainFor_of_name (by decide +kernel)) (by decide +kernel) (by decide +kernel) (by decide) (fun _ _ h => by rw [h.1]; rfl) (fun _ U U' hal hh h => ⟨h.1, h.2.mv hal hh⟩) (fun r U U' V V' h1 hal h2 h => XT.PureE.mv r U U' V V' h1 hal h2 h) ?_
  intro p e s m args below meth c s₁ X0 hexec hbytes hml hret hlk hnm hown hh0 W hP
  obtain ⟨rfl, hB⟩ := hP
  have hB0 := hB.mv X0.warmed.alike hh0
  have c1 : Steps p.tables e below (s₁.setTop (entryFrame m #[.ref d, .int (Int32.ofNat B.slots.size)] 2)) (s₁.setTop (mkF m 0 #[.val (.ref d), .val (.int (Int32.ofNat B.slots.size))] [])) := entry rfl
  have c2 : Steps p.tables e below (s₁.setTop (entryFrame m #[.ref d, .int (Int32.ofNat B.slots.size)] 2)) (s₁.setTop (mkF m 2 #[.val (.ref d), .val (.int (Int32.ofNat B.slots.size))] [.ref d, .int (Int32.ofNat B.slots.size)])) := c1.trans (by
    refine XS.iloadN X0.here hexec rfl (hb hbytes d0) rfl ?_
    refine XS.aloadN X0.here hexec rfl (hb hbytes d1) rfl rfl ?_
    exact Steps.refl _)
  have c3 : Steps p.tables e below (s₁.setTop (entryFrame m #[.ref d, .int (Int32.ofNat B.slots.size)] 2)) (s₁.setTop (mkF m 8 #[.val (.ref d), .val (.int (Int32.ofNat B.slots.size))] [.int (lo8 (ushr (Int32.ofNat B.slots.size - Int32.ofNat B.slots.size) 31))])) := c2.trans (by
    refine X0.alen hexec hB0 rfl rfl (hb hbytes d2) ?_
    refine XS.isub X0.here hexec rfl (hb hbytes d3) rfl ?_
    refine bipushV X0.here hexec rfl 31 (hb hbytes d4) (by decide) ?_
    refine iushr X0.here hexec rfl (hb hbytes d6) rfl ?_
    refine i2b X0.here hexec rfl (hb hbytes d7) rfl ?_
    exact Steps.refl _)
  have e0 : lo8 (ushr (Int32.ofNat B.slots.size - Int32.ofNat B.slots.size) 31) = 0 := by rw [Int32.sub_self]; decide
  rw [e0] at c3
  exact ⟨s₁, some (.int 0), _, _, _, X0, rfl, rfl, rfl, (fun h => by cases h), ⟨rfl, hh0⟩, fun fs hl => c3.trans (X0.ireturnOut hexec hret rfl (Or.inr (Or.inr (Or.inl rfl))) (hb hbytes d8) hl)⟩
end CodL
/-- the String at a is Latin-1 over a new byte[] (the heap's one new cell): the low bytes of the len chars of A from o on; every cell but a is kept -/
def Got (a : Addr) (D : Cell) (fV fC : Field) (A : Cell) (o len : Nat) (r : Option Value) (s u : State) : Prop := r = none ∧ ∃ D' V : Cell, Blank "java/lang/String" a D' u ∧ Same D D' [fV.slot, fC.slot] ∧ D'.slots[fV.slot]? = some (.ref s.heap.size) ∧ D'.slots[fC.slot]? = some (.int 0) ∧ Arr .byte s.heap.size V u ∧ V.vm = .none ∧ u.vm.findClass "[B" = some V.cls ∧ V.slots.size = len ∧ (∀ j, j < len → V.slots[j]? = some (.int (lo8 (cv A (o + j))))) ∧ (∀ (y : Addr) (c : Cell), y ≠ a → s.heap[y]? = some c → u.heap[y]? = some c) ∧ u.heap.size = s.heap.size + 1
theorem Got.mv {a : Addr} {D A : Cell} {fV fC : Field} {o len : Nat} : ∀ r (U U' V V' : State), U'.heap = U.heap → V.vm.Alike V'.vm → V'.heap = V.heap → Got a D fV fC A o len r U V → Got a D fV fC A o len r U' V' :=
  fun r U U' V V' h1 hal h2 ⟨e0, D', X, a1, a2, a3, a4, a5, a6, a7, a8, a9, a10, a11⟩ => ⟨e0, D', X, a1.mv hal h2, a2, by rw [h1]; exact a3, a4, by rw [h1]; exact a5.mv hal h2, a6, by rw [hal.findClass]; exact a7, a8, a9, by rw [h1, h2]; exact a10, by rw [h1, h2]; exact a11⟩
namespace New4
def yN : MethodName := ⟨"java/lang/String", "<init>", "([CIILjava/lang/Void;)V"⟩
abbrev yB : ByteArray := jdk_42_method_149_code
theorem d0 : decode yB 0 = .ok (.aload_n 0, 1) := by decide +kernel
theorem d1 : decode yB 1 = .ok (.invokespecial 1, 3) := by decide +kernel
theorem d4 : decode yB 4 = .ok (.iload_n 3, 1) := by decide +kernel
theorem d5 : decode yB 5 = .ok (.ifCond (.ne) 22, 3) := by decide +kernel
theorem d27 : decode yB 27 = .ok (.getstatic 38, 3) := by decide +kernel
theorem d30 : decode yB 30 = .ok (.ifCond (.eq) 28, 3) := by decide +kernel
theorem d33 : decode yB 33 = .ok (.aload_n 1, 1) := by decide +kernel
theorem d34 : decode yB 34 = .ok (.iload_n 2, 1) := by decide +kernel
theorem d35 : decode yB 35 = .ok (.iload_n 3, 1) := by decide +kernel
theorem d36 : decode yB 36 = .ok (.invokestatic 177, 3) := by decide +kernel
theorem d39 : decode yB 39 = .ok (.astore 5, 2) := by decide +kernel
theorem d41 : decode yB 41 = .ok (.aload_n 0, 1) := by decide +kernel
theorem d42 : decode yB 42 = .ok (.aload 5, 2) := by decide +kernel
theorem d44 : decode yB 44 = .ok (.iload_n 3, 1) := by decide +kernel
theorem d45 : decode yB 45 = .ok (.invokestatic 47, 3) := by decide +kernel
theorem d48 : decode yB 48 = .ok (.putfield 15, 3) := by decide +kernel
theorem d51 : decode yB 51 = .ok (.aload_n 0, 1) := by decide +kernel
theorem d52 : decode yB 52 = .ok (.aload 5, 2) := by decide +kernel
theorem d54 : decode yB 54 = .ok (.putfield 9, 3) := by decide +kernel
theorem d57 : decode yB 57 = .ok (.return_, 1) := by decide +kernel
def site : List Cond := [.fieldLink "java/lang/String" 38 "java/lang/String" "COMPACT_STRINGS" "Z", Cmp3.tab, CodL.tab, .laysFinal "java/lang/String" "java/lang/String" "value" "[B", .fieldLink "java/lang/String" 9 "java/lang/String" "value" "[B", .laysFinal "java/lang/String" "java/lang/String" "coder" "B", .fieldLink "java/lang/String" 15 "java/lang/String" "coder" "B"] ++ objW "java/lang/String" 1 ++ staticW "java/lang/String" 177 Cmp3.yN ++ staticW "java/lang/String" 47 CodL.yN
def tab : Cond := tabOf yN yB 6 none site
def P (a : Addr) (D : Cell) (fV fC : Field) (b : Addr) (A : Cell) (z : Int32) (o len : Nat) (args : Array Value) (s : State) : Prop := args = #[.ref a, .ref b, .int (Int32.ofNat o), .int (Int32.ofNat len), .null] ∧ Blank "java/lang/String" a D s ∧ Found "java/lang/String" "value" "[B" fV s ∧ Found "java/lang/String" "coder" "B" fC s ∧ Ch b A s ∧ StaticIs s "java/lang/String" "COMPACT_STRINGS" "Z" (.int z) ∧ ¬ z = 0 ∧ 0 < len ∧ o + len ≤ A.slots.size ∧ len ≤ 536870912 ∧ ∀ i, i < len → ¬ 255 < cv A (o + i)
def E (a : Addr) (D : Cell) (fV fC : Field) (A : Cell) (o len : Nat) (r : Option Value) (s u : State) : Prop := Got a D fV fC A o len r s u
/-- len > 0, no char of the range above 255: a Latin-1 String of their low bytes -/
theorem law (l : Launch) (a : Addr) (D : Cell) (fV fC : Field) (b : Addr) (A : Cell) (z : Int32) (o len : Nat) : Law l yN 5 4 2 35 yB 6 none site (P a D fV fC b A z o len) (E a D fV fC A o len) [⟨a, fC.slot⟩, ⟨a, fV.slot⟩] 1 len := by
  refine Law.of_walk (plainFor_of_name (by decide +kernel)) (by decide +kernel) (by decide +kernel) (by decide) (fun _ _ h => by rw [h.1]; rfl) (fun _ U U' hal hh h => ⟨h.1, h.2.1.mv hal hh, h.2.2.1.al hal, h.2.2.2.1.al hal, h.2.2.2.2.1.mv hal hh, h.2.2.2.2.2.1.there hal hh, h.2.2.2.2.2.2⟩) (fun r U U' V V' h1 hal h2 h => Got.mv r U U' V V' h1 hal h2 h) ?_
  intro p e s m args below meth c s₁ X0 hexec hbytes hml hret hlk hnm hown hh0 W hP
  obtain ⟨rfl, hB, f1, f2, hA, s1, hz, l0, l1, l2, hp⟩ := hP
  have a31 := hA.1.2.2.2
  have c1 : Steps p.tables e below (s₁.setTop (entryFrame m #[.ref a, .ref b, .int (Int32.ofNat o), .int (Int32.ofNat len), .null] 6)) (s₁.setTop (mkF m 0 #[.val (.ref a), .val (.ref b), .val (.int (Int32.ofNat o)), .val (.int (Int32.ofNat len)), .val .null, .unset] [])) := entry rfl
  have c2 : Steps p.tables e below (s₁.setTop (entryFrame m #[.ref a, .ref b, .int (Int32.ofNat o), .int (Int32.ofNat len), .null] 6)) (s₁.setTop (mkF m 1 #[.val (.ref a), .val (.ref b), .val (.int (Int32.ofNat o)), .val (.int (Int32.ofNat len)), .val .null, .unset] [.ref a])) := c1.trans (by
    refine XS.aloadN X0.here hexec rfl (hb hbytes d0) rfl rfl ?_
    exact Steps.refl _)
  obtain ⟨T3, X3, q3, st3⟩ := X0.oinit hexec hown (wks W (objW "java/lang/String" 1)) (g := (mkF m 1 #[.val (.ref a), .val (.ref b), .val (.int (Int32.ofNat o)), .val (.int (Int32.ofNat len)), .val .null, .unset] [.ref a])) rfl (by rw [hml]; rfl) (rest := []) rfl (hb hbytes d1) (W := 0) (by show 2 * 0 + 0 ≤ _; decide) (Nat.le_of_ble_eq_true rfl) (Nat.le_of_ble_eq_true rfl)
  have hh3 := q3.trans hh0
  have c4 : Steps p.tables e below (s₁.setTop (entryFrame m #[.ref a, .ref b, .int (Int32.ofNat o), .int (Int32.ofNat len), .null] 6)) (T3.setTop (mkF m 27 #[.val (.ref a), .val (.ref b), .val (.int (Int32.ofNat o)), .val (.int (Int32.ofNat len)), .val .null, .unset] [])) := (c2.trans (st3 _ (Steps.refl _))).trans (by
    refine XS.iloadN X3.here hexec rfl (hb hbytes d4) rfl ?_
    refine XS.ifYes X3.here hexec rfl (pc0 := 5) rfl (hb hbytes d5) rfl (i0_ne_t (nz32 (by omega) l0)) (by decide) rfl ?_
    exact Steps.refl _)
  obtain ⟨T5, X5, q5, st5⟩ := X3.sget hexec hown (wk W (.fieldLink "java/lang/String" 38 "java/lang/String" "COMPACT_STRINGS" "Z")) s1 (fun _ _ h => by rw [hh3]; exact h) (g := (mkF m 27 #[.val (.ref a), .val (.ref b), .val (.int (Int32.ofNat o)), .val (.int (Int32.ofNat len)), .val .null, .unset] [])) rfl (hb hbytes d27)
  have hh5 := q5.trans hh3
  have c6 : Steps p.tables e below (s₁.setTop (entryFrame m #[.ref a, .ref b, .int (Int32.ofNat o), .int (Int32.ofNat len), .null] 6)) (T5.setTop (mkF m 30 #[.val (.ref a), .val (.ref b), .val (.int (Int32.ofNat o)), .val (.int (Int32.ofNat len)), .val .null, .unset] [.int z])) := c4.trans (st5 _ (Steps.refl _))
  have c7 : Steps p.tables e below (s₁.setTop (entryFrame m #[.ref a, .ref b, .int (Int32.ofNat o), .int (Int32.ofNat len), .null] 6)) (T5.setTop (mkF m 36 #[.val (.ref a), .val (.ref b), .val (.int (Int32.ofNat o)), .val (.int (Int32.ofNat len)), .val .null, .unset] [.int (Int32.ofNat len), .int (Int32.ofNat o), .ref b])) := c6.trans (by
    refine XS.ifNo X5.here hexec rfl (hb hbytes d30) rfl (i0_eq_f hz) ?_
    refine XS.aloadN X5.here hexec rfl (hb hbytes d33) rfl rfl ?_
    refine XS.iloadN X5.here hexec rfl (hb hbytes d34) rfl ?_
    refine XS.iloadN X5.here hexec rfl (hb hbytes d35) rfl ?_
    exact Steps.refl _)
  obtain ⟨v8, T8, X8, E8, g8⟩ := X5.callS hexec (Cmp3.law l b A o len) hown (wks W (staticW "java/lang/String" 177 Cmp3.yN)) (wk W Cmp3.tab) (W := 0) (Nat.le_of_ble_eq_true rfl) (Nat.le_of_ble_eq_true rfl) (Nat.le_refl _) (by show 0 + len ≤ len; omega) (g := (mkF m 36 #[.val (.ref a), .val (.ref b), .val (.int (Int32.ofNat o)), .val (.int (Int32.ofNat len)), .val .null, .unset] [.int (Int32.ofNat len), .int (Int32.ofNat o), .ref b])) rfl (by rw [hml]; rfl) c7 (argsL := [.ref b, .int (Int32.ofNat o), .int (Int32.ofNat len)]) (rest := []) rfl rfl (by show 2 * 0 + 0 ≤ _; decide) (hb hbytes d36) (⟨rfl, hA.mv X5.warmed.alike hh5, l1, l2, hp⟩)
  obtain ⟨e8, z8⟩ := E8
  obtain ⟨rfl, N, n1, n2, n3, n4, n5, n6⟩ := NewArr.mv _ T5 s _ _ hh5.symm (Vm.Alike.refl _) rfl e8
  rw [hh5] at z8
  have hB1 := hB.keep X8.warmed.alike (n6 _ _ hB.1)
  have hne : s.heap.size ≠ a := (Nat.ne_of_lt (Array.getElem?_eq_some_iff.mp hB.1).1).symm
  have c9 : Steps p.tables e below (s₁.setTop (entryFrame m #[.ref a, .ref b, .int (Int32.ofNat o), .int (Int32.ofNat len), .null] 6)) (T8.setTop (mkF m 39 #[.val (.ref a), .val (.ref b), .val (.int (Int32.ofNat o)), .val (.int (Int32.ofNat len)), .val .null, .unset] [.ref s.heap.size])) := g8
  have c10 : Steps p.tables e below (s₁.setTop (entryFrame m #[.ref a, .ref b, .int (Int32.ofNat o), .int (Int32.ofNat len), .null] 6)) (T8.setTop (mkF m 45 #[.val (.ref a), .val (.ref b), .val (.int (Int32.ofNat o)), .val (.int (Int32.ofNat len)), .val .null, .val (.ref s.heap.size)] [.int (Int32.ofNat N.slots.size), .ref s.heap.size, .ref a])) := by
    have hc : Steps p.tables e below (s₁.setTop (entryFrame m #[.ref a, .ref b, .int (Int32.ofNat o), .int (Int32.ofNat len), .null] 6)) (T8.setTop (mkF m 45 #[.val (.ref a), .val (.ref b), .val (.int (Int32.ofNat o)), .val (.int (Int32.ofNat len)), .val .null, .val (.ref s.heap.size)] [.int (Int32.ofNat len), .ref s.heap.size, .ref a])) := c9.trans (by
      refine XS.astore X8.here hexec rfl (hb hbytes d39) rfl rfl rfl ?_
      refine XS.aloadN X8.here hexec rfl (hb hbytes d41) rfl rfl ?_
      refine XS.aload X8.here hexec rfl (hb hbytes d42) rfl rfl ?_
      refine XS.iloadN X8.here hexec rfl (hb hbytes d44) rfl ?_
      exact Steps.refl _)
    rw [n4]; exact hc
  obtain ⟨v11, T11, X11, E11, g11⟩ := X8.callS hexec (CodL.law l s.heap.size N) hown (wks W (staticW "java/lang/String" 47 CodL.yN)) (wk W CodL.tab) (W := 1) (Nat.le_of_ble_eq_true rfl) (Nat.le_of_ble_eq_true rfl) (Nat.le_refl _) (by show 0 + len + 0 ≤ len; omega) (g := (mkF m 45 #[.val (.ref a), .val (.ref b), .val (.int (Int32.ofNat o)), .val (.int (Int32.ofNat len)), .val .null, .val (.ref s.heap.size)] [.int (Int32.ofNat N.slots.size), .ref s.heap.size, .ref a])) rfl (by rw [hml]; rfl) c10 (argsL := [.ref s.heap.size, .int (Int32.ofNat N.slots.size)]) (rest := [.ref a]) rfl rfl (by show 2 * 0 + (1 + 0) ≤ _; decide) (hb hbytes d45) (⟨rfl, n1⟩)
  obtain ⟨rfl, q11⟩ := E11
  have hB11 := hB1.mv (X8.warmed.alike.symm.trans X11.warmed.alike) q11
  have c12 : Steps p.tables e below (s₁.setTop (entryFrame m #[.ref a, .ref b, .int (Int32.ofNat o), .int (Int32.ofNat len), .null] 6)) (T11.setTop (mkF m 48 #[.val (.ref a), .val (.ref b), .val (.int (Int32.ofNat o)), .val (.int (Int32.ofNat len)), .val .null, .val (.ref s.heap.size)] [.int 0, .ref a])) := g11
  obtain ⟨T13, X13, p13, bl13, sl13, st13⟩ := X11.finit hexec hown (wk W (.fieldLink "java/lang/String" 15 "java/lang/String" "coder" "B")) (Or.inr ⟨_, (wk W (.laysFinal "java/lang/String" "java/lang/String" "coder" "B"))⟩) (Or.inl ⟨rfl, hnm⟩) f2 (Or.inl rfl) hB11 (t := .byte) (by decide +kernel) rfl (g := (mkF m 48 #[.val (.ref a), .val (.ref b), .val (.int (Int32.ofNat o)), .val (.int (Int32.ofNat len)), .val .null, .val (.ref s.heap.size)] [.int 0, .ref a])) rfl (rest := []) rfl (hb hbytes d48)
  have c14 : Steps p.tables e below (s₁.setTop (entryFrame m #[.ref a, .ref b, .int (Int32.ofNat o), .int (Int32.ofNat len), .null] 6)) (T13.setTop (mkF m 54 #[.val (.ref a), .val (.ref b), .val (.int (Int32.ofNat o)), .val (.int (Int32.ofNat len)), .val .null, .val (.ref s.heap.size)] [.ref s.heap.size, .ref a])) := (c12.trans (st13 _ (Steps.refl _))).trans (by
    refine XS.aloadN X13.here hexec rfl (hb hbytes d51) rfl rfl ?_
    refine XS.aload X13.here hexec rfl (hb hbytes d52) rfl rfl ?_
    exact Steps.refl _)
  obtain ⟨T15, X15, p15, bl15, sl15, st15⟩ := X13.finit hexec hown (wk W (.fieldLink "java/lang/String" 9 "java/lang/String" "value" "[B")) (Or.inr ⟨_, (wk W (.laysFinal "java/lang/String" "java/lang/String" "value" "[B"))⟩) (Or.inl ⟨rfl, hnm⟩) f1 (Or.inl rfl) bl13 (t := (.array .byte)) (by decide +kernel) rfl (g := (mkF m 54 #[.val (.ref a), .val (.ref b), .val (.int (Int32.ofNat o)), .val (.int (Int32.ofNat len)), .val .null, .val (.ref s.heap.size)] [.ref s.heap.size, .ref a])) rfl (rest := []) rfl (hb hbytes d54)
  have c16 : Steps p.tables e below (s₁.setTop (entryFrame m #[.ref a, .ref b, .int (Int32.ofNat o), .int (Int32.ofNat len), .null] 6)) (T15.setTop (mkF m 57 #[.val (.ref a), .val (.ref b), .val (.int (Int32.ofNat o)), .val (.int (Int32.ofNat len)), .val .null, .val (.ref s.heap.size)] [])) := c14.trans (st15 _ (Steps.refl _))
  have ap := apart (Or.inr ⟨_, (wk W (.laysFinal "java/lang/String" "java/lang/String" "value" "[B"))⟩) (Or.inr ⟨_, (wk W (.laysFinal "java/lang/String" "java/lang/String" "coder" "B"))⟩) f1 f2 (t₁ := .array .byte) (t₂ := .byte) (by decide +kernel) (by decide +kernel) (by decide)
  have al := X8.warmed.alike.symm.trans X15.warmed.alike
  have n7 : T11.heap[s.heap.size]? = some N := by rw [q11]; exact n1.1
  exact ⟨T15, none, _, _, _, X15, by simp, rfl, by omega, (fun _ => rfl), ⟨rfl, _, N, bl15, ((Same.refl D _).set _ (by simp)).set _ (by simp), sl15, (Cell.slots_setSlot_ne _ ap).trans sl13, n1.keep al (p15.other hne (p13.other hne n7)), n2, by rw [al.findClass]; exact n3, n4, n5, fun y c h1 h2 => p15.other h1 (p13.other h1 (by rw [q11]; exact n6 y c h2)), by rw [p15.2.2, p13.2.2, q11]; exact z8⟩, fun fs hl => c16.trans (X15.returnOut hexec hret (hb hbytes d57) hl)⟩
end New4
namespace New1
def yN : MethodName := ⟨"java/lang/String", "<init>", "([C)V"⟩
abbrev yB : ByteArray := jdk_42_method_3_code
theorem d0 : decode yB 0 = .ok (.aload_n 0, 1) := by decide +kernel
theorem d1 : decode yB 1 = .ok (.aload_n 1, 1) := by decide +kernel
theorem d2 : decode yB 2 = .ok (.iconst 0, 1) := by decide +kernel
theorem d3 : decode yB 3 = .ok (.aload_n 1, 1) := by decide +kernel
theorem d4 : decode yB 4 = .ok (.arraylength, 1) := by decide +kernel
theorem d5 : decode yB 5 = .ok (.aconst_null, 1) := by decide +kernel
theorem d6 : decode yB 6 = .ok (.invokespecial 27, 3) := by decide +kernel
theorem d9 : decode yB 9 = .ok (.return_, 1) := by decide +kernel
def site : List Cond := [New4.tab] ++ initW "java/lang/String" 27 New4.yN
def tab : Cond := tabOf yN yB 2 none site
def P (a : Addr) (D : Cell) (fV fC : Field) (b : Addr) (A : Cell) (z : Int32) (args : Array Value) (s : State) : Prop := args = #[.ref a, .ref b] ∧ Blank "java/lang/String" a D s ∧ Found "java/lang/String" "value" "[B" fV s ∧ Found "java/lang/String" "coder" "B" fC s ∧ Ch b A s ∧ StaticIs s "java/lang/String" "COMPACT_STRINGS" "Z" (.int z) ∧ ¬ z = 0 ∧ 0 < A.slots.size ∧ A.slots.size ≤ 536870912 ∧ ∀ i, i < A.slots.size → ¬ 255 < cv A i
def E (a : Addr) (D : Cell) (fV fC : Field) (A : Cell) (r : Option Value) (s u : State) : Prop := Got a D fV fC A 0 A.slots.size r s u
/-- new String(chars), not empty, no char above 255: a Latin-1 String of their low bytes -/
theorem law (l : Launch) (a : Addr) (D : Cell) (fV fC : Field) (b : Addr) (A : Cell) (z : Int32) : Law l yN 2 1 3 52 yB 2 none site (P a D fV fC b A z) (E a D fV fC A) [⟨a, fC.slot⟩, ⟨a, fV.slot⟩] 1 A.slots.size := by
  refine Law.of_walk (plainFor_of_name (by decide +kernel)) (by decide +kernel) (by decide +kernel) (by decide) (fun _ _ h => by rw [h.1]; rfl) (fun _ U U' hal hh h => ⟨h.1, h.2.1.mv hal hh, h.2.2.1.al hal, h.2.2.2.1.al hal, h.2.2.2.2.1.mv hal hh, h.2.2.2.2.2.1.there hal hh, h.2.2.2.2.2.2⟩) (fun r U U' V V' h1 hal h2 h => Got.mv r U U' V V' h1 hal h2 h) ?_
  intro p e s m args below meth c s₁ X0 hexec hbytes hml hret hlk hnm hown hh0 W hP
  obtain ⟨rfl, hB, f1, f2, hA, s1, hz, l0, l2, hp⟩ := hP
  have c1 : Steps p.tables e below (s₁.setTop (entryFrame m #[.ref a, .ref b] 2)) (s₁.setTop (mkF m 0 #[.val (.ref a), .val (.ref b)] [])) := entry rfl
  have c2 : Steps p.tables e below (s₁.setTop (entryFrame m #[.ref a, .ref b] 2)) (s₁.setTop (mkF m 6 #[.val (.ref a), .val (.ref b)] [.null, .int (Int32.ofNat A.slots.size), .int 0, .ref b, .ref a])) := c1.trans (by
    refine XS.aloadN X0.here hexec rfl (hb hbytes d0) rfl rfl ?_
    refine XS.aloadN X0.here hexec rfl (hb hbytes d1) rfl rfl ?_
    refine iconstV X0.here hexec rfl 0 (hb hbytes d2) (by decide) ?_
    refine XS.aloadN X0.here hexec rfl (hb hbytes d3) rfl rfl ?_
    refine X0.alen hexec (hA.1.mv X0.warmed.alike hh0) rfl rfl (hb hbytes d4) ?_
    refine XS.aconstNull X0.here hexec rfl (hb hbytes d5) ?_
    exact Steps.refl _)
  obtain ⟨v3, T3, X3, E3, g3⟩ := X0.callN hexec (New4.law l a D fV fC b A z 0 A.slots.size) rfl hown (wks W (initW "java/lang/String" 27 New4.yN)) (W New4.tab (by simp only [site, List.mem_cons, List.mem_append, true_or, or_true])) (W := 0) (Nat.le_of_ble_eq_true rfl) (Nat.le_of_ble_eq_true rfl) (Nat.le_refl _) (by show 0 + A.slots.size ≤ A.slots.size; omega) (g := (mkF m 6 #[.val (.ref a), .val (.ref b)] [.null, .int (Int32.ofNat A.slots.size), .int (Int32.ofNat 0), .ref b, .ref a])) rfl (by rw [hml]; rfl) c2 (argsL := [.ref b, .int (Int32.ofNat 0), .int (Int32.ofNat A.slots.size), .null]) (rest := []) rfl rfl (by show 2 * 0 + 0 ≤ _; decide) (hb hbytes d6) (⟨rfl, hB.mv X0.warmed.alike hh0, f1.al X0.warmed.alike, f2.al X0.warmed.alike, hA.mv X0.warmed.alike hh0, s1.there X0.warmed.alike hh0, hz, l0, by omega, l2, fun i hi => by rw [Nat.zero_add]; exact hp i hi⟩)
  have e0 := Got.mv _ s₁ s _ _ hh0.symm (Vm.Alike.refl _) rfl E3
  obtain rfl := e0.1
  have c4 : Steps p.tables e below (s₁.setTop (entryFrame m #[.ref a, .ref b] 2)) (T3.setTop (mkF m 9 #[.val (.ref a), .val (.ref b)] [])) := g3
  exact ⟨T3, none, _, _, _, X3, by simp, rfl, by omega, (fun _ => rfl), e0, fun fs hl => c4.trans (X3.returnOut hexec hret (hb hbytes d9) hl)⟩
theorem pays {l : Launch} {R : Room} {p : Program} {e : Env} {below : List Frame} {s : State} {sargs : Array Value} {len W : Nat} (a : Addr) (D : Cell) (fV fC : Field) (b : Addr) (A : Cell) (z : Int32) (htab : tab.before sargs s = true) (hfr : 4 ≤ R.frames) (hlo : W + 65 ≤ R.locals) :
    Back l R p e below s sargs yN len W (fun A₁ a₁ => A₁.cells + 1 ≤ R.cells ∧ A₁.slots + A.slots.size ≤ R.slots ∧ P a D fV fC b A z a₁ A₁.U) (fun A₁ _ v₁ B₁ => E a D fV fC A v₁ A₁.U B₁.U ∧ B₁.locs = A₁.locs ++ [⟨a, fC.slot⟩, ⟨a, fV.slot⟩] ∧ B₁.cells = A₁.cells + 1 ∧ B₁.slots = A₁.slots + A.slots.size) :=
  (law l a D fV fC b A z).pays htab hfr (by omega)
end New1
/-- the byte, read back as charAt reads it, is the char -/
theorem lo8_mask {x : Int32} (h0 : ¬ x < 0) (h1 : ¬ 255 < x) : lo8 x &&& 255 = x := by
  have t : ∀ k : Fin 256, lo8 (Int32.ofNat k.val) &&& 255 = Int32.ofNat k.val := by decide +kernel
  rw [Int32.lt_iff_toInt_lt] at h0 h1
  have e0 : (0 : Int32).toInt = 0 := rfl
  have e1 : (255 : Int32).toInt = 255 := rfl
  obtain ⟨k, hk⟩ : ∃ k : Nat, x.toInt = k := ⟨x.toInt.toNat, by omega⟩
  have hx : x = Int32.ofNat k := Int32.toInt_inj.mp (by rw [hk, Int32.toInt_ofNat_small (by omega)])
  rw [hx]
  exact t ⟨k, by omega⟩
end StrChars
namespace StrChars.Road
open Jvm Sem ClassFile Op Lib Jvm.Stand Jvm.Free Jvm.Free.XT
open Jvm.Lib.Cold (StaticIs)
abbrev ST : String := "java/lang/String"
/-- every table word that New1's law asks, flat -/
abbrev words : List Jvm.Cond := [.code New1.yN New1.yB 2 none, .initialized ST, .methodLink ST 27 New4.yN, .instanceMethod New4.yN,
  .code New4.yN New4.yB 6 none, .fieldLink ST 38 ST "COMPACT_STRINGS" "Z", .laysFinal ST ST "value" "[B", .fieldLink ST 9 ST "value" "[B", .laysFinal ST ST "coder" "B", .fieldLink ST 15 ST "coder" "B",
  .methodLink ST 1 Lib.objectInit, .instanceMethod Lib.objectInit, .code Lib.objectInit ⟨#[0xb1]⟩ 1 none, .methodLink ST 177 Cmp3.yN, .static Cmp3.yN, .methodLink ST 47 CodL.yN, .static CodL.yN,
  .code Cmp3.yN Cmp3.yB 6 (some (.array .byte)), .initialized U16, .arrayClass .byte, .methodLink U16 115 Cmp5.yN, .static Cmp5.yN, .code Cmp5.yN Cmp5.yB 7 (some .int), .code CodL.yN CodL.yB 2 (some .byte)]
theorem tab_of {a : Array Value} {s : State} (h : ∀ w ∈ words, w.before a s = true) : New1.tab.before a s = true := by
  have h5 : Cmp5.tab.before a s = true := unparts (wk h (.code Cmp5.yN Cmp5.yB 7 (some .int))) (wks h (.initialized Cmp5.yN.cls :: Cmp5.site))
  have hc : CodL.tab.before a s = true := unparts (wk h (.code CodL.yN CodL.yB 2 (some .byte))) (wks h (.initialized CodL.yN.cls :: CodL.site))
  have q5 : ∀ w ∈ Cmp5.tab :: words, w.before a s = true := fun w hw => (List.mem_cons.mp hw).elim (fun e => e ▸ h5) (h w)
  have h3 : Cmp3.tab.before a s = true := unparts (wk q5 (.code Cmp3.yN Cmp3.yB 6 (some (.array .byte)))) (wks q5 (.initialized Cmp3.yN.cls :: Cmp3.site))
  have q3 : ∀ w ∈ Cmp3.tab :: CodL.tab :: words, w.before a s = true := fun w hw => (List.mem_cons.mp hw).elim (fun e => e ▸ h3) fun hw => (List.mem_cons.mp hw).elim (fun e => e ▸ hc) (h w)
  have h4 : New4.tab.before a s = true := unparts (wk q3 (.code New4.yN New4.yB 6 none)) (wks q3 (.initialized New4.yN.cls :: New4.site))
  have q4 : ∀ w ∈ New4.tab :: words, w.before a s = true := fun w hw => (List.mem_cons.mp hw).elim (fun e => e ▸ h4) (h w)
  exact unparts (wk q4 (.code New1.yN New1.yB 2 none)) (wks q4 (.initialized New1.yN.cls :: New1.site))
/-- the words ride from the start Z to the walk's own state -/
theorem moved {Z s : State} {a0 args : Array Value} (hZ : Z.Warmed39 s.vm) (hw : ∀ d ∈ words, d.before a0 Z = true) : ∀ d ∈ words, d.before args s = true := fun d hd => by
  have q := hw d hd
  have t : ∀ d ∈ words, d = .arrayClass .byte ∨ (d.onTables && d.keepsFace) = true := by decide +kernel
  rcases t d hd with rfl | t
  · exact RoadKit.mvA hZ q
  · exact RoadKit.mv hZ q t
/-- WHAT COMES BACK, over the tables of the start Z: h the heap at the call, h' behind it -/
def Q (Z : State) (x : Addr) (A : Cell) (h : Heap) (v : Option Value) (h' : Heap) (L : List Loc) : Prop := v = none ∧ (∀ y ∈ L, y.base = x) ∧ RoadKit.Keep h h' [x] ∧ h'.size = h.size + 1 ∧ RoadKit.Exa Z h' x ST ∧ RoadKit.Fld Z h' x ST "value" "[B" (.ref h.size) ∧ RoadKit.Fld Z h' x ST "coder" "B" (.int 0) ∧
  (∃ V : Cell, RoadKit.Arr Z h' h.size V .byte ∧ V.vm = .none ∧ Z.vm.findClass "[B" = some V.cls ∧ V.slots.size = A.slots.size ∧ ∀ j, j < A.slots.size → V.slots[j]? = some (.int (lo8 (cv A j)))) ∧
  ∀ (O n d : String) (w : Value), RoadKit.Fld Z h x O n d w → RoadKit.slotOf Z O n d ≠ RoadKit.slotOf Z ST "value" "[B" → RoadKit.slotOf Z O n d ≠ RoadKit.slotOf Z ST "coder" "B" → RoadKit.Fld Z h' x O n d w
/-- **new String(chars) AT A CALL, IN THE ROAD'S FORM**: for specialBack behind newO: x the fresh String, b the char[] with the cell A -/
theorem back {p : Program} {l : Launch} {e : Env} {R : Room} {s : State} {args : Array Value} {below : List Frame} {len W : Nat} {Z : State} {a0 : Array Value} {h : Heap} (hZ : Z.Warmed39 s.vm) (hw : ∀ d ∈ words, d.before a0 Z = true) {kI : Nat} (wi : (Jvm.Cond.instantiable ST kI).before a0 Z = true)
    {x b : Addr} {A : Cell} {z : Int32} {v0 c0 : Value} (E : RoadKit.Exa Z h x ST) (V : RoadKit.Fld Z h x ST "value" "[B" v0) (C : RoadKit.Fld Z h x ST "coder" "B" c0) (K : RoadKit.Arr Z h b A .char) (hty : Typed .char A) (S : RoadKit.Sta Z h ST "COMPACT_STRINGS" "Z" (.int z)) (hz : ¬ z = 0)
    (l0 : 0 < A.slots.size) (l2 : A.slots.size ≤ 536870912) (hp : ∀ i, i < A.slots.size → ¬ 255 < cv A i) (hfr : 4 ≤ R.frames) (hlo : W + 65 ≤ R.locals) :
    Back l R p e below s args New1.yN len W (fun P a => a = #[.ref x, .ref b] ∧ P.U.heap = h ∧ P.cells + 1 ≤ R.cells ∧ P.slots + A.slots.size ≤ R.slots)
      (fun P _ v B => ∃ L, Q Z x A h v B.U.heap L ∧ B.locs = P.locs ++ L ∧ B.cells = P.cells + 1 ∧ B.slots = P.slots + A.slots.size) := by
  intro m meth c P g ig mk a X hg hsize hdg hW hn hp'
  obtain ⟨rfl, rfl, r1, r2⟩ := hp'
  have al : Z.vm.Alike P.U.vm := hZ.alike.trans X.warmed.alike
  obtain ⟨D, cfV, kV, iV, fV, hD, gV, stV, knV, obV, asV, slV⟩ := id V
  obtain ⟨D', cfC, kC, iC, fC, hD', gC, stC, -, -, asC, slC⟩ := id C
  cases hD.symm.trans hD'
  obtain ⟨D2, kD, e1, e2, e3, e4, e5⟩ := id E
  cases hD.symm.trans e1
  obtain ⟨c2, k2, i1, i2, i3, -⟩ := Cond.instantiable_spec wi
  cases e2.symm.trans i1
  cases e3.symm.trans i2
  obtain ⟨kU, u1, u2⟩ := al.2.2 _ _ e3
  have hB : Blank ST x D P.U := ⟨hD, ⟨knV, fun q hq => by rw [hq] at obV; cases obV⟩, by rw [al.findClass]; exact e2, kU, u1, by rw [u2]; exact i3, by rw [u2]; exact e5 i3⟩
  have F1 : Found ST "value" "[B" fV P.U := ⟨SBG.found_only al ⟨cfV, kV, iV, gV⟩, stV⟩
  have F2 : Found ST "coder" "B" fC P.U := ⟨SBG.found_only al ⟨cfC, kC, iC, gC⟩, stC⟩
  have hA : Ch b A P.U := ⟨⟨K.1, State.isArrayOf_alike al K.2.1, K.2.2, by omega⟩, hty⟩
  have hS : StaticIs P.U ST "COMPACT_STRINGS" "Z" (.int z) := by
    obtain ⟨cfS, iS, kS, fS, st, cS, t1, t2, t3, t4, t5, t6, t7⟩ := S
    exact StaticIs.there (s := { Z with heap := P.U.heap }) ⟨cfS, iS, kS, fS, st, cS, t1, t2, t3, t4, t5, (fun q => by rw [q] at t6; cases t6), t7⟩ al rfl
  obtain ⟨v, B, X', ⟨⟨hv, E', V', q1, q2, q3, q4, q5, q6, q7, q8, q9, q10, q11⟩, hl, hc, hs⟩, st⟩ := New1.pays x D fV fC b A z (tab_of (moved hZ hw)) hfr hlo m meth c P g ig mk _ X hg hsize hdg hW hn ⟨r1, r2, rfl, hB, F1, F2, hA, hS, hz, l0, l2, hp⟩
  have al' : Z.vm.Alike B.U.vm := hZ.alike.trans X'.warmed.alike
  have hsz : E'.slots.size = D.slots.size := by
    obtain ⟨-, -, -, kB, w1, w2, w3⟩ := q1
    obtain ⟨kB', y1, y2⟩ := al'.2.2 _ _ e3
    rw [q2.2.1] at w1
    cases w1.symm.trans y1
    rw [w3, e5 i3, y2]
  refine ⟨v, B, X', ⟨_, ⟨hv, ?_, ⟨by omega, fun y cy hy hn' => q10 y cy (by simpa using hn') hy, fun y cy hy => ?_⟩, q11, ⟨E', _, q1.1, by rw [q2.2.1]; exact e2, by rw [q2.2.1]; exact e3, by rw [q2.1]; exact obV, fun _ => by rw [hsz]; exact e5 i3⟩,
    ⟨E', cfV, kV, iV, fV, q1.1, gV, stV, by rw [q2.1]; exact knV, by rw [q2.1]; exact obV, by rw [q2.2.1]; exact asV, q3⟩, ⟨E', cfC, kC, iC, fC, q1.1, gC, stC, by rw [q2.1]; exact knV, by rw [q2.1]; exact obV, by rw [q2.2.1]; exact asC, q4⟩,
    ⟨V', ⟨q5.1, State.isArrayOf_alike al'.symm q5.2.1, q5.2.2.1⟩, q6, by rw [← al'.findClass]; exact q7, q8, fun j hj => by have := q9 j hj; rwa [Nat.zero_add] at this⟩, fun O n d w F n1 n2 => ?_⟩, hl, hc, hs⟩, st⟩
  · intro y hy
    simp only [List.mem_cons, List.not_mem_nil, or_false] at hy
    rcases hy with rfl | rfl <;> rfl
  · by_cases q : y = x
    · subst q
      cases hD.symm.trans hy
      exact ⟨E', q1.1, q2.2.1, q2.1, hsz⟩
    · exact ⟨cy, q10 y cy q hy, rfl, rfl, rfl⟩
  · obtain ⟨D3, cf, k, i, f, g1, g2, g3, g4, g5, g6, g7⟩ := F
    cases hD.symm.trans g1
    simp only [RoadKit.slotOf, g2, gV, gC, Option.map_some, Option.getD_some] at n1 n2
    exact ⟨E', cf, k, i, f, q1.1, g2, g3, by rw [q2.1]; exact g4, by rw [q2.1]; exact g5, by rw [q2.2.1]; exact g6, by rw [q2.2.2 f.slot (by simp [n1, n2])]; exact g7⟩
end StrChars.Road
namespace StrChars.Road
open Jvm Sem ClassFile Op Lib Jvm.Stand Jvm.Free Jvm.Free.XT
/-- WHAT COMES BACK, the byte[] as a list of values -/
def QA (Z : State) (x : Addr) (zn : Int32) (cs : List Int32) (h : Heap) (v : Option Value) (h' : Heap) (L : List Loc) : Prop := v = none ∧ (∀ y ∈ L, y.base = x) ∧ RoadKit.Keep h h' [x] ∧ h'.size = h.size + 1 ∧ RoadKit.Exa Z h' x ST ∧ RoadKit.Fld Z h' x ST "value" "[B" (.ref h.size) ∧ RoadKit.Fld Z h' x ST "coder" "B" (.int 0) ∧
  (∃ kb, Z.vm.findClass "[B" = some kb ∧ RoadKit.Arv Z h' h.size kb .byte zn (cs.map fun c => .int (lo8 c)) (.int 0)) ∧
  ∀ (O n d : String) (w : Value), RoadKit.Fld Z h x O n d w → RoadKit.slotOf Z O n d ≠ RoadKit.slotOf Z ST "value" "[B" → RoadKit.slotOf Z O n d ≠ RoadKit.slotOf Z ST "coder" "B" → RoadKit.Fld Z h' x O n d w
/-- **new String(chars) AT A CALL, THE ARRAYS AS LISTS**: the char[] at b holds cs, not empty, no char above 255 -/
theorem backArv {p : Program} {l : Launch} {e : Env} {R : Room} {s : State} {args : Array Value} {below : List Frame} {len W : Nat} {Z : State} {a0 : Array Value} {h : Heap} (hZ : Z.Warmed39 s.vm) (hw : ∀ d ∈ words, d.before a0 Z = true) {kI : Nat} (wi : (Jvm.Cond.instantiable ST kI).before a0 Z = true)
    {x b : Addr} {k : ClassId} {zn z : Int32} {cs : List Int32} {dv v0 c0 : Value} (E : RoadKit.Exa Z h x ST) (V : RoadKit.Fld Z h x ST "value" "[B" v0) (C : RoadKit.Fld Z h x ST "coder" "B" c0) (K : RoadKit.Arv Z h b k .char zn (cs.map Value.int) dv) (S : RoadKit.Sta Z h ST "COMPACT_STRINGS" "Z" (.int z)) (hz : ¬ z = 0)
    (hlen : zn.toNatClampNeg = cs.length) (h0 : 0 < cs.length) (hbig : cs.length ≤ 536870912) (hall : ∀ c ∈ cs, ¬ 255 < c) (hfr : 4 ≤ R.frames) (hlo : W + 65 ≤ R.locals) :
    Back l R p e below s args New1.yN len W (fun P a => a = #[.ref x, .ref b] ∧ P.U.heap = h ∧ P.cells + 1 ≤ R.cells ∧ P.slots + cs.length ≤ R.slots)
      (fun P _ v B => ∃ L, QA Z x zn cs h v B.U.heap L ∧ B.locs = P.locs ++ L ∧ B.cells = P.cells + 1 ∧ B.slots = P.slots + cs.length) := by
  obtain ⟨A, K1, K2, K3, K4, K5, K6⟩ := K
  have e : A.slots.size = cs.length := K3.trans hlen
  have hat : ∀ (i : Nat) (hi : i < cs.length), A.slots[i]? = some (.int cs[i]) := fun i hi => by rw [K5 i (by omega)]; simp [List.getD_eq_getElem?_getD, hi]
  have hcv : ∀ (i : Nat) (hi : i < cs.length), cv A i = cs[i] := fun i hi => by unfold cv; rw [hat i hi]
  have hty : Typed .char A := fun i v hv => by
    have hi : i < A.slots.size := (Array.getElem?_eq_some_iff.mp hv).1
    have q := K5 i hi
    rw [hv] at q
    rw [Option.some.inj q]
    exact K6 i hi
  refine Back.mono (back hZ hw wi E V C K1 hty S hz (by omega) (by omega) (fun i hi => by rw [hcv i (by omega)]; exact hall _ (List.getElem_mem _)) hfr hlo) (fun P a hp => ⟨hp.1, hp.2.1, hp.2.2.1, by rw [e]; exact hp.2.2.2⟩) (fun P a v B hp hq => ?_)
  obtain ⟨L, ⟨q1, q2, q3, q4, q5, q6, q7, ⟨V', v1, v2, v3, v4, v5⟩, q9⟩, hl, hc, hs⟩ := hq
  refine ⟨L, ⟨q1, q2, q3, q4, q5, q6, q7, ⟨V'.cls, v3, V', v1, rfl, by rw [v4, e, hlen], K4, fun i hi => ?_, fun i hi => ?_⟩, q9⟩, hl, hc, by rw [hs, e]⟩
  · have hi' : i < cs.length := by omega
    rw [v5 i (by omega), hcv i hi']; simp [List.getD_eq_getElem?_getD, hi']
  · have hi' : i < cs.length := by omega
    simp only [List.getD_eq_getElem?_getD, List.getElem?_map, List.getElem?_eq_getElem hi', Option.map_some, Option.getD_some]
    exact fits_lo8 _
end StrChars.Road
namespace StrChars.Road
open Jvm Sem ClassFile Op Lib Jvm.Stand Jvm.Free Jvm.Free.XT
/-- WHAT COMES BACK, in the writer's own shape -/
def QV (Z : State) (x : Addr) (N : Int32) (bs : List Int32) (h : Heap) (n0 : Nat) (v : Option Value) (h' : Heap) (L : List Loc) : Prop := v = none ∧ RoadKit.Fr n0 L ∧ RoadKit.Keep h h' [x] ∧ RoadKit.Exa Z h' x ST ∧ RoadKit.Fld Z h' x ST "coder" "B" (.int 0) ∧
  ∃ (t : Addr) (kb : ClassId), n0 ≤ t ∧ h.size ≤ t ∧ ¬ t = x ∧ RoadKit.Fld Z h' x ST "value" "[B" (.ref t) ∧ RoadKit.Arv Z h' t kb .byte N (bs.map Value.int) (.int 0)
/-- **new String(chars) AT A CALL, FOR THE WRITER**: a char[] of n known ints, each 0 to 255 -/
theorem backV {p : Program} {l : Launch} {e : Env} {R : Room} {s : State} {args : Array Value} {below : List Frame} {len W : Nat} {Z : State} {a0 : Array Value} {h : Heap} (hZ : Z.Warmed39 s.vm) (hw : ∀ d ∈ words, d.before a0 Z = true) {kI : Nat} (wi : (Jvm.Cond.instantiable ST kI).before a0 Z = true)
    {x b : Addr} {kC : ClassId} {cs bs : List Int32} {d v0 c0 : Value} {z N : Int32} {n n0 : Nat} (hx0 : n0 ≤ x) (hh0 : n0 ≤ h.size) (E : RoadKit.Exa Z h x ST) (V : RoadKit.Fld Z h x ST "value" "[B" v0) (C : RoadKit.Fld Z h x ST "coder" "B" c0) (K : RoadKit.Arv Z h b kC .char N (cs.map Value.int) d) (S : RoadKit.Sta Z h ST "COMPACT_STRINGS" "Z" (.int z)) (hz : ¬ z = 0)
    (hn : cs.length = n) (hN : N = Int32.ofNat n) (l0 : 0 < n) (l2 : n ≤ 4000) (hp : ∀ c ∈ cs, ¬ c < 0 ∧ ¬ (255 : Int32) < c) (hb : bs = cs.map (fun c => c.toInt8.toInt32)) (hfr : 4 ≤ R.frames) (hlo : W + 65 ≤ R.locals) :
    Back l R p e below s args (⟨"java/lang/String", "<init>", "([C)V"⟩ : MethodName) len W (fun P a => a = #[.ref x, .ref b] ∧ P.U.heap = h ∧ P.cells + 1 ≤ R.cells ∧ P.slots + n ≤ R.slots)
      (fun P _ v B => ∃ L, QV Z x N bs h n0 v B.U.heap L ∧ B.locs = P.locs ++ L ∧ B.cells = P.cells + 1 ∧ B.slots = P.slots + n) := by
  subst hn hN hb
  refine Back.mono (backArv hZ hw wi E V C K S hz (n32 (by omega)) l0 (by omega) (fun c hc => (hp c hc).2) hfr hlo) (fun P a hp => hp) (fun P a v B hp hq => ?_)
  obtain ⟨L, ⟨q1, q2, q3, q4, q5, q6, q7, ⟨kb, v1, v2⟩, q9⟩, hl, hc, hs⟩ := hq
  exact ⟨L, ⟨q1, fun y hy => by rw [q2 y hy]; exact hx0, q3, q5, q7, h.size, kb, hh0, Nat.le_refl _, Nat.ne_of_gt E.lt, q6, by rw [List.map_map]; exact v2⟩, hl, hc, hs⟩
end StrChars.Road
namespace StrChars
open Jvm Sem ClassFile Op Lib Jvm.Stand Jvm.Free.XT Jvm.Free.ALB Jvm.Free.JM Jvm.Free
open Jvm.Lib.Cold (StaticIs)
def hi8 (x : Int32) : Int32 := lo8 (x >>> ((8 : Int32) &&& 31))
/-- what StringUTF16.getChar makes of two bytes -/
def pairCh (u v : Int32) : Int32 := (((u &&& 255) <<< ((0 : Int32) &&& 31)) ||| ((v &&& 255) <<< ((8 : Int32) &&& 31))).toUInt32.toUInt16.toUInt32.toInt32
theorem shr0 (c : Int32) : c >>> ((0 : Int32) &&& 31) = c := by
  have e : ((0 : Int32) &&& 31) = 0 := by decide
  rw [e]
  apply Int32.toBitVec_inj.mp
  rw [Int32.toBitVec_shiftRight]
  have e1 : ((0 : Int32).toBitVec.smod 32) = 0#32 := by decide
  rw [e1, BitVec.sshiftRight_eq']
  exact BitVec.sshiftRight_zero
theorem lo8_and (x : Int32) : (lo8 x &&& 255).toBitVec.toNat = x.toBitVec.toNat % 256 := by
  have h : (lo8 x).toBitVec = (x.toBitVec.signExtend 8).signExtend 32 := by rw [lo8, Int8.toBitVec_toInt32, Int32.toBitVec_toInt8]
  rw [Int32.toBitVec_and, BitVec.toNat_and, h]
  have e : ((x.toBitVec.signExtend 8).signExtend 32).toNat % 256 = x.toBitVec.toNat % 256 := by
    rw [BitVec.toNat_signExtend]
    have hlt := x.toBitVec.isLt
    simp only [BitVec.toNat_setWidth, BitVec.toNat_signExtend]
    split <;> split <;> omega
  rw [← e]
  exact Nat.and_two_pow_sub_one_eq_mod _ 8
theorem pair_says {c : Int32} (h0 : ¬ c < 0) (h1 : ¬ 65535 < c) : pairCh (lo8 c) (hi8 c) = c := by
  rw [Int32.lt_iff_toInt_lt] at h0 h1
  have e0 : (0 : Int32).toInt = 0 := rfl
  have e1 : (65535 : Int32).toInt = 65535 := rfl
  have hc : c.toInt = c.toBitVec.toNat := by
    have := c.toBitVec.isLt
    have e : c.toInt = c.toBitVec.toInt := rfl
    rw [e] at h0 h1
    rw [e]
    rw [BitVec.toInt_eq_toNat_cond] at h0 h1 ⊢
    split at h0 <;> split <;> omega
  have hn : c.toBitVec.toNat < 65536 := by omega
  have a1 := lo8_and c
  have a2 : (hi8 c &&& 255).toBitVec.toNat = c.toBitVec.toNat / 256 := by
    rw [hi8, lo8_and]
    have e : ((8 : Int32) &&& 31) = 8 := by decide
    rw [e, Int32.toBitVec_shiftRight]
    have e2 : ((8 : Int32).toBitVec.smod 32) = 8#32 := by decide
    rw [e2, BitVec.sshiftRight_eq', BitVec.toNat_sshiftRight_of_msb_false (by rw [BitVec.msb_eq_false_iff_two_mul_lt]; omega)]
    show c.toBitVec.toNat >>> 8 % 256 = _
    rw [Nat.shiftRight_eq_div_pow]
    omega
  unfold pairCh
  apply Int32.toBitVec_inj.mp
  apply BitVec.eq_of_toNat_eq
  have f0 : ((0 : Int32) &&& 31) = 0 := by decide
  have f8 : ((8 : Int32) &&& 31) = 8 := by decide
  rw [f0, f8]
  have g : (((lo8 c &&& 255) <<< (0 : Int32)) ||| ((hi8 c &&& 255) <<< (8 : Int32))).toBitVec.toNat = c.toBitVec.toNat := by
    rw [Int32.toBitVec_or, Int32.toBitVec_shiftLeft, Int32.toBitVec_shiftLeft]
    have s0 : ((0 : Int32).toBitVec.smod 32) = 0#32 := by decide
    have s8 : ((8 : Int32).toBitVec.smod 32) = 8#32 := by decide
    rw [s0, s8, BitVec.toNat_or]
    simp only [BitVec.shiftLeft_eq', BitVec.toNat_shiftLeft, a1, a2]
    show (c.toBitVec.toNat % 256) <<< 0 % 2 ^ 32 ||| (c.toBitVec.toNat / 256) <<< 8 % 2 ^ 32 = _
    rw [Nat.shiftLeft_zero, Nat.mod_eq_of_lt (show c.toBitVec.toNat % 256 < 2 ^ 32 by omega), Nat.mod_eq_of_lt (show (c.toBitVec.toNat / 256) <<< 8 < 2 ^ 32 by rw [Nat.shiftLeft_eq]; omega), Nat.or_comm, ← Nat.shiftLeft_add_eq_or_of_lt (by omega), Nat.shiftLeft_eq]
    omega
  show BitVec.toNat (((((lo8 c &&& 255) <<< (0 : Int32)) ||| ((hi8 c &&& 255) <<< (8 : Int32))).toBitVec.setWidth 16).setWidth 32) = _
  rw [BitVec.toNat_setWidth, BitVec.toNat_setWidth, g]
  omega
end StrChars
namespace StrChars
open Jvm Sem ClassFile Op Lib Jvm.Stand Jvm.Free.XT Jvm.Free.ALB Jvm.Free.JM Jvm.Free
open Jvm.Lib.Cold (StaticIs)
theorem shr1 {n : Nat} (h : 2 * n < 2 ^ 31) : Int32.ofNat (2 * n) >>> ((1 : Int32) &&& 31) = Int32.ofNat n := by
  have e : ((1 : Int32) &&& 31) = 1 := by decide
  rw [e]
  apply Int32.toBitVec_inj.mp
  rw [Int32.toBitVec_shiftRight]
  have e1 : ((1 : Int32).toBitVec.smod 32) = 1#32 := by decide
  have hm : (BitVec.ofNat 32 (2 * n)).toNat = 2 * n := by rw [BitVec.toNat_ofNat, Nat.mod_eq_of_lt (by omega)]
  rw [e1, BitVec.sshiftRight_eq']
  apply BitVec.eq_of_toNat_eq
  show ((BitVec.ofNat 32 (2 * n)).sshiftRight 1).toNat = (BitVec.ofNat 32 n).toNat
  rw [BitVec.toNat_sshiftRight_of_msb_false (by rw [BitVec.msb_eq_false_iff_two_mul_lt, hm]; omega), hm, BitVec.toNat_ofNat, Nat.shiftRight_eq_div_pow]
  omega
/-- charAt's cast of a byte read back -/
def chr8 (u : Int32) : Int32 := (u &&& 255).toUInt32.toUInt16.toUInt32.toInt32
theorem chr8_lo8 {c : Int32} (h0 : ¬ c < 0) (h1 : ¬ 255 < c) : chr8 (lo8 c) = c := by
  have t : ∀ k : Fin 256, (Int32.ofNat k.val).toUInt32.toUInt16.toUInt32.toInt32 = Int32.ofNat k.val := by decide +kernel
  unfold chr8
  rw [lo8_mask h0 h1]
  rw [Int32.lt_iff_toInt_lt] at h0 h1
  have e0 : (0 : Int32).toInt = 0 := rfl
  have e1 : (255 : Int32).toInt = 255 := rfl
  obtain ⟨k, hk⟩ : ∃ k : Nat, c.toInt = k := ⟨c.toInt.toNat, by omega⟩
  have hx : c = Int32.ofNat k := Int32.toInt_inj.mp (by rw [hk, Int32.toInt_ofNat_small (by omega)])
  rw [hx]
  exact t ⟨k, by omega⟩
theorem narrow_ch {c : Int32} (h0 : ¬ c < 0) (h1 : ¬ 65535 < c) : narrow .char (.int c) = .int c := by
  have q : narrow .char (.int (pairCh (lo8 c) (hi8 c))) = .int (pairCh (lo8 c) (hi8 c)) := narrow_c _
  rwa [pair_says h0 h1] at q
/-- the array's cell V codes the n chars f 0 .. f (n - 1) by the coder cd, as the JDK does: coder 1 just where some char is above 255 -/
def Cod (cd : Int32) (n : Nat) (f : Nat → Int32) (V : Cell) : Prop := (cd = 0 ∧ V.slots.size = n ∧ ∀ j, j < n → V.slots[j]? = some (.int (lo8 (f j))) ∧ ¬ 255 < f j) ∨ (cd = 1 ∧ V.slots.size = 2 * n ∧ (∀ j, j < n → V.slots[2 * j]? = some (.int (lo8 (f j))) ∧ V.slots[2 * j + 1]? = some (.int (hi8 (f j)))) ∧ ∃ j, j < n ∧ 255 < f j)
theorem Cod.cd {cd : Int32} {n : Nat} {f : Nat → Int32} {V : Cell} (h : Cod cd n f V) : cd = 0 ∨ cd = 1 := h.imp (fun q => q.1) fun q => q.1
theorem Cod.len {cd : Int32} {n : Nat} {f : Nat → Int32} {V : Cell} (h : Cod cd n f V) (hs : V.slots.size < 2 ^ 31) : Int32.ofNat V.slots.size >>> (cd &&& 31) = Int32.ofNat n := by
  rcases h with ⟨rfl, h, -⟩ | ⟨rfl, h, -⟩
  · rw [shr0, h]
  · rw [h, shr1 (by omega)]
/-- **x is a String of the n chars f 0 .. f (n - 1)**, Latin-1 or UTF-16; its array at t has the cell V -/
def Txt (x t : Addr) (V : Cell) (cd : Int32) (n : Nat) (f : Nat → Int32) (U : State) : Prop := Exact "java/lang/String" x U ∧ Has x "java/lang/String" "value" "[B" (.ref t) U ∧ Has x "java/lang/String" "coder" "B" (.int cd) U ∧ XT.Arr .byte t V U ∧ Cod cd n f V ∧ ∀ j, j < n → ¬ f j < 0 ∧ ¬ 65535 < f j
theorem Txt.mv {x t : Addr} {V : Cell} {cd : Int32} {n : Nat} {f : Nat → Int32} {U U' : State} (h : Txt x t V cd n f U) (hal : U.vm.Alike U'.vm) (hh : U'.heap = U.heap) : Txt x t V cd n f U' := ⟨h.1.mv hal hh, h.2.1.mv hal hh, h.2.2.1.mv hal hh, h.2.2.2.1.mv hal hh, h.2.2.2.2⟩
namespace Cdr
def yN : MethodName := ⟨"java/lang/String", "coder", "()B"⟩
abbrev yB : ByteArray := jdk_42_method_152_code
theorem d0 : decode yB 0 = .ok (.getstatic 38, 3) := by decide +kernel
theorem d3 : decode yB 3 = .ok (.ifCond (.eq) 10, 3) := by decide +kernel
theorem d6 : decode yB 6 = .ok (.aload_n 0, 1) := by decide +kernel
theorem d7 : decode yB 7 = .ok (.getfield 15, 3) := by decide +kernel
theorem d10 : decode yB 10 = .ok (.goto 4, 3) := by decide +kernel
theorem d14 : decode yB 14 = .ok (.ireturn, 1) := by decide +kernel
def site : List Cond := [.fieldLink "java/lang/String" 38 "java/lang/String" "COMPACT_STRINGS" "Z", .fieldLink "java/lang/String" 15 "java/lang/String" "coder" "B"]
def tab : Cond := tabOf yN yB 1 (some .byte) site
def P (x : Addr) (cd z : Int32) (args : Array Value) (s : State) : Prop := args = #[.ref x] ∧ Has x "java/lang/String" "coder" "B" (.int cd) s ∧ (cd = 0 ∨ cd = 1) ∧ StaticIs s "java/lang/String" "COMPACT_STRINGS" "Z" (.int z) ∧ ¬ z = 0
def E (cd : Int32) (r : Option Value) (s u : State) : Prop := XT.PureE (some (.int cd)) r s u
theorem law (l : Launch) (x : Addr) (cd z : Int32) : Law l yN 1 0 0 0 yB 1 (some .byte) site (P x cd z) (E cd) [] 0 0 := by
  refine Law.of_walk (plainFor_of_name (by decide +kernel)) (by decide +kernel) (by decide +kernel) (by decide) (fun _ _ h => by rw [h.1]; rfl) (fun _ U U' hal hh h => ⟨h.1, h.2.1.mv hal hh, h.2.2.1, h.2.2.2.1.there hal hh, h.2.2.2.2⟩) (fun r U U' V V' h1 hal h2 h => XT.PureE.mv r U U' V V' h1 hal h2 h) ?_
  intro p e s m args below meth c s₁ X0 hexec hbytes hml hret hlk hnm hown hh0 W hP
  obtain ⟨rfl, hx, hc, s1, hz⟩ := hP
  have c1 : Steps p.tables e below (s₁.setTop (entryFrame m #[.ref x] 1)) (s₁.setTop (mkF m 0 #[.val (.ref x)] [])) := entry rfl
  obtain ⟨T2, X2, q2, st2⟩ := X0.sget hexec hown (wk W (.fieldLink "java/lang/String" 38 "java/lang/String" "COMPACT_STRINGS" "Z")) s1 (fun _ _ h => by rw [hh0]; exact h) (g := (mkF m 0 #[.val (.ref x)] [])) rfl (hb hbytes d0)
  have hh2 := q2.trans hh0
  have c3 : Steps p.tables e below (s₁.setTop (entryFrame m #[.ref x] 1)) (T2.setTop (mkF m 7 #[.val (.ref x)] [.ref x])) := (c1.trans (st2 _ (Steps.refl _))).trans (by
    refine XS.ifNo X2.here hexec rfl (hb hbytes d3) rfl (i0_eq_f hz) ?_
    refine XS.aloadN X2.here hexec rfl (hb hbytes d6) rfl rfl ?_
    exact Steps.refl _)
  obtain ⟨T4, X4, q4, st4⟩ := X2.hget hexec hown (wk W (.fieldLink "java/lang/String" 15 "java/lang/String" "coder" "B")) (hx.mv X2.warmed.alike hh2) (g := (mkF m 7 #[.val (.ref x)] [.ref x])) rfl (rest := []) rfl (hb hbytes d7)
  have c5 : Steps p.tables e below (s₁.setTop (entryFrame m #[.ref x] 1)) (T4.setTop (mkF m 14 #[.val (.ref x)] [.int cd])) := (c3.trans (st4 _ (Steps.refl _))).trans (by
    refine XS.goto X4.here hexec rfl (pc0 := 10) rfl (hb hbytes d10) (by decide) rfl ?_
    exact Steps.refl _)
  exact ⟨T4, some (.int cd), _, _, _, X4, rfl, rfl, rfl, (fun h => by cases h), ⟨rfl, q4.trans hh2⟩, fun fs hl => c5.trans (X4.ireturnOut hexec hret (by rcases hc with rfl | rfl <;> rfl) (Or.inr (Or.inr (Or.inl rfl))) (hb hbytes d14) hl)⟩
end Cdr
namespace Len
def yN : MethodName := ⟨"java/lang/String", "length", "()I"⟩
abbrev yB : ByteArray := jdk_42_method_54_code
theorem d0 : decode yB 0 = .ok (.aload_n 0, 1) := by decide +kernel
theorem d1 : decode yB 1 = .ok (.getfield 9, 3) := by decide +kernel
theorem d4 : decode yB 4 = .ok (.arraylength, 1) := by decide +kernel
theorem d5 : decode yB 5 = .ok (.aload_n 0, 1) := by decide +kernel
theorem d6 : decode yB 6 = .ok (.invokevirtual 335, 3) := by decide +kernel
theorem d9 : decode yB 9 = .ok (.ishr, 1) := by decide +kernel
theorem d10 : decode yB 10 = .ok (.ireturn, 1) := by decide +kernel
def site : List Cond := [.fieldLink "java/lang/String" 9 "java/lang/String" "value" "[B", Cdr.tab] ++ virtW "java/lang/String" 335 "java/lang/String" Cdr.yN Cdr.yN
def tab : Cond := tabOf yN yB 1 (some .int) site
def P (x t : Addr) (V : Cell) (cd : Int32) (n : Nat) (f : Nat → Int32) (z : Int32) (args : Array Value) (s : State) : Prop := args = #[.ref x] ∧ Txt x t V cd n f s ∧ StaticIs s "java/lang/String" "COMPACT_STRINGS" "Z" (.int z) ∧ ¬ z = 0
def E (n : Nat) (r : Option Value) (s u : State) : Prop := XT.PureE (some (.int (Int32.ofNat n))) r s u
/-- length() of a String of n chars, in either coding -/
theorem law (l : Launch) (x t : Addr) (V : Cell) (cd : Int32) (n : Nat) (f : Nat → Int32) (z : Int32) : Law l yN 1 0 1 13 yB 1 (some .int) site (P x t V cd n f z) (E n) [] 0 0 := by
  refine Law.of_walk (plainFor_of_name (by decide +kernel)) (by decide +kernel) (by decide +kernel) (by decide) (fun _ _ h => by rw [h.1]; rfl) (fun _ U U' hal hh h => ⟨h.1, h.2.1.mv hal hh, h.2.2.1.there hal hh, h.2.2.2⟩) (fun r U U' V V' h1 hal h2 h => XT.PureE.mv r U U' V V' h1 hal h2 h) ?_
  intro p e s m args below meth c s₁ X0 hexec hbytes hml hret hlk hnm hown hh0 W hP
  obtain ⟨rfl, hx, s1, hz⟩ := hP
  have v31 := hx.2.2.2.1.2.2.2
  have c1 : Steps p.tables e below (s₁.setTop (entryFrame m #[.ref x] 1)) (s₁.setTop (mkF m 1 #[.val (.ref x)] [.ref x])) := Steps.trans (entry rfl) (by
    show Steps p.tables e below (s₁.setTop (mkF m 0 #[.val (.ref x)] [])) _
    refine XS.aloadN X0.here hexec rfl (hb hbytes d0) rfl rfl ?_
    exact Steps.refl _)
  obtain ⟨T2, X2, q2, st2⟩ := X0.hget hexec hown (wk W (.fieldLink "java/lang/String" 9 "java/lang/String" "value" "[B")) (hx.mv X0.warmed.alike hh0).2.1 (g := (mkF m 1 #[.val (.ref x)] [.ref x])) rfl (rest := []) rfl (hb hbytes d1)
  have hh2 := q2.trans hh0
  have hx2 := hx.mv X2.warmed.alike hh2
  have c3 : Steps p.tables e below (s₁.setTop (entryFrame m #[.ref x] 1)) (T2.setTop (mkF m 6 #[.val (.ref x)] [.ref x, .int (Int32.ofNat V.slots.size)])) := (c1.trans (st2 _ (Steps.refl _))).trans (by
    refine X2.alen hexec hx2.2.2.2.1 rfl rfl (hb hbytes d4) ?_
    refine XS.aloadN X2.here hexec rfl (hb hbytes d5) rfl rfl ?_
    exact Steps.refl _)
  obtain ⟨v4, T4, X4, E4, g4⟩ := X2.callV hexec (Cdr.law l x cd z) hown (wks W (virtW "java/lang/String" 335 "java/lang/String" Cdr.yN Cdr.yN)) rfl (by decide) (wk W Cdr.tab) (W := 1) (Nat.le_of_ble_eq_true rfl) (Nat.le_of_ble_eq_true rfl) (Nat.le_refl _) (Nat.le_refl _) (hx2.1.fc X2.warmed.alike) hx2.1.is (g := (mkF m 6 #[.val (.ref x)] [.ref x, .int (Int32.ofNat V.slots.size)])) rfl (by rw [hml]; rfl) c3 (argsL := []) (rest := [.int (Int32.ofNat V.slots.size)]) rfl rfl (by show 2 * 0 + (1 + 0) ≤ _; decide) (hb hbytes d6) (⟨rfl, hx2.2.2.1, hx.2.2.2.2.1.cd, s1.there X2.warmed.alike hh2, hz⟩)
  obtain ⟨rfl, q4⟩ := E4
  have c5 : Steps p.tables e below (s₁.setTop (entryFrame m #[.ref x] 1)) (T4.setTop (mkF m 10 #[.val (.ref x)] [.int (Int32.ofNat V.slots.size >>> (cd &&& 31))])) := Steps.trans g4 (by
    refine ishr X4.here hexec rfl (hb hbytes d9) rfl ?_
    exact Steps.refl _)
  rw [hx.2.2.2.2.1.len v31] at c5
  exact ⟨T4, some (.int (Int32.ofNat n)), _, _, _, X4, rfl, rfl, rfl, (fun h => by cases h), ⟨rfl, q4.trans hh2⟩, fun fs hl => c5.trans (X4.ireturnOut hexec hret rfl (Or.inl rfl) (hb hbytes d10) hl)⟩
theorem pays {l : Launch} {R : Room} {p : Program} {e : Env} {below : List Frame} {s : State} {sargs : Array Value} {len W : Nat} (x t : Addr) (V : Cell) (cd : Int32) (n : Nat) (f : Nat → Int32) (z : Int32) (htab : tab.before sargs s = true) (hfr : 2 ≤ R.frames) (hlo : W + 25 ≤ R.locals) :
    Back l R p e below s sargs yN len W (fun A₁ a₁ => A₁.cells + 0 ≤ R.cells ∧ A₁.slots + 0 ≤ R.slots ∧ P x t V cd n f z a₁ A₁.U) (fun A₁ _ v₁ B₁ => E n v₁ A₁.U B₁.U ∧ B₁.locs = A₁.locs ++ [] ∧ B₁.cells = A₁.cells + 0 ∧ B₁.slots = A₁.slots + 0) :=
  (law l x t V cd n f z).pays htab hfr (by omega)
end Len
namespace IsL
def yN : MethodName := ⟨"java/lang/String", "isLatin1", "()Z"⟩
abbrev yB : ByteArray := jdk_42_method_154_code
theorem d0 : decode yB 0 = .ok (.getstatic 38, 3) := by decide +kernel
theorem d3 : decode yB 3 = .ok (.ifCond (.eq) 14, 3) := by decide +kernel
theorem d6 : decode yB 6 = .ok (.aload_n 0, 1) := by decide +kernel
theorem d7 : decode yB 7 = .ok (.getfield 15, 3) := by decide +kernel
theorem d10 : decode yB 10 = .ok (.ifCond (.ne) 7, 3) := by decide +kernel
theorem d13 : decode yB 13 = .ok (.iconst 1, 1) := by decide +kernel
theorem d14 : decode yB 14 = .ok (.goto 4, 3) := by decide +kernel
theorem d17 : decode yB 17 = .ok (.iconst 0, 1) := by decide +kernel
theorem d18 : decode yB 18 = .ok (.ireturn, 1) := by decide +kernel
def site : List Cond := [.fieldLink "java/lang/String" 38 "java/lang/String" "COMPACT_STRINGS" "Z", .fieldLink "java/lang/String" 15 "java/lang/String" "coder" "B"]
def tab : Cond := tabOf yN yB 1 (some .boolean) site
def P (x : Addr) (cd z : Int32) (args : Array Value) (s : State) : Prop := args = #[.ref x] ∧ Has x "java/lang/String" "coder" "B" (.int cd) s ∧ (cd = 0 ∨ cd = 1) ∧ StaticIs s "java/lang/String" "COMPACT_STRINGS" "Z" (.int z) ∧ ¬ z = 0
def E (cd : Int32) (r : Option Value) (s u : State) : Prop := XT.PureE (some (.int (1 - cd))) r s u
theorem law (l : Launch) (x : Addr) (cd z : Int32) : Law l yN 1 0 0 0 yB 1 (some .boolean) site (P x cd z) (E cd) [] 0 0 := by
  refine Law.of_walk (plainFor_of_name (by decide +kernel)) (by decide +kernel) (by decide +kernel) (by decide) (fun _ _ h => by rw [h.1]; rfl) (fun _ U U' hal hh h => ⟨h.1, h.2.1.mv hal hh, h.2.2.1, h.2.2.2.1.there hal hh, h.2.2.2.2⟩) (fun r U U' V V' h1 hal h2 h => XT.PureE.mv r U U' V V' h1 hal h2 h) ?_
  intro p e s m args below meth c s₁ X0 hexec hbytes hml hret hlk hnm hown hh0 W hP
  obtain ⟨rfl, hx, hc, s1, hz⟩ := hP
  have c1 : Steps p.tables e below (s₁.setTop (entryFrame m #[.ref x] 1)) (s₁.setTop (mkF m 0 #[.val (.ref x)] [])) := entry rfl
  obtain ⟨T2, X2, q2, st2⟩ := X0.sget hexec hown (wk W (.fieldLink "java/lang/String" 38 "java/lang/String" "COMPACT_STRINGS" "Z")) s1 (fun _ _ h => by rw [hh0]; exact h) (g := (mkF m 0 #[.val (.ref x)] [])) rfl (hb hbytes d0)
  have hh2 := q2.trans hh0
  have c3 : Steps p.tables e below (s₁.setTop (entryFrame m #[.ref x] 1)) (T2.setTop (mkF m 7 #[.val (.ref x)] [.ref x])) := (c1.trans (st2 _ (Steps.refl _))).trans (by
    refine XS.ifNo X2.here hexec rfl (hb hbytes d3) rfl (i0_eq_f hz) ?_
    refine XS.aloadN X2.here hexec rfl (hb hbytes d6) rfl rfl ?_
    exact Steps.refl _)
  obtain ⟨T4, X4, q4, st4⟩ := X2.hget hexec hown (wk W (.fieldLink "java/lang/String" 15 "java/lang/String" "coder" "B")) (hx.mv X2.warmed.alike hh2) (g := (mkF m 7 #[.val (.ref x)] [.ref x])) rfl (rest := []) rfl (hb hbytes d7)
  have c5 : Steps p.tables e below (s₁.setTop (entryFrame m #[.ref x] 1)) (T4.setTop (mkF m 10 #[.val (.ref x)] [.int cd])) := c3.trans (st4 _ (Steps.refl _))
  have c6 : Steps p.tables e below (s₁.setTop (entryFrame m #[.ref x] 1)) (T4.setTop (mkF m 18 #[.val (.ref x)] [.int (1 - cd)])) := by
    rcases hc with rfl | rfl
    · exact c5.trans (by
        refine XS.ifNo X4.here hexec rfl (hb hbytes d10) rfl (i0_ne_f rfl) ?_
        refine iconstV X4.here hexec rfl 1 (hb hbytes d13) (by decide) ?_
        refine XS.goto X4.here hexec rfl (pc0 := 14) rfl (hb hbytes d14) (by decide) rfl ?_
        exact Steps.refl _)
    · exact c5.trans (by
        refine XS.ifYes X4.here hexec rfl (pc0 := 10) rfl (hb hbytes d10) rfl (i0_ne_t (by decide)) (by decide) rfl ?_
        refine iconstV X4.here hexec rfl 0 (hb hbytes d17) (by decide) ?_
        exact Steps.refl _)
  exact ⟨T4, some (.int (1 - cd)), _, _, _, X4, rfl, rfl, rfl, (fun h => by cases h), ⟨rfl, q4.trans hh2⟩, fun fs hl => c6.trans (X4.ireturnOut hexec hret (by rcases hc with rfl | rfl <;> rfl) (Or.inr (Or.inl rfl)) (hb hbytes d18) hl)⟩
end IsL
namespace LChA
def yN : MethodName := ⟨"java/lang/StringLatin1", "charAt", "([BI)C"⟩
abbrev yB : ByteArray := jdk_43_method_2_code
theorem d0 : decode yB 0 = .ok (.iload_n 1, 1) := by decide +kernel
theorem d1 : decode yB 1 = .ok (.aload_n 0, 1) := by decide +kernel
theorem d2 : decode yB 2 = .ok (.arraylength, 1) := by decide +kernel
theorem d3 : decode yB 3 = .ok (.invokestatic 9, 3) := by decide +kernel
theorem d6 : decode yB 6 = .ok (.aload_n 0, 1) := by decide +kernel
theorem d7 : decode yB 7 = .ok (.iload_n 1, 1) := by decide +kernel
theorem d8 : decode yB 8 = .ok (.baload, 1) := by decide +kernel
theorem d9 : decode yB 9 = .ok (.sipush 255, 3) := by decide +kernel
theorem d12 : decode yB 12 = .ok (.iand, 1) := by decide +kernel
theorem d13 : decode yB 13 = .ok (.i2c, 1) := by decide +kernel
theorem d14 : decode yB 14 = .ok (.ireturn, 1) := by decide +kernel
def site : List Cond := [JO.Str_checkIndex.tab] ++ staticW "java/lang/StringLatin1" 9 JO.Str_checkIndex.yN
def tab : Cond := tabOf yN yB 2 (some .char) site
def P (t : Addr) (V : Cell) (i : Nat) (u : Int32) (fm : Value) (args : Array Value) (s : State) : Prop := args = #[.ref t, .int (Int32.ofNat i)] ∧ XT.Arr .byte t V s ∧ V.slots[i]? = some (.int u) ∧ (StaticIs s "jdk/internal/util/Preconditions" "SIOOBE_FORMATTER" "Ljava/util/function/BiFunction;" fm ∧ fm.isRef = true)
def E (u : Int32) (r : Option Value) (s w : State) : Prop := XT.PureE (some (.int (chr8 u))) r s w
theorem law (l : Launch) (t : Addr) (V : Cell) (i : Nat) (u : Int32) (fm : Value) : Law l yN 2 2 2 27 yB 2 (some .char) site (P t V i u fm) (E u) [] 0 0 := by
  refine Law.of_walk (plainFor_of_name (by decide +kernel)) (by decide +kernel) (by decide +kernel) (by decide) (fun _ _ h => by rw [h.1]; rfl) (fun _ U U' hal hh h => ⟨h.1, h.2.1.mv hal hh, h.2.2.1, h.2.2.2.1.there hal hh, h.2.2.2.2⟩) (fun r U U' V V' h1 hal h2 h => XT.PureE.mv r U U' V V' h1 hal h2 h) ?_
  intro p e s m args below meth c s₁ X0 hexec hbytes hml hret hlk hnm hown hh0 W hP
  obtain ⟨rfl, hV, hu, s1, rf⟩ := hP
  have v31 := hV.2.2.2
  have hi : i < V.slots.size := (Array.getElem?_eq_some_iff.mp hu).1
  have c1 : Steps p.tables e below (s₁.setTop (entryFrame m #[.ref t, .int (Int32.ofNat i)] 2)) (s₁.setTop (mkF m 0 #[.val (.ref t), .val (.int (Int32.ofNat i))] [])) := entry rfl
  have c2 : Steps p.tables e below (s₁.setTop (entryFrame m #[.ref t, .int (Int32.ofNat i)] 2)) (s₁.setTop (mkF m 3 #[.val (.ref t), .val (.int (Int32.ofNat i))] [.int (Int32.ofNat V.slots.size), .int (Int32.ofNat i)])) := c1.trans (by
    refine XS.iloadN X0.here hexec rfl (hb hbytes d0) rfl ?_
    refine XS.aloadN X0.here hexec rfl (hb hbytes d1) rfl rfl ?_
    refine X0.alen hexec (hV.mv X0.warmed.alike hh0) rfl rfl (hb hbytes d2) ?_
    exact Steps.refl _)
  obtain ⟨v3, T3, X3, E3, g3⟩ := X0.callS hexec (JO.Str_checkIndex.law l (Int32.ofNat i) (Int32.ofNat V.slots.size) fm) hown (wks W (staticW "java/lang/StringLatin1" 9 JO.Str_checkIndex.yN)) (wk W JO.Str_checkIndex.tab) (W := 0) (Nat.le_of_ble_eq_true rfl) (Nat.le_of_ble_eq_true rfl) (Nat.le_refl _) (Nat.le_refl _) (g := (mkF m 3 #[.val (.ref t), .val (.int (Int32.ofNat i))] [.int (Int32.ofNat V.slots.size), .int (Int32.ofNat i)])) rfl (by rw [hml]; rfl) c2 (argsL := [.int (Int32.ofNat i), .int (Int32.ofNat V.slots.size)]) (rest := []) rfl rfl (by show 2 * 0 + 0 ≤ _; decide) (hb hbytes d3) (⟨rfl, rf, s1.there X0.warmed.alike hh0, Int32.ofNat_not_neg (by omega), lt32 v31 hi⟩)
  obtain ⟨rfl, q3⟩ := E3
  have hh3 := q3.trans hh0
  have c4 : Steps p.tables e below (s₁.setTop (entryFrame m #[.ref t, .int (Int32.ofNat i)] 2)) (T3.setTop (mkF m 14 #[.val (.ref t), .val (.int (Int32.ofNat i))] [.int (chr8 u)])) := Steps.trans g3 (by
    refine XS.aloadN X3.here hexec rfl (hb hbytes d6) rfl rfl ?_
    refine XS.iloadN X3.here hexec rfl (hb hbytes d7) rfl ?_
    refine X3.aget hexec (hV.mv X3.warmed.alike hh3) rfl hu rfl rfl (hb hbytes d8) ?_
    refine sipushV X3.here hexec rfl 255 (hb hbytes d9) (by decide) ?_
    refine XS.iand X3.here hexec rfl (hb hbytes d12) rfl ?_
    refine i2c X3.here hexec rfl (hb hbytes d13) rfl ?_
    exact Steps.refl _)
  exact ⟨T3, some (.int (chr8 u)), _, _, _, X3, rfl, rfl, rfl, (fun h => by cases h), ⟨rfl, hh3⟩, fun fs hl => c4.trans (X3.ireturnOut hexec hret (narrow_c _) (Or.inr (Or.inr (Or.inr (Or.inl rfl)))) (hb hbytes d14) hl)⟩
end LChA
end StrChars
namespace StrChars.Road
open Jvm Sem ClassFile Op Lib Jvm.Stand Jvm.Free Jvm.Free.XT
open Jvm.Lib.Cold (StaticIs)
theorem consq {a : Array Value} {s : State} {c : Jvm.Cond} {L : List Jvm.Cond} (h0 : c.before a s = true) (h : ∀ w ∈ L, w.before a s = true) : ∀ w ∈ c :: L, w.before a s = true := fun w hw => (List.mem_cons.mp hw).elim (fun e => e ▸ h0) (h w)
/-- the words of String.length(), either coding -/
abbrev wordsLen : List Jvm.Cond := [.code Len.yN Len.yB 1 (some .int), .initialized ST, .fieldLink ST 9 ST "value" "[B", .fieldLink ST 38 ST "COMPACT_STRINGS" "Z", .fieldLink ST 15 ST "coder" "B", .code Cdr.yN Cdr.yB 1 (some .byte), .methodLink ST 335 Cdr.yN, .declares Cdr.yN, .selects ST Cdr.yN Cdr.yN, .instanceMethod Cdr.yN]
theorem tabLen_of {a : Array Value} {s : State} (h : ∀ w ∈ wordsLen, w.before a s = true) : Len.tab.before a s = true := by
  have hc : Cdr.tab.before a s = true := unparts (wk h (.code Cdr.yN Cdr.yB 1 (some .byte))) (wks h (.initialized Cdr.yN.cls :: Cdr.site))
  have q := consq hc h
  exact unparts (wk q (.code Len.yN Len.yB 1 (some .int))) (wks q (.initialized Len.yN.cls :: Len.site))
theorem movedLen {Z s : State} {a0 args : Array Value} (hZ : Z.Warmed39 s.vm) (hw : ∀ d ∈ wordsLen, d.before a0 Z = true) : ∀ d ∈ wordsLen, d.before args s = true := fun d hd => by
  have q := hw d hd
  have t : ∀ d ∈ wordsLen, d = .arrayClass .byte ∨ (d.onTables && d.keepsFace) = true := by decide +kernel
  rcases t d hd with rfl | t
  · exact RoadKit.mvA hZ q
  · exact RoadKit.mv hZ q t
/-- the bytes of the chars cs, low before high -/
def wideBytes : List Int32 → List Value
  | [] => []
  | c :: cs => .int (lo8 c) :: .int (hi8 c) :: wideBytes cs
theorem wide_lo (d : Value) : ∀ (cs : List Int32) (j : Nat), j < cs.length → (wideBytes cs).getD (2 * j) d = .int (lo8 (cs.getD j 0))
  | [], j, h => absurd h (Nat.not_lt_zero j)
  | c :: cs, 0, _ => rfl
  | c :: cs, j + 1, h => by
    have q := wide_lo d cs j (by simpa using h)
    rw [show 2 * (j + 1) = 2 * j + 1 + 1 from by omega]
    simpa [wideBytes] using q
theorem wide_hi (d : Value) : ∀ (cs : List Int32) (j : Nat), j < cs.length → (wideBytes cs).getD (2 * j + 1) d = .int (hi8 (cs.getD j 0))
  | [], j, h => absurd h (Nat.not_lt_zero j)
  | c :: cs, 0, _ => rfl
  | c :: cs, j + 1, h => by
    have q := wide_hi d cs j (by simpa using h)
    rw [show 2 * (j + 1) + 1 = 2 * j + 1 + 1 + 1 from by omega]
    simpa [wideBytes] using q
theorem low_at (d : Value) (cs : List Int32) (j : Nat) (h : j < cs.length) : (cs.map fun c => Value.int (lo8 c)).getD j d = .int (lo8 (cs.getD j 0)) := by
  simp [List.getD_eq_getElem?_getD, h]
/-- an array of N2 bytes vs codes the chars cs by the coder cd -/
def CodA (cs : List Int32) (cd N2 : Int32) (vs : List Value) : Prop := (cd = 0 ∧ N2 = Int32.ofNat cs.length ∧ vs = (cs.map fun c => Value.int (lo8 c)) ∧ ∀ c ∈ cs, ¬ 255 < c) ∨ (cd = 1 ∧ N2 = Int32.ofNat (2 * cs.length) ∧ vs = wideBytes cs ∧ ∃ c ∈ cs, 255 < c)
theorem CodA.cod {cs : List Int32} {cd N2 : Int32} {vs : List Value} {V : Cell} (h : CodA cs cd N2 vs) (hn : 2 * cs.length < 2 ^ 31) (hs : V.slots.size = N2.toNatClampNeg) (hv : RoadKit.Has V vs (.int 0)) : Cod cd cs.length (fun j => cs.getD j 0) V := by
  rcases h with ⟨rfl, rfl, rfl, h⟩ | ⟨rfl, rfl, rfl, c, hc, hw⟩
  · rw [n32 (by omega)] at hs
    exact Or.inl ⟨rfl, hs, fun j hj => ⟨by rw [hv j (by omega), low_at _ _ _ hj], by
      have e : cs.getD j 0 = cs[j] := by simp [List.getD_eq_getElem?_getD, hj]
      show ¬ 255 < cs.getD j 0
      rw [e]; exact h _ (List.getElem_mem _)⟩⟩
  · rw [n32 (by omega)] at hs
    obtain ⟨j, hj, rfl⟩ := List.getElem_of_mem hc
    exact Or.inr ⟨rfl, hs, fun j hj => ⟨by rw [hv _ (by omega), wide_lo _ _ _ hj], by rw [hv _ (by omega), wide_hi _ _ _ hj]⟩, j, hj, by
      have e : cs.getD j 0 = cs[j] := by simp [List.getD_eq_getElem?_getD, hj]
      show 255 < cs.getD j 0
      rw [e]; exact hw⟩
/-- an object of exactly java/lang/String, its two fields found: as the laws ask it -/
theorem strObj {Z U : State} {a0 : Array Value} {kI : Nat} (wi : (Jvm.Cond.instantiable ST kI).before a0 Z = true) (al : Z.vm.Alike U.vm) {x : Addr} {v0 c0 : Value} (E : RoadKit.Exa Z U.heap x ST) (V : RoadKit.Fld Z U.heap x ST "value" "[B" v0) (C : RoadKit.Fld Z U.heap x ST "coder" "B" c0) :
    ∃ (D : Cell) (fV fC : Field), Blank ST x D U ∧ Found ST "value" "[B" fV U ∧ Found ST "coder" "B" fC U ∧ D.slots[fV.slot]? = some v0 ∧ D.slots[fC.slot]? = some c0 ∧ RoadKit.slotOf Z ST "value" "[B" = fV.slot ∧ RoadKit.slotOf Z ST "coder" "B" = fC.slot := by
  obtain ⟨D, cfV, kV, iV, fV, hD, gV, stV, knV, obV, asV, slV⟩ := V
  obtain ⟨D', cfC, kC, iC, fC, hD', gC, stC, -, -, asC, slC⟩ := C
  cases hD.symm.trans hD'
  obtain ⟨D2, kD, e1, e2, e3, e4, e5⟩ := E
  cases hD.symm.trans e1
  obtain ⟨c2, k2, i1, i2, i3, -⟩ := Cond.instantiable_spec wi
  cases e2.symm.trans i1
  cases e3.symm.trans i2
  obtain ⟨kU, u1, u2⟩ := al.2.2 _ _ e3
  exact ⟨D, fV, fC, ⟨hD, ⟨knV, fun q hq => by rw [hq] at obV; cases obV⟩, by rw [al.findClass]; exact e2, kU, u1, by rw [u2]; exact i3, by rw [u2]; exact e5 i3⟩, ⟨SBG.found_only al ⟨cfV, kV, iV, gV⟩, stV⟩, ⟨SBG.found_only al ⟨cfC, kC, iC, gC⟩, stC⟩, slV, slC, by simp [RoadKit.slotOf, gV], by simp [RoadKit.slotOf, gC]⟩
theorem sta_is {Z U : State} (al : Z.vm.Alike U.vm) {C n d : String} {v : Value} (S : RoadKit.Sta Z U.heap C n d v) : StaticIs U C n d v := by
  obtain ⟨cfS, iS, kS, fS, st, cS, t1, t2, t3, t4, t5, t6, t7⟩ := S
  exact StaticIs.there (s := { Z with heap := U.heap }) ⟨cfS, iS, kS, fS, st, cS, t1, t2, t3, t4, t5, (fun q => by rw [q] at t6; cases t6), t7⟩ al rfl
/-- **length() OF SUCH A STRING** -/
theorem lenW {p : Program} {l : Launch} {e : Env} {R : Room} {s : State} {args : Array Value} {below : List Frame} {len W : Nat} {Z : State} {a0 : Array Value} {h : Heap} (hZ : Z.Warmed39 s.vm) (hw : ∀ d ∈ wordsLen, d.before a0 Z = true) {kI : Nat} (wi : (Jvm.Cond.instantiable ST kI).before a0 Z = true)
    {x t : Addr} {kb : ClassId} {cs : List Int32} {cd N2 z : Int32} {vs : List Value} (E : RoadKit.Exa Z h x ST) (V : RoadKit.Fld Z h x ST "value" "[B" (.ref t)) (C : RoadKit.Fld Z h x ST "coder" "B" (.int cd)) (K : RoadKit.Arv Z h t kb .byte N2 vs (.int 0)) (hc : CodA cs cd N2 vs) (hb : ∀ c ∈ cs, ¬ c < 0 ∧ ¬ (65535 : Int32) < c)
    (S : RoadKit.Sta Z h ST "COMPACT_STRINGS" "Z" (.int z)) (hz : ¬ z = 0) (l2 : cs.length ≤ 4000) (hfr : 2 ≤ R.frames) (hlo : W + 25 ≤ R.locals) :
    Back l R p e below s args (⟨"java/lang/String", "length", "()I"⟩ : MethodName) len W (fun P a => a = #[.ref x] ∧ P.U.heap = h ∧ P.cells + 0 ≤ R.cells ∧ P.slots + 0 ≤ R.slots)
      (fun P _ v B => ∃ L, (v = some (.int (Int32.ofNat cs.length)) ∧ L = [] ∧ B.U.heap = h) ∧ B.locs = P.locs ++ L ∧ B.cells = P.cells + 0 ∧ B.slots = P.slots + 0) := by
  obtain ⟨A, K1, K2, K3, K4, K5, K6⟩ := K
  have hcod := hc.cod (by omega) K3 K5
  intro m meth c P g ig mk a X hg hsize hdg hW hn hp'
  obtain ⟨rfl, rfl, r1, r2⟩ := hp'
  have al : Z.vm.Alike P.U.vm := hZ.alike.trans X.warmed.alike
  obtain ⟨D, fV, fC, hB, F1, F2, g1, g2, -, -⟩ := strObj wi al E V C
  have hx : Txt x t A cd cs.length (fun j => cs.getD j 0) P.U := ⟨⟨_, hB.2.2.1, D, hB.1, rfl, by cases q : D.vm <;> first | rfl | exact absurd q (hB.2.1.2 _)⟩, Has.of hB F1 g1, Has.of hB F2 g2, ⟨K1.1, State.isArrayOf_alike al K1.2.1, K1.2.2, by rcases hcod with ⟨-, q, -⟩ | ⟨-, q, -⟩ <;> omega⟩, hcod, fun j hj => by
    have e : cs.getD j 0 = cs[j] := by simp [List.getD_eq_getElem?_getD, hj]
    show ¬ cs.getD j 0 < 0 ∧ ¬ 65535 < cs.getD j 0
    rw [e]; exact hb _ (List.getElem_mem _)⟩
  obtain ⟨v, B, X', ⟨⟨hv, hh⟩, hl, hk, hs⟩, st⟩ := Len.pays x t A cd cs.length (fun j => cs.getD j 0) z (tabLen_of (movedLen hZ hw)) hfr hlo m meth c P g ig mk _ X hg hsize hdg hW hn ⟨r1, r2, rfl, hx, sta_is al S, hz⟩
  exact ⟨v, B, X', ⟨[], ⟨hv, rfl, hh⟩, hl, hk, hs⟩, st⟩
end StrChars.Road
namespace StrChars
open Jvm Sem ClassFile Op Lib Jvm.Stand Jvm.Free.XT Jvm.Free.ALB Jvm.Free.JM Jvm.Free
open Jvm.Lib.Cold (StaticIs)
namespace Emp
def yN : MethodName := ⟨"java/lang/String", "isEmpty", "()Z"⟩
abbrev yB : ByteArray := jdk_42_method_55_code
theorem d0 : decode yB 0 = .ok (.aload_n 0, 1) := by decide +kernel
theorem d1 : decode yB 1 = .ok (.getfield 9, 3) := by decide +kernel
theorem d4 : decode yB 4 = .ok (.arraylength, 1) := by decide +kernel
theorem d5 : decode yB 5 = .ok (.ifCond (.ne) 7, 3) := by decide +kernel
theorem d8 : decode yB 8 = .ok (.iconst 1, 1) := by decide +kernel
theorem d9 : decode yB 9 = .ok (.goto 4, 3) := by decide +kernel
theorem d12 : decode yB 12 = .ok (.iconst 0, 1) := by decide +kernel
theorem d13 : decode yB 13 = .ok (.ireturn, 1) := by decide +kernel
def site : List Cond := [.fieldLink "java/lang/String" 9 "java/lang/String" "value" "[B"]
def tab : Cond := tabOf yN yB 1 (some .boolean) site
def P (x t : Addr) (V : Cell) (cd : Int32) (n : Nat) (f : Nat → Int32) (args : Array Value) (s : State) : Prop := args = #[.ref x] ∧ Txt x t V cd n f s
def E (n : Nat) (r : Option Value) (s u : State) : Prop := XT.PureE (some (.int (if n = 0 then 1 else 0))) r s u
/-- isEmpty() of a String of n chars -/
theorem law (l : Launch) (x t : Addr) (V : Cell) (cd : Int32) (n : Nat) (f : Nat → Int32) : Law l yN 1 0 0 0 yB 1 (some .boolean) site (P x t V cd n f) (E n) [] 0 0 := by
  refine Law.of_walk (plainFor_of_name (by decide +kernel)) (by decide +kernel) (by decide +kernel) (by decide) (fun _ _ h => by rw [h.1]; rfl) (fun _ U U' hal hh h => ⟨h.1, h.2.mv hal hh⟩) (fun r U U' V V' h1 hal h2 h => XT.PureE.mv r U U' V V' h1 hal h2 h) ?_
  intro p e s m args below meth c s₁ X0 hexec hbytes hml hret hlk hnm hown hh0 W hP
  obtain ⟨rfl, hx⟩ := hP
  have v31 := hx.2.2.2.1.2.2.2
  have c1 : Steps p.tables e below (s₁.setTop (entryFrame m #[.ref x] 1)) (s₁.setTop (mkF m 1 #[.val (.ref x)] [.ref x])) := Steps.trans (entry rfl) (by
    show Steps p.tables e below (s₁.setTop (mkF m 0 #[.val (.ref x)] [])) _
    refine XS.aloadN X0.here hexec rfl (hb hbytes d0) rfl rfl ?_
    exact Steps.refl _)
  obtain ⟨T2, X2, q2, st2⟩ := X0.hget hexec hown (wk W (.fieldLink "java/lang/String" 9 "java/lang/String" "value" "[B")) (hx.mv X0.warmed.alike hh0).2.1 (g := (mkF m 1 #[.val (.ref x)] [.ref x])) rfl (rest := []) rfl (hb hbytes d1)
  have hh2 := q2.trans hh0
  have hx2 := hx.mv X2.warmed.alike hh2
  have c3 : Steps p.tables e below (s₁.setTop (entryFrame m #[.ref x] 1)) (T2.setTop (mkF m 5 #[.val (.ref x)] [.int (Int32.ofNat V.slots.size)])) := (c1.trans (st2 _ (Steps.refl _))).trans (by
    refine X2.alen hexec hx2.2.2.2.1 rfl rfl (hb hbytes d4) ?_
    exact Steps.refl _)
  have hz : V.slots.size = 0 ↔ n = 0 := by
    rcases hx.2.2.2.2.1 with ⟨-, q, -⟩ | ⟨-, q, -⟩ <;> omega
  by_cases h0 : n = 0
  · have c4 : Steps p.tables e below (s₁.setTop (entryFrame m #[.ref x] 1)) (T2.setTop (mkF m 13 #[.val (.ref x)] [.int 1])) := c3.trans (by
      refine XS.ifNo X2.here hexec rfl (hb hbytes d5) rfl (i0_ne_f (by rw [hz.mpr h0]; rfl)) ?_
      refine iconstV X2.here hexec rfl 1 (hb hbytes d8) (by decide) ?_
      refine XS.goto X2.here hexec rfl (pc0 := 9) rfl (hb hbytes d9) (by decide) rfl ?_
      exact Steps.refl _)
    exact ⟨T2, some (.int 1), _, _, _, X2, rfl, rfl, rfl, (fun h => by cases h), ⟨by rw [if_pos h0], hh2⟩, fun fs hl => c4.trans (X2.ireturnOut hexec hret rfl (Or.inr (Or.inl rfl)) (hb hbytes d13) hl)⟩
  · have c4 : Steps p.tables e below (s₁.setTop (entryFrame m #[.ref x] 1)) (T2.setTop (mkF m 13 #[.val (.ref x)] [.int 0])) := c3.trans (by
      refine XS.ifYes X2.here hexec rfl (pc0 := 5) rfl (hb hbytes d5) rfl (i0_ne_t (nz32 v31 (by omega))) (by decide) rfl ?_
      refine iconstV X2.here hexec rfl 0 (hb hbytes d12) (by decide) ?_
      exact Steps.refl _)
    exact ⟨T2, some (.int 0), _, _, _, X2, rfl, rfl, rfl, (fun h => by cases h), ⟨by rw [if_neg h0], hh2⟩, fun fs hl => c4.trans (X2.ireturnOut hexec hret rfl (Or.inr (Or.inl rfl)) (hb hbytes d13) hl)⟩
theorem pays {l : Launch} {R : Room} {p : Program} {e : Env} {below : List Frame} {s : State} {sargs : Array Value} {len W : Nat} (x t : Addr) (V : Cell) (cd : Int32) (n : Nat) (f : Nat → Int32) (htab : tab.before sargs s = true) (hfr : 1 ≤ R.frames) (hlo : W + 12 ≤ R.locals) :
    Back l R p e below s sargs yN len W (fun A₁ a₁ => A₁.cells + 0 ≤ R.cells ∧ A₁.slots + 0 ≤ R.slots ∧ P x t V cd n f a₁ A₁.U) (fun A₁ _ v₁ B₁ => E n v₁ A₁.U B₁.U ∧ B₁.locs = A₁.locs ++ [] ∧ B₁.cells = A₁.cells + 0 ∧ B₁.slots = A₁.slots + 0) :=
  (law l x t V cd n f).pays htab hfr (by omega)
end Emp
end StrChars
namespace StrChars.Road
open Jvm Sem ClassFile Op Lib Jvm.Stand Jvm.Free Jvm.Free.XT
open Jvm.Lib.Cold (StaticIs)
/-- the words of String.isEmpty() -/
abbrev wordsEmp : List Jvm.Cond := [.code Emp.yN Emp.yB 1 (some .boolean), .initialized ST, .fieldLink ST 9 ST "value" "[B"]
theorem tabEmp_of {a : Array Value} {s : State} (h : ∀ w ∈ wordsEmp, w.before a s = true) : Emp.tab.before a s = true := unparts (wk h (.code Emp.yN Emp.yB 1 (some .boolean))) (wks h (.initialized Emp.yN.cls :: Emp.site))
theorem movedEmp {Z s : State} {a0 args : Array Value} (hZ : Z.Warmed39 s.vm) (hw : ∀ d ∈ wordsEmp, d.before a0 Z = true) : ∀ d ∈ wordsEmp, d.before args s = true := fun d hd => by
  have t : ∀ d ∈ wordsEmp, (d.onTables && d.keepsFace) = true := by decide +kernel
  exact RoadKit.mv hZ (hw d hd) (t d hd)
/-- the road's facts of a String, as the laws ask it -/
theorem txt_of {Z U : State} {a0 : Array Value} {kI : Nat} (wi : (Jvm.Cond.instantiable ST kI).before a0 Z = true) (al : Z.vm.Alike U.vm) {x t : Addr} {kb : ClassId} {cs : List Int32} {cd N2 : Int32} {vs : List Value} (E : RoadKit.Exa Z U.heap x ST) (V : RoadKit.Fld Z U.heap x ST "value" "[B" (.ref t)) (C : RoadKit.Fld Z U.heap x ST "coder" "B" (.int cd)) (K : RoadKit.Arv Z U.heap t kb .byte N2 vs (.int 0)) (hc : CodA cs cd N2 vs) (hb : ∀ c ∈ cs, ¬ c < 0 ∧ ¬ (65535 : Int32) < c) (l2 : cs.length ≤ 4000) :
    ∃ A, Txt x t A cd cs.length (fun j => cs.getD j 0) U := by
  obtain ⟨A, K1, K2, K3, K4, K5, K6⟩ := K
  have hcod := hc.cod (by omega) K3 K5
  obtain ⟨D, fV, fC, hB, F1, F2, g1, g2, -, -⟩ := strObj wi al E V C
  exact ⟨A, ⟨_, hB.2.2.1, D, hB.1, rfl, by cases q : D.vm <;> first | rfl | exact absurd q (hB.2.1.2 _)⟩, Has.of hB F1 g1, Has.of hB F2 g2, ⟨K1.1, State.isArrayOf_alike al K1.2.1, K1.2.2, by rcases hcod with ⟨-, q, -⟩ | ⟨-, q, -⟩ <;> omega⟩, hcod, fun j hj => by
    have e : cs.getD j 0 = cs[j] := by simp [List.getD_eq_getElem?_getD, hj]
    show ¬ cs.getD j 0 < 0 ∧ ¬ 65535 < cs.getD j 0
    rw [e]; exact hb _ (List.getElem_mem _)⟩
/-- **isEmpty() OF SUCH A STRING** -/
theorem empW {p : Program} {l : Launch} {e : Env} {R : Room} {s : State} {args : Array Value} {below : List Frame} {len W : Nat} {Z : State} {a0 : Array Value} {h : Heap} (hZ : Z.Warmed39 s.vm) (hw : ∀ d ∈ wordsEmp, d.before a0 Z = true) {kI : Nat} (wi : (Jvm.Cond.instantiable ST kI).before a0 Z = true)
    {x t : Addr} {kb : ClassId} {cs : List Int32} {cd N2 : Int32} {vs : List Value} (E : RoadKit.Exa Z h x ST) (V : RoadKit.Fld Z h x ST "value" "[B" (.ref t)) (C : RoadKit.Fld Z h x ST "coder" "B" (.int cd)) (K : RoadKit.Arv Z h t kb .byte N2 vs (.int 0)) (hc : CodA cs cd N2 vs) (hb : ∀ c ∈ cs, ¬ c < 0 ∧ ¬ (65535 : Int32) < c) (l2 : cs.length ≤ 4000) (hfr : 1 ≤ R.frames) (hlo : W + 12 ≤ R.locals) :
    Back l R p e below s args (⟨"java/lang/String", "isEmpty", "()Z"⟩ : MethodName) len W (fun P a => a = #[.ref x] ∧ P.U.heap = h ∧ P.cells + 0 ≤ R.cells ∧ P.slots + 0 ≤ R.slots)
      (fun P _ v B => ∃ L, (v = some (.int (if cs.length = 0 then 1 else 0)) ∧ L = [] ∧ B.U.heap = h) ∧ B.locs = P.locs ++ L ∧ B.cells = P.cells + 0 ∧ B.slots = P.slots + 0) := by
  intro m meth c P g ig mk a X hg hsize hdg hW hn hp'
  obtain ⟨rfl, rfl, r1, r2⟩ := hp'
  have al : Z.vm.Alike P.U.vm := hZ.alike.trans X.warmed.alike
  obtain ⟨A, hx⟩ := txt_of wi al E V C K hc hb l2
  obtain ⟨v, B, X', ⟨⟨hv, hh⟩, hl, hk, hs⟩, st⟩ := Emp.pays x t A cd cs.length (fun j => cs.getD j 0) (tabEmp_of (movedEmp hZ hw)) hfr hlo m meth c P g ig mk _ X hg hsize hdg hW hn ⟨r1, r2, rfl, hx⟩
  exact ⟨v, B, X', ⟨[], ⟨hv, rfl, hh⟩, hl, hk, hs⟩, st⟩
end StrChars.Road
namespace StrChars
open Jvm Sem ClassFile Op Lib Jvm.Stand Jvm.Free.XT Jvm.Free.ALB Jvm.Free.JM Jvm.Free
open Jvm.Lib.Cold (StaticIs)
namespace ChN
def yN : MethodName := ⟨"java/lang/String", "charAt", "(I)C"⟩
abbrev yB : ByteArray := jdk_42_method_56_code
theorem d0 : decode yB 0 = .ok (.aload_n 0, 1) := by decide +kernel
theorem d1 : decode yB 1 = .ok (.invokevirtual 492, 3) := by decide +kernel
theorem d4 : decode yB 4 = .ok (.ifCond (.eq) 12, 3) := by decide +kernel
theorem d7 : decode yB 7 = .ok (.aload_n 0, 1) := by decide +kernel
theorem d8 : decode yB 8 = .ok (.getfield 9, 3) := by decide +kernel
theorem d11 : decode yB 11 = .ok (.iload_n 1, 1) := by decide +kernel
theorem d12 : decode yB 12 = .ok (.invokestatic 495, 3) := by decide +kernel
theorem d15 : decode yB 15 = .ok (.ireturn, 1) := by decide +kernel
def site : List Cond := [.fieldLink "java/lang/String" 9 "java/lang/String" "value" "[B", IsL.tab, LChA.tab] ++ virtW "java/lang/String" 492 "java/lang/String" IsL.yN IsL.yN ++ staticW "java/lang/String" 495 LChA.yN
def tab : Cond := tabOf yN yB 2 (some .char) site
def P (x t : Addr) (V : Cell) (n : Nat) (f : Nat → Int32) (z : Int32) (fm : Value) (i : Nat) (args : Array Value) (s : State) : Prop := args = #[.ref x, .int (Int32.ofNat i)] ∧ Txt x t V 0 n f s ∧ i < n ∧ StaticIs s "java/lang/String" "COMPACT_STRINGS" "Z" (.int z) ∧ ¬ z = 0 ∧ StaticIs s "jdk/internal/util/Preconditions" "SIOOBE_FORMATTER" "Ljava/util/function/BiFunction;" fm ∧ fm.isRef = true
def E (f : Nat → Int32) (i : Nat) (r : Option Value) (s u : State) : Prop := XT.PureE (some (.int (f i))) r s u
/-- charAt(i) of a Latin-1 String of n chars, i < n: f i -/
theorem law (l : Launch) (x t : Addr) (V : Cell) (n : Nat) (f : Nat → Int32) (z : Int32) (fm : Value) (i : Nat) : Law l yN 2 1 3 40 yB 2 (some .char) site (P x t V n f z fm i) (E f i) [] 0 0 := by
  refine Law.of_walk (plainFor_of_name (by decide +kernel)) (by decide +kernel) (by decide +kernel) (by decide) (fun _ _ h => by rw [h.1]; rfl) (fun _ U U' hal hh h => ⟨h.1, h.2.1.mv hal hh, h.2.2.1, h.2.2.2.1.there hal hh, h.2.2.2.2.1, h.2.2.2.2.2.1.there hal hh, h.2.2.2.2.2.2⟩) (fun r U U' V V' h1 hal h2 h => XT.PureE.mv r U U' V V' h1 hal h2 h) ?_
  intro p e s m args below meth c s₁ X0 hexec hbytes hml hret hlk hnm hown hh0 W hP
  obtain ⟨rfl, hx, hi, s1, hz, s3, rf⟩ := hP
  have v31 := hx.2.2.2.1.2.2.2
  have hr := hx.2.2.2.2.2 i hi
  have hx0 := hx.mv X0.warmed.alike hh0
  have c1 : Steps p.tables e below (s₁.setTop (entryFrame m #[.ref x, .int (Int32.ofNat i)] 2)) (s₁.setTop (mkF m 1 #[.val (.ref x), .val (.int (Int32.ofNat i))] [.ref x])) := Steps.trans (entry rfl) (by
    show Steps p.tables e below (s₁.setTop (mkF m 0 #[.val (.ref x), .val (.int (Int32.ofNat i))] [])) _
    refine XS.aloadN X0.here hexec rfl (hb hbytes d0) rfl rfl ?_
    exact Steps.refl _)
  obtain ⟨v2, T2, X2, E2, g2⟩ := X0.callV hexec (IsL.law l x 0 z) hown (wks W (virtW "java/lang/String" 492 "java/lang/String" IsL.yN IsL.yN)) rfl (by decide) (wk W IsL.tab) (W := 0) (Nat.le_of_ble_eq_true rfl) (Nat.le_of_ble_eq_true rfl) (Nat.le_refl _) (Nat.le_refl _) (hx0.1.fc X0.warmed.alike) hx0.1.is (g := (mkF m 1 #[.val (.ref x), .val (.int (Int32.ofNat i))] [.ref x])) rfl (by rw [hml]; rfl) c1 (argsL := []) (rest := []) rfl rfl (by show 2 * 0 + 0 ≤ _; decide) (hb hbytes d1) (⟨rfl, hx0.2.2.1, hx.2.2.2.2.1.cd, s1.there X0.warmed.alike hh0, hz⟩)
  obtain ⟨rfl, q2⟩ := E2
  have hh2 := q2.trans hh0
  have hx2 := hx.mv X2.warmed.alike hh2
  obtain ⟨-, k1, k2⟩ | ⟨k0, -⟩ := hx.2.2.2.2.1
  · have c3 : Steps p.tables e below (s₁.setTop (entryFrame m #[.ref x, .int (Int32.ofNat i)] 2)) (T2.setTop (mkF m 8 #[.val (.ref x), .val (.int (Int32.ofNat i))] [.ref x])) := Steps.trans g2 (by
      refine XS.ifNo X2.here hexec rfl (hb hbytes d4) rfl (i0_eq_f (by decide)) ?_
      refine XS.aloadN X2.here hexec rfl (hb hbytes d7) rfl rfl ?_
      exact Steps.refl _)
    obtain ⟨T4, X4, q4, st4⟩ := X2.hget hexec hown (wk W (.fieldLink "java/lang/String" 9 "java/lang/String" "value" "[B")) hx2.2.1 (g := (mkF m 8 #[.val (.ref x), .val (.int (Int32.ofNat i))] [.ref x])) rfl (rest := []) rfl (hb hbytes d8)
    have hh4 := q4.trans hh2
    have c5 : Steps p.tables e below (s₁.setTop (entryFrame m #[.ref x, .int (Int32.ofNat i)] 2)) (T4.setTop (mkF m 12 #[.val (.ref x), .val (.int (Int32.ofNat i))] [.int (Int32.ofNat i), .ref t])) := (c3.trans (st4 _ (Steps.refl _))).trans (by
      refine XS.iloadN X4.here hexec rfl (hb hbytes d11) rfl ?_
      exact Steps.refl _)
    obtain ⟨v6, T6, X6, E6, g6⟩ := X4.callS hexec (LChA.law l t V i (lo8 (f i)) fm) hown (wks W (staticW "java/lang/String" 495 LChA.yN)) (wk W LChA.tab) (W := 0) (Nat.le_of_ble_eq_true rfl) (Nat.le_of_ble_eq_true rfl) (Nat.le_refl _) (Nat.le_refl _) (g := (mkF m 12 #[.val (.ref x), .val (.int (Int32.ofNat i))] [.int (Int32.ofNat i), .ref t])) rfl (by rw [hml]; rfl) c5 (argsL := [.ref t, .int (Int32.ofNat i)]) (rest := []) rfl rfl (by show 2 * 0 + 0 ≤ _; decide) (hb hbytes d12) (⟨rfl, hx.2.2.2.1.mv X4.warmed.alike hh4, (k2 i hi).1, s3.there X4.warmed.alike hh4, rf⟩)
    obtain ⟨rfl, q6⟩ := E6
    rw [chr8_lo8 hr.1 (k2 i hi).2] at g6
    exact ⟨T6, some (.int (f i)), _, _, _, X6, rfl, rfl, rfl, (fun h => by cases h), ⟨rfl, q6.trans hh4⟩, fun fs hl => Steps.trans g6 (X6.ireturnOut hexec hret (narrow_ch hr.1 hr.2) (Or.inr (Or.inr (Or.inr (Or.inl rfl)))) (hb hbytes d15) hl)⟩
  · exact absurd k0 (by decide)
theorem pays {l : Launch} {R : Room} {p : Program} {e : Env} {below : List Frame} {s : State} {sargs : Array Value} {len W : Nat} (x t : Addr) (V : Cell) (n : Nat) (f : Nat → Int32) (z : Int32) (fm : Value) (i : Nat) (htab : tab.before sargs s = true) (hfr : 4 ≤ R.frames) (hlo : W + 53 ≤ R.locals) :
    Back l R p e below s sargs yN len W (fun A₁ a₁ => A₁.cells + 0 ≤ R.cells ∧ A₁.slots + 0 ≤ R.slots ∧ P x t V n f z fm i a₁ A₁.U) (fun A₁ _ v₁ B₁ => E f i v₁ A₁.U B₁.U ∧ B₁.locs = A₁.locs ++ [] ∧ B₁.cells = A₁.cells + 0 ∧ B₁.slots = A₁.slots + 0) :=
  (law l x t V n f z fm i).pays htab hfr (by omega)
end ChN
end StrChars
namespace StrChars.Road
open Jvm Sem ClassFile Op Lib Jvm.Stand Jvm.Free Jvm.Free.XT
open Jvm.Lib.Cold (StaticIs)
/-- the words of String.charAt(int), the Latin-1 road alone -/
abbrev wordsChN : List Jvm.Cond := [.code ChN.yN ChN.yB 2 (some .char), .initialized ST, .fieldLink ST 9 ST "value" "[B", .fieldLink ST 38 ST "COMPACT_STRINGS" "Z", .fieldLink ST 15 ST "coder" "B", .code IsL.yN IsL.yB 1 (some .boolean), .methodLink ST 492 IsL.yN, .declares IsL.yN, .selects ST IsL.yN IsL.yN, .instanceMethod IsL.yN,
  .methodLink ST 495 LChA.yN, .static LChA.yN, .code LChA.yN LChA.yB 2 (some .char), .initialized "java/lang/StringLatin1", .methodLink "java/lang/StringLatin1" 9 JO.Str_checkIndex.yN, .static JO.Str_checkIndex.yN, .code JO.Str_checkIndex.yN JO.Str_checkIndex.yB 2 none,
  .fieldLink ST 1053 "jdk/internal/util/Preconditions" "SIOOBE_FORMATTER" "Ljava/util/function/BiFunction;", .methodLink ST 1059 JC.PreCheck.yN, .static JC.PreCheck.yN, .code JC.PreCheck.yN JC.PreCheck.yB 3 (some .int), .initialized "jdk/internal/util/Preconditions"]
theorem tabChN_of {a : Array Value} {s : State} (h : ∀ w ∈ wordsChN, w.before a s = true) : ChN.tab.before a s = true := by
  have hp : JC.PreCheck.tab.before a s = true := unparts (wk h (.code JC.PreCheck.yN JC.PreCheck.yB 3 (some .int))) (wks h (.initialized JC.PreCheck.yN.cls :: JC.PreCheck.site))
  have qk := consq hp h
  have hk : JO.Str_checkIndex.tab.before a s = true := unparts (wk qk (.code JO.Str_checkIndex.yN JO.Str_checkIndex.yB 2 none)) (wks qk (.initialized JO.Str_checkIndex.yN.cls :: JO.Str_checkIndex.site))
  have ql := consq hk h
  have hl : LChA.tab.before a s = true := unparts (wk ql (.code LChA.yN LChA.yB 2 (some .char))) (wks ql (.initialized LChA.yN.cls :: LChA.site))
  have hi : IsL.tab.before a s = true := unparts (wk h (.code IsL.yN IsL.yB 1 (some .boolean))) (wks h (.initialized IsL.yN.cls :: IsL.site))
  have q := consq hi (consq hl h)
  exact unparts (wk q (.code ChN.yN ChN.yB 2 (some .char))) (wks q (.initialized ChN.yN.cls :: ChN.site))
theorem movedChN {Z s : State} {a0 args : Array Value} (hZ : Z.Warmed39 s.vm) (hw : ∀ d ∈ wordsChN, d.before a0 Z = true) : ∀ d ∈ wordsChN, d.before args s = true := fun d hd => by
  have t : ∀ d ∈ wordsChN, (d.onTables && d.keepsFace) = true := by decide +kernel
  exact RoadKit.mv hZ (hw d hd) (t d hd)
/-- **charAt(i) OF A LATIN-1 STRING**, i < n: the char -/
theorem chN {p : Program} {l : Launch} {e : Env} {R : Room} {s : State} {args : Array Value} {below : List Frame} {len W : Nat} {Z : State} {a0 : Array Value} {h : Heap} (hZ : Z.Warmed39 s.vm) (hw : ∀ d ∈ wordsChN, d.before a0 Z = true) {kI : Nat} (wi : (Jvm.Cond.instantiable ST kI).before a0 Z = true)
    {x t : Addr} {kb : ClassId} {cs : List Int32} {N2 z : Int32} {vs : List Value} {fm : Value} {i : Nat} {j : Int32} (E : RoadKit.Exa Z h x ST) (V : RoadKit.Fld Z h x ST "value" "[B" (.ref t)) (C : RoadKit.Fld Z h x ST "coder" "B" (.int 0)) (K : RoadKit.Arv Z h t kb .byte N2 vs (.int 0)) (hc : CodA cs 0 N2 vs) (hb : ∀ c ∈ cs, ¬ c < 0 ∧ ¬ (65535 : Int32) < c)
    (S : RoadKit.Sta Z h ST "COMPACT_STRINGS" "Z" (.int z)) (hz : ¬ z = 0) (F : RoadKit.Sta Z h "jdk/internal/util/Preconditions" "SIOOBE_FORMATTER" "Ljava/util/function/BiFunction;" fm) (rf : fm.isRef = true) (l2 : cs.length ≤ 4000) (hi : i < cs.length) (hj : j = Int32.ofNat i) (hfr : 4 ≤ R.frames) (hlo : W + 53 ≤ R.locals) :
    Back l R p e below s args (⟨"java/lang/String", "charAt", "(I)C"⟩ : MethodName) len W (fun P a => a = #[.ref x, .int j] ∧ P.U.heap = h ∧ P.cells + 0 ≤ R.cells ∧ P.slots + 0 ≤ R.slots)
      (fun P _ v B => ∃ L, (v = some (.int (cs.getD i 0)) ∧ L = [] ∧ B.U.heap = h) ∧ B.locs = P.locs ++ L ∧ B.cells = P.cells + 0 ∧ B.slots = P.slots + 0) := by
  subst hj
  intro m meth c P g ig mk a X hg hsize hdg hW hn hp'
  obtain ⟨rfl, rfl, r1, r2⟩ := hp'
  have al : Z.vm.Alike P.U.vm := hZ.alike.trans X.warmed.alike
  obtain ⟨A, hx⟩ := txt_of wi al E V C K hc hb l2
  obtain ⟨v, B, X', ⟨⟨hv, hh⟩, hl, hk, hs⟩, st⟩ := ChN.pays x t A cs.length (fun j => cs.getD j 0) z fm i (tabChN_of (movedChN hZ hw)) hfr hlo m meth c P g ig mk _ X hg hsize hdg hW hn ⟨r1, r2, rfl, hx, hi, sta_is al S, hz, sta_is al F, rf⟩
  exact ⟨v, B, X', ⟨[], ⟨hv, rfl, hh⟩, hl, hk, hs⟩, st⟩
/-- what backV says of its String, as the contracts of this text ask it: cs's low bytes, coder 0 -/
theorem codOf {cs : List Int32} {n : Nat} (hn : cs.length = n) (hb : ∀ c ∈ cs, ¬ 255 < c) : CodA cs 0 (Int32.ofNat n) ((cs.map lo8).map Value.int) := Or.inl ⟨rfl, by rw [hn], by simp [List.map_map, Function.comp_def], hb⟩
end StrChars.Road
end Jvm.Pilot.@@N@@
namespace Jvm.Pilot.@@N@@
open Jvm Jvm.ClassFile Sem Op Lib Jvm.Free Jvm.Stand Jvm.LawKit Jvm.RoadKit Bundle Jvm.OwnKit Jvm.Pilot.@@N@@.Jvm.D
/-! plain facts on ints -/
theorem own_and255 (x : Int32) : ∃ k : Nat, k < 256 ∧ x &&& 255 = Int32.ofNat k := by
  have e : (x &&& 255).toBitVec.toNat = x.toBitVec.toNat &&& 255 := by
    show (x.toBitVec &&& (255#32)).toNat = _
    rw [BitVec.toNat_and]; rfl
  refine ⟨x.toBitVec.toNat &&& 255, Nat.lt_of_le_of_lt Nat.and_le_right (by decide), ?_⟩
  apply Int32.toBitVec_inj.mp
  apply BitVec.eq_of_toNat_eq
  rw [e]
  show _ = (BitVec.ofNat 32 _).toNat
  rw [BitVec.toNat_ofNat, Nat.mod_eq_of_lt (Nat.lt_of_le_of_lt Nat.and_le_right (by decide))]
theorem own_ch (x : Int32) : nar .char ((x &&& (255 : Int32)).toUInt32.toUInt16.toUInt32.toInt32) = x &&& 255 := by
  show ((x &&& (255 : Int32)).toUInt32.toUInt16.toUInt32.toInt32).toUInt32.toUInt16.toUInt32.toInt32 = _
  rw [i2c_mask, i2c_mask]
theorem own_b255 (x : Int32) : ¬ (x &&& 255) < 0 ∧ ¬ (255 : Int32) < (x &&& 255) := by
  obtain ⟨k, hk, e⟩ := own_and255 x
  rw [e]
  have t : ∀ k : Fin 256, ¬ Int32.ofNat k.val < 0 ∧ ¬ (255 : Int32) < Int32.ofNat k.val := by decide +kernel
  exact t ⟨k, hk⟩
theorem own_ch255 (x : Int32) : ¬ nar .char ((x &&& (255 : Int32)).toUInt32.toUInt16.toUInt32.toInt32) < 0 ∧ ¬ (255 : Int32) < nar .char ((x &&& (255 : Int32)).toUInt32.toUInt16.toUInt32.toInt32) := by
  rw [own_ch]; exact own_b255 x
theorem own_nar_obj {n : String} {v : Value} (h : v.isRef = true) : narrow (.object n) v = v := by rcases ref_cases h with rfl | ⟨_, rfl⟩ <;> rfl
theorem own_fit_obj {n : String} {v : Value} (h : v.isRef = true) : fits (.object n) v = true := by rcases ref_cases h with rfl | ⟨_, rfl⟩ <;> rfl
theorem own_nar255 (x : Int32) : nar .char (x &&& (255 : Int32)) = x &&& 255 := by
  show (x &&& (255 : Int32)).toUInt32.toUInt16.toUInt32.toInt32 = _
  rw [i2c_mask]
theorem own_narc {c : Int32} (h : ¬ c < 0 ∧ ¬ (255 : Int32) < c) : nar .char c = c := by
  have e : c = c &&& 255 := by
    obtain ⟨k, hk⟩ : ∃ k : Fin 256, c = Int32.ofNat k.val := by
      have h1 := h.1; have h2 := h.2
      rw [Int32.lt_iff_toInt_lt] at h1 h2
      have e0 : (0 : Int32).toInt = 0 := rfl
      have e1 : (255 : Int32).toInt = 255 := rfl
      refine ⟨⟨c.toInt.toNat, by omega⟩, ?_⟩
      apply Int32.toInt_inj.mp
      show c.toInt = (Int32.ofNat c.toInt.toNat).toInt
      rw [Int32.toInt_ofNat_of_lt (by omega)]
      omega
    subst hk
    have t : ∀ k : Fin 256, Int32.ofNat k.val = Int32.ofNat k.val &&& 255 := by decide +kernel
    exact t k
  rw [e]; exact own_nar255 c
theorem own_i2c {c : Int32} (h : ¬ c < 0 ∧ ¬ (255 : Int32) < c) : c.toUInt32.toUInt16.toUInt32.toInt32 = c := own_narc h
theorem own_andk (x : Int32) (m : Nat) (hm : m < 2147483648) : ∃ k : Nat, k ≤ m ∧ x &&& Int32.ofNat m = Int32.ofNat k := by
  have e : (x &&& Int32.ofNat m).toBitVec.toNat = x.toBitVec.toNat &&& m := by
    show (x.toBitVec &&& BitVec.ofNat 32 m).toNat = _
    rw [BitVec.toNat_and, BitVec.toNat_ofNat, Nat.mod_eq_of_lt (by omega)]
  refine ⟨x.toBitVec.toNat &&& m, Nat.and_le_right, ?_⟩
  apply Int32.toBitVec_inj.mp
  apply BitVec.eq_of_toNat_eq
  rw [e]
  show _ = (BitVec.ofNat 32 _).toNat
  rw [BitVec.toNat_ofNat, Nat.mod_eq_of_lt (Nat.lt_of_le_of_lt Nat.and_le_right (by omega))]
theorem own_and3 (x : Int32) : x &&& (3 : Int32) = 0 ∨ x &&& (3 : Int32) = 1 ∨ x &&& (3 : Int32) = 2 ∨ x &&& (3 : Int32) = 3 := by
  obtain ⟨k, hk, e⟩ := own_andk x 3 (by decide)
  have e' : x &&& (3 : Int32) = Int32.ofNat k := e
  rw [e']
  have t : ∀ k : Fin 4, Int32.ofNat k.val = 0 ∨ Int32.ofNat k.val = 1 ∨ Int32.ofNat k.val = 2 ∨ Int32.ofNat k.val = 3 := by decide
  exact t ⟨k, by omega⟩
theorem own_rem3 (x : Int32) : (x &&& (3 : Int32)) - (x &&& (3 : Int32)) / 3 * 3 = 0 ∨ (x &&& (3 : Int32)) - (x &&& (3 : Int32)) / 3 * 3 = 1 ∨ (x &&& (3 : Int32)) - (x &&& (3 : Int32)) / 3 * 3 = 2 := by
  rcases own_and3 x with e | e | e | e <;> rw [e] <;> decide
/-- the chars of mk(n, c0, c1) -/
def own_cs (n c0 c1 : Int32) : List Int32 := if n = 0 then [] else if n = 1 then [c0] else [c0, c1]
theorem own_acmp_ne {v : Value} (h : v.isRef = true) : Jvm.Free.XT.acmp .ne v v = false := by simp [Jvm.Free.XT.acmp]
theorem own_acmp_eq {v : Value} (h : v.isRef = true) : Jvm.Free.XT.acmp .eq v v = true := by simp [Jvm.Free.XT.acmp]
theorem own_narb (x : Int32) : nar .byte (x.toInt8.toInt32) = x.toInt8.toInt32 := by
  show x.toInt8.toInt32.toInt8.toInt32 = _
  rw [Int8.toInt8_toInt32]
/-- the chars of mk(n, c0, c1, c2) -/
def own_cs4 (n c0 c1 c2 : Int32) : List Int32 := if n = 0 then [] else if n = 1 then [c0] else if n = 2 then [c0, c1] else [c0, c1, c2]
theorem own_rem (x m d : Int32) (hm : 0 ≤ m.toInt) (hd : 0 < d.toInt) : 0 ≤ ((x &&& m) - (x &&& m) / d * d).toInt ∧ ((x &&& m) - (x &&& m) / d * d).toInt < d.toInt := by
  rw [irem_eq_mod]
  have h1 := (c_and x m hm).1
  rw [(c_irem (x &&& m) d _ rfl).1 h1]
  exact ⟨Int.emod_nonneg _ (by omega), Int.emod_lt_of_pos _ hd⟩
theorem own_enum3 {r : Int32} (h : 0 ≤ r.toInt ∧ r.toInt < (3 : Int32).toInt) : r = 0 ∨ r = 1 ∨ r = 2 := by
  have e3 : (3 : Int32).toInt = 3 := rfl
  have : r.toInt = 0 ∨ r.toInt = 1 ∨ r.toInt = 2 := by omega
  rcases this with e | e | e
  · exact Or.inl (Int32.toInt_inj.mp e)
  · exact Or.inr (Or.inl (Int32.toInt_inj.mp e))
  · exact Or.inr (Or.inr (Int32.toInt_inj.mp e))
theorem own_enum5 {r : Int32} (h : 0 ≤ r.toInt ∧ r.toInt < (5 : Int32).toInt) : r = 0 ∨ r = 1 ∨ r = 2 ∨ r = 3 ∨ r = 4 := by
  have e3 : (5 : Int32).toInt = 5 := rfl
  have : r.toInt = 0 ∨ r.toInt = 1 ∨ r.toInt = 2 ∨ r.toInt = 3 ∨ r.toInt = 4 := by omega
  rcases this with e | e | e | e | e
  · exact Or.inl (Int32.toInt_inj.mp e)
  · exact Or.inr (Or.inl (Int32.toInt_inj.mp e))
  · exact Or.inr (Or.inr (Or.inl (Int32.toInt_inj.mp e)))
  · exact Or.inr (Or.inr (Or.inr (Or.inl (Int32.toInt_inj.mp e))))
  · exact Or.inr (Or.inr (Or.inr (Or.inr (Int32.toInt_inj.mp e))))
theorem own_enum6 {r : Int32} (h : 0 ≤ r.toInt ∧ r.toInt < (6 : Int32).toInt) : r = 0 ∨ r = 1 ∨ r = 2 ∨ r = 3 ∨ r = 4 ∨ r = 5 := by
  have e3 : (6 : Int32).toInt = 6 := rfl
  have : r.toInt = 0 ∨ r.toInt = 1 ∨ r.toInt = 2 ∨ r.toInt = 3 ∨ r.toInt = 4 ∨ r.toInt = 5 := by omega
  rcases this with e | e | e | e | e | e
  · exact Or.inl (Int32.toInt_inj.mp e)
  · exact Or.inr (Or.inl (Int32.toInt_inj.mp e))
  · exact Or.inr (Or.inr (Or.inl (Int32.toInt_inj.mp e)))
  · exact Or.inr (Or.inr (Or.inr (Or.inl (Int32.toInt_inj.mp e))))
  · exact Or.inr (Or.inr (Or.inr (Or.inr (Or.inl (Int32.toInt_inj.mp e)))))
  · exact Or.inr (Or.inr (Or.inr (Or.inr (Or.inr (Int32.toInt_inj.mp e)))))
theorem own_fldstart {Z : State} {args : Array Value} {t : Term} {a : Addr} {C n d : String} {k : Int32} (ev : t.eval args Z none [] Z = some (.ref a)) (h : (Jvm.Cond.eq (.field t C n d) (.int k)).value args Z none Z [] = some true) : Fld Z Z.heap a C n d (.int k) := by
  have h2 := Cond.eq_int (first := Z) (t := Z) (args := args) (Cond.before_iff.mpr h) rfl
  rw [fld_at ev] at h2
  exact Fld.start h2
theorem own_up {cs : List Int32} (hp : ∀ c ∈ cs, ¬ c < 0 ∧ ¬ (255 : Int32) < c) : ∀ c ∈ cs, ¬ c < 0 ∧ ¬ (65535 : Int32) < c := fun c hc => ⟨(hp c hc).1, fun q => (hp c hc).2 (Int32.lt_trans (by decide) q)⟩
theorem own_n10 : ¬ ((1 : Int32) = 0) := by decide
theorem own_n20 : ¬ ((2 : Int32) = 0) := by decide
theorem own_n21 : ¬ ((2 : Int32) = 1) := by decide
theorem own_n30 : ¬ ((3 : Int32) = 0) := by decide
theorem own_n31 : ¬ ((3 : Int32) = 1) := by decide
theorem own_n32 : ¬ ((3 : Int32) = 2) := by decide
theorem own_bite {P : Prop} [Decidable P] {a b : Int32} (ha : ¬ a < 0 ∧ ¬ (255 : Int32) < a) (hb : ¬ b < 0 ∧ ¬ (255 : Int32) < b) : ¬ (if P then a else b) < 0 ∧ ¬ (255 : Int32) < (if P then a else b) := by
  by_cases h : P
  · rw [if_pos h]; exact ha
  · rw [if_neg h]; exact hb
theorem own_ite4 {P : Prop} [Decidable P] {a b : Int32} (ha : a = 0 ∨ a = 1 ∨ a = 2 ∨ a = 3) (hb : b = 0 ∨ b = 1 ∨ b = 2 ∨ b = 3) : (if P then a else b) = 0 ∨ (if P then a else b) = 1 ∨ (if P then a else b) = 2 ∨ (if P then a else b) = 3 := by
  by_cases h : P
  · rw [if_pos h]; exact ha
  · rw [if_neg h]; exact hb
theorem own_newP {p : Program} {l : Launch} {e : Env} {R : Room} {s : State} {args : Array Value} {below : List Frame} {len W : Nat} {Z : State} {a0 : Array Value} {h : Heap} (hws : ∀ d ∈ StrChars.Road.words, d.before a0 Z = true) {kI : Nat} (wi : (Jvm.Cond.instantiable "java/lang/String" kI).before a0 Z = true) {x b : Addr} {kC : ClassId} {cs : List Int32} {d v0 c0 : Value} {N : Int32} {n : Nat} (hx0 : Z.heap.size ≤ x) (hO : Ext Z.heap h) (E : Exa Z h x "java/lang/String") (V : Fld Z h x "java/lang/String" "value" "[B" v0) (C : Fld Z h x "java/lang/String" "coder" "B" c0) (K : Arv Z h b kC .char N (cs.map Value.int) d) {G1 : Int32} (O2 : Sta Z Z.heap "java/lang/String" "COMPACT_STRINGS" "Z" (.int G1)) (P5 : ¬ G1 = 0)
    (hn : cs.length = n) (hN : N = Int32.ofNat n) (l0 : 0 < n) (l2 : n ≤ 4000) (hp : ∀ c ∈ cs, ¬ c < 0 ∧ ¬ (255 : Int32) < c) (hfr : 4 ≤ R.frames) (hlo : W + 65 ≤ R.locals) :
    Pays l R p e below s args Z (⟨"java/lang/String", "<init>", "([C)V"⟩ : MethodName) len W #[.ref x, .ref b] h 1 n (fun v h' L => v = none ∧ Fr Z.heap.size L ∧ Keep h h' [x] ∧ LStr Z h' x cs) := by
  subst hn hN
  intro vm0 hv
  refine Back.mono (StrChars.Road.backV (s := s.setVm vm0) (W := W) hv hws wi (bs := cs.map fun c => c.toInt8.toInt32) (n0 := Z.heap.size) hx0 hO.1 E V C K (O2.ext hO) P5 rfl rfl l0 l2 hp rfl hfr hlo) (fun _ _ q => q) (fun P a v B _ q => ?_)
  obtain ⟨L, ⟨q1, q2, q3, q4, q5, t, kb, -, -, -, q6, q7⟩, r⟩ := q
  exact ⟨L, ⟨q1, q2, q3, q4, q5, ⟨t, kb, q6, q7⟩, hp, l2⟩, r⟩
theorem own_lenP {p : Program} {l : Launch} {e : Env} {R : Room} {s : State} {args : Array Value} {below : List Frame} {len W : Nat} {Z : State} {a0 : Array Value} {h : Heap} (hws : ∀ d ∈ StrChars.Road.wordsLen, d.before a0 Z = true) {kI : Nat} (wi : (Jvm.Cond.instantiable "java/lang/String" kI).before a0 Z = true) {x : Addr} {cs : List Int32} (S : LStr Z h x cs) {G1 : Int32} (O2 : Sta Z Z.heap "java/lang/String" "COMPACT_STRINGS" "Z" (.int G1)) (P5 : ¬ G1 = 0) (hO : Ext Z.heap h) (hfr : 2 ≤ R.frames) (hlo : W + 25 ≤ R.locals) :
    Pays l R p e below s args Z (⟨"java/lang/String", "length", "()I"⟩ : MethodName) len W #[.ref x] h 0 0 (fun v h' L => v = some (.int (Int32.ofNat cs.length)) ∧ L = [] ∧ h' = h) := by
  obtain ⟨Es, Cs, ⟨t, kb, Vs, Ks⟩, hp, hl⟩ := S
  exact fun vm0 hv => StrChars.Road.lenW (s := s.setVm vm0) (W := W) hv hws wi Es Vs Cs Ks (StrChars.Road.codOf rfl (fun c hc => (hp c hc).2)) (own_up hp) (O2.ext hO) P5 hl hfr hlo
theorem own_chP {p : Program} {l : Launch} {e : Env} {R : Room} {s : State} {args : Array Value} {below : List Frame} {len W : Nat} {Z : State} {a0 : Array Value} {h : Heap} (hws : ∀ d ∈ StrChars.Road.wordsChN, d.before a0 Z = true) {kI : Nat} (wi : (Jvm.Cond.instantiable "java/lang/String" kI).before a0 Z = true) {x : Addr} {cs : List Int32} (S : LStr Z h x cs) {G1 : Int32} (O2 : Sta Z Z.heap "java/lang/String" "COMPACT_STRINGS" "Z" (.int G1)) (P5 : ¬ G1 = 0) (hO : Ext Z.heap h) {G3 : Value} (O4 : Sta Z Z.heap "jdk/internal/util/Preconditions" "SIOOBE_FORMATTER" "Ljava/util/function/BiFunction;" G3) (rG3 : G3.isRef = true) {i : Nat} {j : Int32} (hi : i < cs.length) (hj : j = Int32.ofNat i) (hfr : 4 ≤ R.frames) (hlo : W + 53 ≤ R.locals) :
    Pays l R p e below s args Z (⟨"java/lang/String", "charAt", "(I)C"⟩ : MethodName) len W #[.ref x, .int j] h 0 0 (fun v h' L => v = some (.int (cs.getD i 0)) ∧ L = [] ∧ h' = h) := by
  obtain ⟨Es, Cs, ⟨t, kb, Vs, Ks⟩, hp, hl⟩ := S
  exact fun vm0 hv => StrChars.Road.chN (s := s.setVm vm0) (W := W) hv hws wi Es Vs Cs Ks (StrChars.Road.codOf rfl (fun c hc => (hp c hc).2)) (own_up hp) (O2.ext hO) P5 (O4.ext hO) rG3 hl hi hj hfr hlo
theorem own_empP {p : Program} {l : Launch} {e : Env} {R : Room} {s : State} {args : Array Value} {below : List Frame} {len W : Nat} {Z : State} {a0 : Array Value} {h : Heap} (hws : ∀ d ∈ StrChars.Road.wordsEmp, d.before a0 Z = true) {kI : Nat} (wi : (Jvm.Cond.instantiable "java/lang/String" kI).before a0 Z = true) {x : Addr} {cs : List Int32} (S : LStr Z h x cs) (hfr : 1 ≤ R.frames) (hlo : W + 12 ≤ R.locals) :
    Pays l R p e below s args Z (⟨"java/lang/String", "isEmpty", "()Z"⟩ : MethodName) len W #[.ref x] h 0 0 (fun v h' L => v = some (.int (if cs.length = 0 then 1 else 0)) ∧ L = [] ∧ h' = h) := by
  obtain ⟨Es, Cs, ⟨t, kb, Vs, Ks⟩, hp, hl⟩ := S
  exact fun vm0 hv => StrChars.Road.empW (s := s.setVm vm0) (W := W) hv hws wi Es Vs Cs Ks (StrChars.Road.codOf rfl (fun c hc => (hp c hc).2)) (own_up hp) hl hfr hlo
theorem w_0 {Z : State} {a0 : Array Value} (hw : ∀ d ∈ tables_1, d.before a0 Z = true) : (Jvm.Cond.constant "com/example/matchmaker/matchmaker/registry/ServiceIdExtensionOfPinLaw" (7 : Nat) (2147483647 : Int32)).before a0 Z = true := hw _ (List.mem_of_getElem? (i := 0) rfl)
theorem w_1 {Z : State} {a0 : Array Value} (hw : ∀ d ∈ tables_1, d.before a0 Z = true) : (Jvm.Cond.methodLink "com/example/matchmaker/matchmaker/registry/ServiceIdExtensionOfPinLaw" (8 : Nat) ({ cls := "com/example/matchmaker/matchmaker/registry/ServiceIdExtensionOfPinLaw", name := "ch", desc := "(I)C" } : Jvm.MethodName)).before a0 Z = true := hw _ (List.mem_of_getElem? (i := 1) rfl)
theorem w_2 {Z : State} {a0 : Array Value} (hw : ∀ d ∈ tables_1, d.before a0 Z = true) : (Jvm.Cond.static ({ cls := "com/example/matchmaker/matchmaker/registry/ServiceIdExtensionOfPinLaw", name := "ch", desc := "(I)C" } : Jvm.MethodName)).before a0 Z = true := hw _ (List.mem_of_getElem? (i := 2) rfl)
theorem w_3 {Z : State} {a0 : Array Value} (hw : ∀ d ∈ tables_1, d.before a0 Z = true) : (Jvm.Cond.initialized "com/example/matchmaker/matchmaker/registry/ServiceIdExtensionOfPinLaw").before a0 Z = true := hw _ (List.mem_of_getElem? (i := 3) rfl)
theorem w_4 {Z : State} {a0 : Array Value} (hw : ∀ d ∈ tables_1, d.before a0 Z = true) : (Jvm.Cond.code ({ cls := "com/example/matchmaker/matchmaker/registry/ServiceIdExtensionOfPinLaw", name := "ch", desc := "(I)C" } : Jvm.MethodName) method_2_code (2 : Nat) (Option.some Jvm.ClassFile.FieldType.char)).before a0 Z = true := hw _ (List.mem_of_getElem? (i := 4) rfl)
theorem w_5 {Z : State} {a0 : Array Value} (hw : ∀ d ∈ tables_1, d.before a0 Z = true) : (Jvm.Cond.classLink "com/example/matchmaker/matchmaker/registry/ServiceIdExtensionOfPinLaw" (14 : Nat) "java/lang/String").before a0 Z = true := hw _ (List.mem_of_getElem? (i := 5) rfl)
theorem w_6 {Z : State} {a0 : Array Value} (hw : ∀ d ∈ tables_1, d.before a0 Z = true) : (Jvm.Cond.instantiable "java/lang/String" (4 : Nat)).before a0 Z = true := hw _ (List.mem_of_getElem? (i := 6) rfl)
theorem w_7 {Z : State} {a0 : Array Value} (hw : ∀ d ∈ tables_1, d.before a0 Z = true) : (Jvm.Cond.initialized "java/lang/String").before a0 Z = true := hw _ (List.mem_of_getElem? (i := 7) rfl)
theorem w_8 {Z : State} {a0 : Array Value} (hw : ∀ d ∈ tables_1, d.before a0 Z = true) : (Jvm.Cond.arrayClass Jvm.ClassFile.FieldType.char).before a0 Z = true := hw _ (List.mem_of_getElem? (i := 8) rfl)
theorem w_9 {Z : State} {a0 : Array Value} (hw : ∀ d ∈ tables_1, d.before a0 Z = true) : (Jvm.Cond.methodLink "com/example/matchmaker/matchmaker/registry/ServiceIdExtensionOfPinLaw" (16 : Nat) ({ cls := "java/lang/String", name := "<init>", desc := "([C)V" } : Jvm.MethodName)).before a0 Z = true := hw _ (List.mem_of_getElem? (i := 9) rfl)
theorem w_10 {Z : State} {a0 : Array Value} (hw : ∀ d ∈ tables_1, d.before a0 Z = true) : (Jvm.Cond.instanceMethod ({ cls := "java/lang/String", name := "<init>", desc := "([C)V" } : Jvm.MethodName)).before a0 Z = true := hw _ (List.mem_of_getElem? (i := 10) rfl)
theorem w_11 {Z : State} {a0 : Array Value} (hw : ∀ d ∈ tables_1, d.before a0 Z = true) : (Jvm.Cond.code ({ cls := "java/lang/String", name := "<init>", desc := "([C)V" } : Jvm.MethodName) jdk_42_method_3_code (2 : Nat) (Option.none : Option Jvm.ClassFile.FieldType)).before a0 Z = true := hw _ (List.mem_of_getElem? (i := 11) rfl)
theorem w_12 {Z : State} {a0 : Array Value} (hw : ∀ d ∈ tables_1, d.before a0 Z = true) : (Jvm.Cond.methodLink "java/lang/String" (27 : Nat) ({ cls := "java/lang/String", name := "<init>", desc := "([CIILjava/lang/Void;)V" } : Jvm.MethodName)).before a0 Z = true := hw _ (List.mem_of_getElem? (i := 12) rfl)
theorem w_13 {Z : State} {a0 : Array Value} (hw : ∀ d ∈ tables_1, d.before a0 Z = true) : (Jvm.Cond.instanceMethod ({ cls := "java/lang/String", name := "<init>", desc := "([CIILjava/lang/Void;)V" } : Jvm.MethodName)).before a0 Z = true := hw _ (List.mem_of_getElem? (i := 13) rfl)
theorem w_15 {Z : State} {a0 : Array Value} (hw : ∀ d ∈ tables_1, d.before a0 Z = true) : (Jvm.Cond.code ({ cls := "java/lang/String", name := "<init>", desc := "([CIILjava/lang/Void;)V" } : Jvm.MethodName) jdk_42_method_149_code (6 : Nat) (Option.none : Option Jvm.ClassFile.FieldType)).before a0 Z = true := hw _ (List.mem_of_getElem? (i := 15) rfl)
theorem w_16 {Z : State} {a0 : Array Value} (hw : ∀ d ∈ tables_1, d.before a0 Z = true) : (Jvm.Cond.methodLink "java/lang/String" (1 : Nat) ({ cls := "java/lang/Object", name := "<init>", desc := "()V" } : Jvm.MethodName)).before a0 Z = true := hw _ (List.mem_of_getElem? (i := 16) rfl)
theorem w_17 {Z : State} {a0 : Array Value} (hw : ∀ d ∈ tables_1, d.before a0 Z = true) : (Jvm.Cond.instanceMethod ({ cls := "java/lang/Object", name := "<init>", desc := "()V" } : Jvm.MethodName)).before a0 Z = true := hw _ (List.mem_of_getElem? (i := 17) rfl)
theorem w_18 {Z : State} {a0 : Array Value} (hw : ∀ d ∈ tables_1, d.before a0 Z = true) : (Jvm.Cond.code ({ cls := "java/lang/Object", name := "<init>", desc := "()V" } : Jvm.MethodName) object_method_1_code (1 : Nat) (Option.none : Option Jvm.ClassFile.FieldType)).before a0 Z = true := hw _ (List.mem_of_getElem? (i := 18) rfl)
theorem w_19 {Z : State} {a0 : Array Value} (hw : ∀ d ∈ tables_1, d.before a0 Z = true) : (Jvm.Cond.stringLink "java/lang/String" (7 : Nat) "").before a0 Z = true := hw _ (List.mem_of_getElem? (i := 19) rfl)
theorem w_20 {Z : State} {a0 : Array Value} (hw : ∀ d ∈ tables_1, d.before a0 Z = true) : (Jvm.Cond.arrayClass Jvm.ClassFile.FieldType.byte).before a0 Z = true := hw _ (List.mem_of_getElem? (i := 20) rfl)
theorem w_21 {Z : State} {a0 : Array Value} (hw : ∀ d ∈ tables_1, d.before a0 Z = true) : (Jvm.Cond.laysFinal "java/lang/String" "java/lang/String" "value" "[B").before a0 Z = true := hw _ (List.mem_of_getElem? (i := 21) rfl)
theorem w_22 {Z : State} {a0 : Array Value} (hw : ∀ d ∈ tables_1, d.before a0 Z = true) : (Jvm.Cond.laysFinal "java/lang/String" "java/lang/String" "coder" "B").before a0 Z = true := hw _ (List.mem_of_getElem? (i := 22) rfl)
theorem w_25 {Z : State} {a0 : Array Value} (hw : ∀ d ∈ tables_1, d.before a0 Z = true) : (Jvm.Cond.fieldLink "java/lang/String" (9 : Nat) "java/lang/String" "value" "[B").before a0 Z = true := hw _ (List.mem_of_getElem? (i := 25) rfl)
theorem w_26 {Z : State} {a0 : Array Value} (hw : ∀ d ∈ tables_1, d.before a0 Z = true) : (Jvm.Cond.fieldLink "java/lang/String" (15 : Nat) "java/lang/String" "coder" "B").before a0 Z = true := hw _ (List.mem_of_getElem? (i := 26) rfl)
theorem w_27 {Z : State} {a0 : Array Value} (hw : ∀ d ∈ tables_1, d.before a0 Z = true) : (Jvm.Cond.methodLink "com/example/matchmaker/matchmaker/registry/ServiceIdExtensionOfPinLaw" (19 : Nat) ({ cls := "com/example/matchmaker/matchmaker/registry/ServiceId", name := "extensionOf", desc := "(Ljava/lang/String;)Ljava/lang/String;" } : Jvm.MethodName)).before a0 Z = true := hw _ (List.mem_of_getElem? (i := 27) rfl)
theorem w_28 {Z : State} {a0 : Array Value} (hw : ∀ d ∈ tables_1, d.before a0 Z = true) : (Jvm.Cond.static ({ cls := "com/example/matchmaker/matchmaker/registry/ServiceId", name := "extensionOf", desc := "(Ljava/lang/String;)Ljava/lang/String;" } : Jvm.MethodName)).before a0 Z = true := hw _ (List.mem_of_getElem? (i := 28) rfl)
theorem w_29 {Z : State} {a0 : Array Value} (hw : ∀ d ∈ tables_1, d.before a0 Z = true) : (Jvm.Cond.initialized "com/example/matchmaker/matchmaker/registry/ServiceId").before a0 Z = true := hw _ (List.mem_of_getElem? (i := 29) rfl)
theorem w_30 {Z : State} {a0 : Array Value} (hw : ∀ d ∈ tables_1, d.before a0 Z = true) : (Jvm.Cond.code ({ cls := "com/example/matchmaker/matchmaker/registry/ServiceId", name := "extensionOf", desc := "(Ljava/lang/String;)Ljava/lang/String;" } : Jvm.MethodName) prog_36_method_4_code (3 : Nat) (Option.some (Jvm.ClassFile.FieldType.object "java/lang/String"))).before a0 Z = true := hw _ (List.mem_of_getElem? (i := 30) rfl)
theorem w_31 {Z : State} {a0 : Array Value} (hw : ∀ d ∈ tables_1, d.before a0 Z = true) : (Jvm.Cond.methodLink "com/example/matchmaker/matchmaker/registry/ServiceId" (103 : Nat) ({ cls := "com/example/matchmaker/matchmaker/registry/ServiceId", name := "extensionDot", desc := "(Ljava/lang/String;)I" } : Jvm.MethodName)).before a0 Z = true := hw _ (List.mem_of_getElem? (i := 31) rfl)
theorem w_32 {Z : State} {a0 : Array Value} (hw : ∀ d ∈ tables_1, d.before a0 Z = true) : (Jvm.Cond.static ({ cls := "com/example/matchmaker/matchmaker/registry/ServiceId", name := "extensionDot", desc := "(Ljava/lang/String;)I" } : Jvm.MethodName)).before a0 Z = true := hw _ (List.mem_of_getElem? (i := 32) rfl)
theorem w_33 {Z : State} {a0 : Array Value} (hw : ∀ d ∈ tables_1, d.before a0 Z = true) : (Jvm.Cond.code ({ cls := "com/example/matchmaker/matchmaker/registry/ServiceId", name := "extensionDot", desc := "(Ljava/lang/String;)I" } : Jvm.MethodName) prog_36_method_6_code (1 : Nat) (Option.some Jvm.ClassFile.FieldType.int)).before a0 Z = true := hw _ (List.mem_of_getElem? (i := 33) rfl)
theorem w_34 {Z : State} {a0 : Array Value} (hw : ∀ d ∈ tables_1, d.before a0 Z = true) : (Jvm.Cond.methodLink "com/example/matchmaker/matchmaker/registry/ServiceId" (93 : Nat) ({ cls := "java/lang/String", name := "lastIndexOf", desc := "(I)I" } : Jvm.MethodName)).before a0 Z = true := hw _ (List.mem_of_getElem? (i := 34) rfl)
theorem w_35 {Z : State} {a0 : Array Value} (hw : ∀ d ∈ tables_1, d.before a0 Z = true) : (Jvm.Cond.declares ({ cls := "java/lang/String", name := "lastIndexOf", desc := "(I)I" } : Jvm.MethodName)).before a0 Z = true := hw _ (List.mem_of_getElem? (i := 35) rfl)
theorem w_36 {Z : State} {a0 : Array Value} (hw : ∀ d ∈ tables_1, d.before a0 Z = true) : (Jvm.Cond.instanceMethod ({ cls := "java/lang/String", name := "lastIndexOf", desc := "(I)I" } : Jvm.MethodName)).before a0 Z = true := hw _ (List.mem_of_getElem? (i := 36) rfl)
theorem w_37 {Z : State} {a0 : Array Value} (hw : ∀ d ∈ tables_1, d.before a0 Z = true) : (Jvm.Cond.selects "java/lang/String" ({ cls := "java/lang/String", name := "lastIndexOf", desc := "(I)I" } : Jvm.MethodName) ({ cls := "java/lang/String", name := "lastIndexOf", desc := "(I)I" } : Jvm.MethodName)).before a0 Z = true := hw _ (List.mem_of_getElem? (i := 37) rfl)
theorem w_38 {Z : State} {a0 : Array Value} (hw : ∀ d ∈ tables_1, d.before a0 Z = true) : (Jvm.Cond.code ({ cls := "java/lang/String", name := "lastIndexOf", desc := "(I)I" } : Jvm.MethodName) jdk_42_method_82_code (2 : Nat) (Option.some Jvm.ClassFile.FieldType.int)).before a0 Z = true := hw _ (List.mem_of_getElem? (i := 38) rfl)
theorem w_39 {Z : State} {a0 : Array Value} (hw : ∀ d ∈ tables_1, d.before a0 Z = true) : (Jvm.Cond.methodLink "java/lang/String" (505 : Nat) ({ cls := "java/lang/String", name := "length", desc := "()I" } : Jvm.MethodName)).before a0 Z = true := hw _ (List.mem_of_getElem? (i := 39) rfl)
theorem w_40 {Z : State} {a0 : Array Value} (hw : ∀ d ∈ tables_1, d.before a0 Z = true) : (Jvm.Cond.declares ({ cls := "java/lang/String", name := "length", desc := "()I" } : Jvm.MethodName)).before a0 Z = true := hw _ (List.mem_of_getElem? (i := 40) rfl)
theorem w_41 {Z : State} {a0 : Array Value} (hw : ∀ d ∈ tables_1, d.before a0 Z = true) : (Jvm.Cond.instanceMethod ({ cls := "java/lang/String", name := "length", desc := "()I" } : Jvm.MethodName)).before a0 Z = true := hw _ (List.mem_of_getElem? (i := 41) rfl)
theorem w_42 {Z : State} {a0 : Array Value} (hw : ∀ d ∈ tables_1, d.before a0 Z = true) : (Jvm.Cond.selects "java/lang/String" ({ cls := "java/lang/String", name := "length", desc := "()I" } : Jvm.MethodName) ({ cls := "java/lang/String", name := "length", desc := "()I" } : Jvm.MethodName)).before a0 Z = true := hw _ (List.mem_of_getElem? (i := 42) rfl)
theorem w_49 {Z : State} {a0 : Array Value} (hw : ∀ d ∈ tables_1, d.before a0 Z = true) : (Jvm.Cond.fieldLink "java/lang/String" (38 : Nat) "java/lang/String" "COMPACT_STRINGS" "Z").before a0 Z = true := hw _ (List.mem_of_getElem? (i := 49) rfl)
theorem w_50 {Z : State} {a0 : Array Value} (hw : ∀ d ∈ tables_1, d.before a0 Z = true) : (Jvm.Cond.methodLink "java/lang/String" (641 : Nat) ({ cls := "java/lang/String", name := "lastIndexOf", desc := "(II)I" } : Jvm.MethodName)).before a0 Z = true := hw _ (List.mem_of_getElem? (i := 50) rfl)
theorem w_51 {Z : State} {a0 : Array Value} (hw : ∀ d ∈ tables_1, d.before a0 Z = true) : (Jvm.Cond.declares ({ cls := "java/lang/String", name := "lastIndexOf", desc := "(II)I" } : Jvm.MethodName)).before a0 Z = true := hw _ (List.mem_of_getElem? (i := 51) rfl)
theorem w_52 {Z : State} {a0 : Array Value} (hw : ∀ d ∈ tables_1, d.before a0 Z = true) : (Jvm.Cond.instanceMethod ({ cls := "java/lang/String", name := "lastIndexOf", desc := "(II)I" } : Jvm.MethodName)).before a0 Z = true := hw _ (List.mem_of_getElem? (i := 52) rfl)
theorem w_53 {Z : State} {a0 : Array Value} (hw : ∀ d ∈ tables_1, d.before a0 Z = true) : (Jvm.Cond.selects "java/lang/String" ({ cls := "java/lang/String", name := "lastIndexOf", desc := "(II)I" } : Jvm.MethodName) ({ cls := "java/lang/String", name := "lastIndexOf", desc := "(II)I" } : Jvm.MethodName)).before a0 Z = true := hw _ (List.mem_of_getElem? (i := 53) rfl)
theorem w_54 {Z : State} {a0 : Array Value} (hw : ∀ d ∈ tables_1, d.before a0 Z = true) : (Jvm.Cond.code ({ cls := "java/lang/String", name := "lastIndexOf", desc := "(II)I" } : Jvm.MethodName) jdk_42_method_83_code (3 : Nat) (Option.some Jvm.ClassFile.FieldType.int)).before a0 Z = true := hw _ (List.mem_of_getElem? (i := 54) rfl)
theorem w_55 {Z : State} {a0 : Array Value} (hw : ∀ d ∈ tables_1, d.before a0 Z = true) : (Jvm.Cond.methodLink "java/lang/String" (492 : Nat) ({ cls := "java/lang/String", name := "isLatin1", desc := "()Z" } : Jvm.MethodName)).before a0 Z = true := hw _ (List.mem_of_getElem? (i := 55) rfl)
theorem w_56 {Z : State} {a0 : Array Value} (hw : ∀ d ∈ tables_1, d.before a0 Z = true) : (Jvm.Cond.declares ({ cls := "java/lang/String", name := "isLatin1", desc := "()Z" } : Jvm.MethodName)).before a0 Z = true := hw _ (List.mem_of_getElem? (i := 56) rfl)
theorem w_57 {Z : State} {a0 : Array Value} (hw : ∀ d ∈ tables_1, d.before a0 Z = true) : (Jvm.Cond.instanceMethod ({ cls := "java/lang/String", name := "isLatin1", desc := "()Z" } : Jvm.MethodName)).before a0 Z = true := hw _ (List.mem_of_getElem? (i := 57) rfl)
theorem w_58 {Z : State} {a0 : Array Value} (hw : ∀ d ∈ tables_1, d.before a0 Z = true) : (Jvm.Cond.selects "java/lang/String" ({ cls := "java/lang/String", name := "isLatin1", desc := "()Z" } : Jvm.MethodName) ({ cls := "java/lang/String", name := "isLatin1", desc := "()Z" } : Jvm.MethodName)).before a0 Z = true := hw _ (List.mem_of_getElem? (i := 58) rfl)
theorem w_59 {Z : State} {a0 : Array Value} (hw : ∀ d ∈ tables_1, d.before a0 Z = true) : (Jvm.Cond.code ({ cls := "java/lang/String", name := "isLatin1", desc := "()Z" } : Jvm.MethodName) jdk_42_method_154_code (1 : Nat) (Option.some Jvm.ClassFile.FieldType.boolean)).before a0 Z = true := hw _ (List.mem_of_getElem? (i := 59) rfl)
theorem w_60 {Z : State} {a0 : Array Value} (hw : ∀ d ∈ tables_1, d.before a0 Z = true) : (Jvm.Cond.methodLink "java/lang/String" (644 : Nat) ({ cls := "java/lang/StringLatin1", name := "lastIndexOf", desc := "([BII)I" } : Jvm.MethodName)).before a0 Z = true := hw _ (List.mem_of_getElem? (i := 60) rfl)
theorem w_61 {Z : State} {a0 : Array Value} (hw : ∀ d ∈ tables_1, d.before a0 Z = true) : (Jvm.Cond.static ({ cls := "java/lang/StringLatin1", name := "lastIndexOf", desc := "([BII)I" } : Jvm.MethodName)).before a0 Z = true := hw _ (List.mem_of_getElem? (i := 61) rfl)
theorem w_62 {Z : State} {a0 : Array Value} (hw : ∀ d ∈ tables_1, d.before a0 Z = true) : (Jvm.Cond.initialized "java/lang/StringLatin1").before a0 Z = true := hw _ (List.mem_of_getElem? (i := 62) rfl)
theorem w_63 {Z : State} {a0 : Array Value} (hw : ∀ d ∈ tables_1, d.before a0 Z = true) : (Jvm.Cond.code ({ cls := "java/lang/StringLatin1", name := "lastIndexOf", desc := "([BII)I" } : Jvm.MethodName) jdk_43_method_27_code (4 : Nat) (Option.some Jvm.ClassFile.FieldType.int)).before a0 Z = true := hw _ (List.mem_of_getElem? (i := 63) rfl)
theorem w_64 {Z : State} {a0 : Array Value} (hw : ∀ d ∈ tables_1, d.before a0 Z = true) : (Jvm.Cond.methodLink "java/lang/StringLatin1" (88 : Nat) ({ cls := "java/lang/StringLatin1", name := "canEncode", desc := "(I)Z" } : Jvm.MethodName)).before a0 Z = true := hw _ (List.mem_of_getElem? (i := 64) rfl)
theorem w_65 {Z : State} {a0 : Array Value} (hw : ∀ d ∈ tables_1, d.before a0 Z = true) : (Jvm.Cond.static ({ cls := "java/lang/StringLatin1", name := "canEncode", desc := "(I)Z" } : Jvm.MethodName)).before a0 Z = true := hw _ (List.mem_of_getElem? (i := 65) rfl)
theorem w_66 {Z : State} {a0 : Array Value} (hw : ∀ d ∈ tables_1, d.before a0 Z = true) : (Jvm.Cond.code ({ cls := "java/lang/StringLatin1", name := "canEncode", desc := "(I)Z" } : Jvm.MethodName) jdk_43_method_4_code (1 : Nat) (Option.some Jvm.ClassFile.FieldType.boolean)).before a0 Z = true := hw _ (List.mem_of_getElem? (i := 66) rfl)
theorem w_67 {Z : State} {a0 : Array Value} (hw : ∀ d ∈ tables_1, d.before a0 Z = true) : (Jvm.Cond.methodLink "java/lang/StringLatin1" (38 : Nat) ({ cls := "java/lang/Math", name := "min", desc := "(II)I" } : Jvm.MethodName)).before a0 Z = true := hw _ (List.mem_of_getElem? (i := 67) rfl)
theorem w_68 {Z : State} {a0 : Array Value} (hw : ∀ d ∈ tables_1, d.before a0 Z = true) : (Jvm.Cond.static ({ cls := "java/lang/Math", name := "min", desc := "(II)I" } : Jvm.MethodName)).before a0 Z = true := hw _ (List.mem_of_getElem? (i := 68) rfl)
theorem w_69 {Z : State} {a0 : Array Value} (hw : ∀ d ∈ tables_1, d.before a0 Z = true) : (Jvm.Cond.initialized "java/lang/Math").before a0 Z = true := hw _ (List.mem_of_getElem? (i := 69) rfl)
theorem w_70 {Z : State} {a0 : Array Value} (hw : ∀ d ∈ tables_1, d.before a0 Z = true) : (Jvm.Cond.code ({ cls := "java/lang/Math", name := "min", desc := "(II)I" } : Jvm.MethodName) jdk_29_method_69_code (2 : Nat) (Option.some Jvm.ClassFile.FieldType.int)).before a0 Z = true := hw _ (List.mem_of_getElem? (i := 70) rfl)
theorem w_71 {Z : State} {a0 : Array Value} (hw : ∀ d ∈ tables_1, d.before a0 Z = true) : (Jvm.Cond.stringLink "com/example/matchmaker/matchmaker/registry/ServiceId" (101 : Nat) "").before a0 Z = true := hw _ (List.mem_of_getElem? (i := 71) rfl)
theorem w_72 {Z : State} {a0 : Array Value} (hw : ∀ d ∈ tables_1, d.before a0 Z = true) : (Jvm.Cond.methodLink "com/example/matchmaker/matchmaker/registry/ServiceIdExtensionOfPinLaw" (25 : Nat) ({ cls := "java/lang/String", name := "isEmpty", desc := "()Z" } : Jvm.MethodName)).before a0 Z = true := hw _ (List.mem_of_getElem? (i := 72) rfl)
theorem w_73 {Z : State} {a0 : Array Value} (hw : ∀ d ∈ tables_1, d.before a0 Z = true) : (Jvm.Cond.declares ({ cls := "java/lang/String", name := "isEmpty", desc := "()Z" } : Jvm.MethodName)).before a0 Z = true := hw _ (List.mem_of_getElem? (i := 73) rfl)
theorem w_74 {Z : State} {a0 : Array Value} (hw : ∀ d ∈ tables_1, d.before a0 Z = true) : (Jvm.Cond.instanceMethod ({ cls := "java/lang/String", name := "isEmpty", desc := "()Z" } : Jvm.MethodName)).before a0 Z = true := hw _ (List.mem_of_getElem? (i := 74) rfl)
theorem w_75 {Z : State} {a0 : Array Value} (hw : ∀ d ∈ tables_1, d.before a0 Z = true) : (Jvm.Cond.selects "java/lang/String" ({ cls := "java/lang/String", name := "isEmpty", desc := "()Z" } : Jvm.MethodName) ({ cls := "java/lang/String", name := "isEmpty", desc := "()Z" } : Jvm.MethodName)).before a0 Z = true := hw _ (List.mem_of_getElem? (i := 75) rfl)
theorem w_87 {Z : State} {a0 : Array Value} (hw : ∀ d ∈ tables_1, d.before a0 Z = true) : (Jvm.Cond.methodLink "com/example/matchmaker/matchmaker/registry/ServiceId" (107 : Nat) ({ cls := "java/lang/String", name := "substring", desc := "(I)Ljava/lang/String;" } : Jvm.MethodName)).before a0 Z = true := hw _ (List.mem_of_getElem? (i := 87) rfl)
theorem w_88 {Z : State} {a0 : Array Value} (hw : ∀ d ∈ tables_1, d.before a0 Z = true) : (Jvm.Cond.declares ({ cls := "java/lang/String", name := "substring", desc := "(I)Ljava/lang/String;" } : Jvm.MethodName)).before a0 Z = true := hw _ (List.mem_of_getElem? (i := 88) rfl)
theorem w_89 {Z : State} {a0 : Array Value} (hw : ∀ d ∈ tables_1, d.before a0 Z = true) : (Jvm.Cond.instanceMethod ({ cls := "java/lang/String", name := "substring", desc := "(I)Ljava/lang/String;" } : Jvm.MethodName)).before a0 Z = true := hw _ (List.mem_of_getElem? (i := 89) rfl)
theorem w_90 {Z : State} {a0 : Array Value} (hw : ∀ d ∈ tables_1, d.before a0 Z = true) : (Jvm.Cond.selects "java/lang/String" ({ cls := "java/lang/String", name := "substring", desc := "(I)Ljava/lang/String;" } : Jvm.MethodName) ({ cls := "java/lang/String", name := "substring", desc := "(I)Ljava/lang/String;" } : Jvm.MethodName)).before a0 Z = true := hw _ (List.mem_of_getElem? (i := 90) rfl)
theorem w_91 {Z : State} {a0 : Array Value} (hw : ∀ d ∈ tables_1, d.before a0 Z = true) : (Jvm.Cond.code ({ cls := "java/lang/String", name := "substring", desc := "(I)Ljava/lang/String;" } : Jvm.MethodName) jdk_42_method_91_code (2 : Nat) (Option.some (Jvm.ClassFile.FieldType.object "java/lang/String"))).before a0 Z = true := hw _ (List.mem_of_getElem? (i := 91) rfl)
theorem w_92 {Z : State} {a0 : Array Value} (hw : ∀ d ∈ tables_1, d.before a0 Z = true) : (Jvm.Cond.methodLink "java/lang/String" (681 : Nat) ({ cls := "java/lang/String", name := "substring", desc := "(II)Ljava/lang/String;" } : Jvm.MethodName)).before a0 Z = true := hw _ (List.mem_of_getElem? (i := 92) rfl)
theorem w_93 {Z : State} {a0 : Array Value} (hw : ∀ d ∈ tables_1, d.before a0 Z = true) : (Jvm.Cond.declares ({ cls := "java/lang/String", name := "substring", desc := "(II)Ljava/lang/String;" } : Jvm.MethodName)).before a0 Z = true := hw _ (List.mem_of_getElem? (i := 93) rfl)
theorem w_94 {Z : State} {a0 : Array Value} (hw : ∀ d ∈ tables_1, d.before a0 Z = true) : (Jvm.Cond.instanceMethod ({ cls := "java/lang/String", name := "substring", desc := "(II)Ljava/lang/String;" } : Jvm.MethodName)).before a0 Z = true := hw _ (List.mem_of_getElem? (i := 94) rfl)
theorem w_95 {Z : State} {a0 : Array Value} (hw : ∀ d ∈ tables_1, d.before a0 Z = true) : (Jvm.Cond.selects "java/lang/String" ({ cls := "java/lang/String", name := "substring", desc := "(II)Ljava/lang/String;" } : Jvm.MethodName) ({ cls := "java/lang/String", name := "substring", desc := "(II)Ljava/lang/String;" } : Jvm.MethodName)).before a0 Z = true := hw _ (List.mem_of_getElem? (i := 95) rfl)
theorem w_96 {Z : State} {a0 : Array Value} (hw : ∀ d ∈ tables_1, d.before a0 Z = true) : (Jvm.Cond.code ({ cls := "java/lang/String", name := "substring", desc := "(II)Ljava/lang/String;" } : Jvm.MethodName) jdk_42_method_92_code (5 : Nat) (Option.some (Jvm.ClassFile.FieldType.object "java/lang/String"))).before a0 Z = true := hw _ (List.mem_of_getElem? (i := 96) rfl)
theorem w_97 {Z : State} {a0 : Array Value} (hw : ∀ d ∈ tables_1, d.before a0 Z = true) : (Jvm.Cond.methodLink "java/lang/String" (521 : Nat) ({ cls := "java/lang/String", name := "checkBoundsBeginEnd", desc := "(III)V" } : Jvm.MethodName)).before a0 Z = true := hw _ (List.mem_of_getElem? (i := 97) rfl)
theorem w_98 {Z : State} {a0 : Array Value} (hw : ∀ d ∈ tables_1, d.before a0 Z = true) : (Jvm.Cond.static ({ cls := "java/lang/String", name := "checkBoundsBeginEnd", desc := "(III)V" } : Jvm.MethodName)).before a0 Z = true := hw _ (List.mem_of_getElem? (i := 98) rfl)
theorem w_99 {Z : State} {a0 : Array Value} (hw : ∀ d ∈ tables_1, d.before a0 Z = true) : (Jvm.Cond.code ({ cls := "java/lang/String", name := "checkBoundsBeginEnd", desc := "(III)V" } : Jvm.MethodName) jdk_42_method_158_code (3 : Nat) (Option.none : Option Jvm.ClassFile.FieldType)).before a0 Z = true := hw _ (List.mem_of_getElem? (i := 99) rfl)
theorem w_100 {Z : State} {a0 : Array Value} (hw : ∀ d ∈ tables_1, d.before a0 Z = true) : (Jvm.Cond.fieldLink "java/lang/String" (1053 : Nat) "jdk/internal/util/Preconditions" "SIOOBE_FORMATTER" "Ljava/util/function/BiFunction;").before a0 Z = true := hw _ (List.mem_of_getElem? (i := 100) rfl)
theorem w_101 {Z : State} {a0 : Array Value} (hw : ∀ d ∈ tables_1, d.before a0 Z = true) : (Jvm.Cond.initialized "jdk/internal/util/Preconditions").before a0 Z = true := hw _ (List.mem_of_getElem? (i := 101) rfl)
theorem w_102 {Z : State} {a0 : Array Value} (hw : ∀ d ∈ tables_1, d.before a0 Z = true) : (Jvm.Cond.methodLink "java/lang/String" (1062 : Nat) ({ cls := "jdk/internal/util/Preconditions", name := "checkFromToIndex", desc := "(IIILjava/util/function/BiFunction;)I" } : Jvm.MethodName)).before a0 Z = true := hw _ (List.mem_of_getElem? (i := 102) rfl)
theorem w_103 {Z : State} {a0 : Array Value} (hw : ∀ d ∈ tables_1, d.before a0 Z = true) : (Jvm.Cond.static ({ cls := "jdk/internal/util/Preconditions", name := "checkFromToIndex", desc := "(IIILjava/util/function/BiFunction;)I" } : Jvm.MethodName)).before a0 Z = true := hw _ (List.mem_of_getElem? (i := 103) rfl)
theorem w_104 {Z : State} {a0 : Array Value} (hw : ∀ d ∈ tables_1, d.before a0 Z = true) : (Jvm.Cond.code ({ cls := "jdk/internal/util/Preconditions", name := "checkFromToIndex", desc := "(IIILjava/util/function/BiFunction;)I" } : Jvm.MethodName) jdk_41_method_12_code (4 : Nat) (Option.some Jvm.ClassFile.FieldType.int)).before a0 Z = true := hw _ (List.mem_of_getElem? (i := 104) rfl)
theorem w_105 {Z : State} {a0 : Array Value} (hw : ∀ d ∈ tables_1, d.before a0 Z = true) : (Jvm.Cond.methodLink "java/lang/String" (685 : Nat) ({ cls := "java/lang/StringLatin1", name := "newString", desc := "([BII)Ljava/lang/String;" } : Jvm.MethodName)).before a0 Z = true := hw _ (List.mem_of_getElem? (i := 105) rfl)
theorem w_106 {Z : State} {a0 : Array Value} (hw : ∀ d ∈ tables_1, d.before a0 Z = true) : (Jvm.Cond.static ({ cls := "java/lang/StringLatin1", name := "newString", desc := "([BII)Ljava/lang/String;" } : Jvm.MethodName)).before a0 Z = true := hw _ (List.mem_of_getElem? (i := 106) rfl)
theorem w_107 {Z : State} {a0 : Array Value} (hw : ∀ d ∈ tables_1, d.before a0 Z = true) : (Jvm.Cond.code ({ cls := "java/lang/StringLatin1", name := "newString", desc := "([BII)Ljava/lang/String;" } : Jvm.MethodName) jdk_43_method_47_code (3 : Nat) (Option.some (Jvm.ClassFile.FieldType.object "java/lang/String"))).before a0 Z = true := hw _ (List.mem_of_getElem? (i := 107) rfl)
theorem w_108 {Z : State} {a0 : Array Value} (hw : ∀ d ∈ tables_1, d.before a0 Z = true) : (Jvm.Cond.stringLink "java/lang/StringLatin1" (151 : Nat) "").before a0 Z = true := hw _ (List.mem_of_getElem? (i := 108) rfl)
theorem w_109 {Z : State} {a0 : Array Value} (hw : ∀ d ∈ tables_1, d.before a0 Z = true) : (Jvm.Cond.methodLink "com/example/matchmaker/matchmaker/registry/ServiceIdExtensionOfPinLaw" (29 : Nat) ({ cls := "java/lang/String", name := "length", desc := "()I" } : Jvm.MethodName)).before a0 Z = true := hw _ (List.mem_of_getElem? (i := 109) rfl)
theorem w_110 {Z : State} {a0 : Array Value} (hw : ∀ d ∈ tables_1, d.before a0 Z = true) : (Jvm.Cond.classLink "java/lang/StringLatin1" (1 : Nat) "java/lang/String").before a0 Z = true := hw _ (List.mem_of_getElem? (i := 110) rfl)
theorem w_111 {Z : State} {a0 : Array Value} (hw : ∀ d ∈ tables_1, d.before a0 Z = true) : (Jvm.Cond.methodLink "java/lang/StringLatin1" (232 : Nat) ({ cls := "java/util/Arrays", name := "copyOfRange", desc := "([BII)[B" } : Jvm.MethodName)).before a0 Z = true := hw _ (List.mem_of_getElem? (i := 111) rfl)
theorem w_112 {Z : State} {a0 : Array Value} (hw : ∀ d ∈ tables_1, d.before a0 Z = true) : (Jvm.Cond.static ({ cls := "java/util/Arrays", name := "copyOfRange", desc := "([BII)[B" } : Jvm.MethodName)).before a0 Z = true := hw _ (List.mem_of_getElem? (i := 112) rfl)
theorem w_113 {Z : State} {a0 : Array Value} (hw : ∀ d ∈ tables_1, d.before a0 Z = true) : (Jvm.Cond.initialized "java/util/Arrays").before a0 Z = true := hw _ (List.mem_of_getElem? (i := 113) rfl)
theorem w_114 {Z : State} {a0 : Array Value} (hw : ∀ d ∈ tables_1, d.before a0 Z = true) : (Jvm.Cond.code ({ cls := "java/util/Arrays", name := "copyOfRange", desc := "([BII)[B" } : Jvm.MethodName) jdk_65_method_132_code (3 : Nat) (Option.some (Jvm.ClassFile.FieldType.array Jvm.ClassFile.FieldType.byte))).before a0 Z = true := hw _ (List.mem_of_getElem? (i := 114) rfl)
theorem w_115 {Z : State} {a0 : Array Value} (hw : ∀ d ∈ tables_1, d.before a0 Z = true) : (Jvm.Cond.methodLink "java/util/Arrays" (339 : Nat) ({ cls := "java/util/Arrays", name := "copyOfRangeByte", desc := "([BII)[B" } : Jvm.MethodName)).before a0 Z = true := hw _ (List.mem_of_getElem? (i := 115) rfl)
theorem w_116 {Z : State} {a0 : Array Value} (hw : ∀ d ∈ tables_1, d.before a0 Z = true) : (Jvm.Cond.static ({ cls := "java/util/Arrays", name := "copyOfRangeByte", desc := "([BII)[B" } : Jvm.MethodName)).before a0 Z = true := hw _ (List.mem_of_getElem? (i := 116) rfl)
theorem w_117 {Z : State} {a0 : Array Value} (hw : ∀ d ∈ tables_1, d.before a0 Z = true) : (Jvm.Cond.code ({ cls := "java/util/Arrays", name := "copyOfRangeByte", desc := "([BII)[B" } : Jvm.MethodName) jdk_65_method_133_code (5 : Nat) (Option.some (Jvm.ClassFile.FieldType.array Jvm.ClassFile.FieldType.byte))).before a0 Z = true := hw _ (List.mem_of_getElem? (i := 117) rfl)
theorem w_118 {Z : State} {a0 : Array Value} (hw : ∀ d ∈ tables_1, d.before a0 Z = true) : (Jvm.Cond.methodLink "java/util/Arrays" (343 : Nat) ({ cls := "java/util/Arrays", name := "checkLength", desc := "(II)V" } : Jvm.MethodName)).before a0 Z = true := hw _ (List.mem_of_getElem? (i := 118) rfl)
theorem w_119 {Z : State} {a0 : Array Value} (hw : ∀ d ∈ tables_1, d.before a0 Z = true) : (Jvm.Cond.static ({ cls := "java/util/Arrays", name := "checkLength", desc := "(II)V" } : Jvm.MethodName)).before a0 Z = true := hw _ (List.mem_of_getElem? (i := 119) rfl)
theorem w_120 {Z : State} {a0 : Array Value} (hw : ∀ d ∈ tables_1, d.before a0 Z = true) : (Jvm.Cond.code ({ cls := "java/util/Arrays", name := "checkLength", desc := "(II)V" } : Jvm.MethodName) jdk_65_method_131_code (2 : Nat) (Option.none : Option Jvm.ClassFile.FieldType)).before a0 Z = true := hw _ (List.mem_of_getElem? (i := 120) rfl)
theorem w_121 {Z : State} {a0 : Array Value} (hw : ∀ d ∈ tables_1, d.before a0 Z = true) : (Jvm.Cond.methodLink "java/util/Arrays" (304 : Nat) ({ cls := "java/lang/Math", name := "min", desc := "(II)I" } : Jvm.MethodName)).before a0 Z = true := hw _ (List.mem_of_getElem? (i := 121) rfl)
theorem w_122 {Z : State} {a0 : Array Value} (hw : ∀ d ∈ tables_1, d.before a0 Z = true) : (Jvm.Cond.methodLink "java/util/Arrays" (150 : Nat) ({ cls := "java/lang/System", name := "arraycopy", desc := "(Ljava/lang/Object;ILjava/lang/Object;II)V" } : Jvm.MethodName)).before a0 Z = true := hw _ (List.mem_of_getElem? (i := 122) rfl)
theorem w_123 {Z : State} {a0 : Array Value} (hw : ∀ d ∈ tables_1, d.before a0 Z = true) : (Jvm.Cond.static ({ cls := "java/lang/System", name := "arraycopy", desc := "(Ljava/lang/Object;ILjava/lang/Object;II)V" } : Jvm.MethodName)).before a0 Z = true := hw _ (List.mem_of_getElem? (i := 123) rfl)
theorem w_124 {Z : State} {a0 : Array Value} (hw : ∀ d ∈ tables_1, d.before a0 Z = true) : (Jvm.Cond.initialized "java/lang/System").before a0 Z = true := hw _ (List.mem_of_getElem? (i := 124) rfl)
theorem w_125 {Z : State} {a0 : Array Value} (hw : ∀ d ∈ tables_1, d.before a0 Z = true) : (Jvm.Cond.native ({ cls := "java/lang/System", name := "arraycopy", desc := "(Ljava/lang/Object;ILjava/lang/Object;II)V" } : Jvm.MethodName)).before a0 Z = true := hw _ (List.mem_of_getElem? (i := 125) rfl)
theorem w_126 {Z : State} {a0 : Array Value} (hw : ∀ d ∈ tables_1, d.before a0 Z = true) : (Jvm.Cond.methodLink "java/lang/StringLatin1" (112 : Nat) ({ cls := "java/lang/String", name := "<init>", desc := "([BB)V" } : Jvm.MethodName)).before a0 Z = true := hw _ (List.mem_of_getElem? (i := 126) rfl)
theorem w_127 {Z : State} {a0 : Array Value} (hw : ∀ d ∈ tables_1, d.before a0 Z = true) : (Jvm.Cond.instanceMethod ({ cls := "java/lang/String", name := "<init>", desc := "([BB)V" } : Jvm.MethodName)).before a0 Z = true := hw _ (List.mem_of_getElem? (i := 127) rfl)
theorem w_128 {Z : State} {a0 : Array Value} (hw : ∀ d ∈ tables_1, d.before a0 Z = true) : (Jvm.Cond.code ({ cls := "java/lang/String", name := "<init>", desc := "([BB)V" } : Jvm.MethodName) jdk_42_method_151_code (3 : Nat) (Option.none : Option Jvm.ClassFile.FieldType)).before a0 Z = true := hw _ (List.mem_of_getElem? (i := 128) rfl)
theorem w_129 {Z : State} {a0 : Array Value} (hw : ∀ d ∈ tables_1, d.before a0 Z = true) : (Jvm.Cond.methodLink "com/example/matchmaker/matchmaker/registry/ServiceIdExtensionOfPinLaw" (33 : Nat) ({ cls := "java/lang/String", name := "charAt", desc := "(I)C" } : Jvm.MethodName)).before a0 Z = true := hw _ (List.mem_of_getElem? (i := 129) rfl)
theorem w_130 {Z : State} {a0 : Array Value} (hw : ∀ d ∈ tables_1, d.before a0 Z = true) : (Jvm.Cond.declares ({ cls := "java/lang/String", name := "charAt", desc := "(I)C" } : Jvm.MethodName)).before a0 Z = true := hw _ (List.mem_of_getElem? (i := 130) rfl)
theorem w_131 {Z : State} {a0 : Array Value} (hw : ∀ d ∈ tables_1, d.before a0 Z = true) : (Jvm.Cond.instanceMethod ({ cls := "java/lang/String", name := "charAt", desc := "(I)C" } : Jvm.MethodName)).before a0 Z = true := hw _ (List.mem_of_getElem? (i := 131) rfl)
theorem w_132 {Z : State} {a0 : Array Value} (hw : ∀ d ∈ tables_1, d.before a0 Z = true) : (Jvm.Cond.selects "java/lang/String" ({ cls := "java/lang/String", name := "charAt", desc := "(I)C" } : Jvm.MethodName) ({ cls := "java/lang/String", name := "charAt", desc := "(I)C" } : Jvm.MethodName)).before a0 Z = true := hw _ (List.mem_of_getElem? (i := 132) rfl)
theorem w_143 {Z : State} {a0 : Array Value} (hw : ∀ d ∈ tables_1, d.before a0 Z = true) : (Jvm.Cond.methodLink "com/example/matchmaker/matchmaker/registry/ServiceIdExtensionOfPinLaw" (36 : Nat) ({ cls := "com/example/matchmaker/matchmaker/registry/ServiceIdExtensionOfPinLaw", name := "pick", desc := "(ICCCC)C" } : Jvm.MethodName)).before a0 Z = true := hw _ (List.mem_of_getElem? (i := 143) rfl)
theorem w_144 {Z : State} {a0 : Array Value} (hw : ∀ d ∈ tables_1, d.before a0 Z = true) : (Jvm.Cond.static ({ cls := "com/example/matchmaker/matchmaker/registry/ServiceIdExtensionOfPinLaw", name := "pick", desc := "(ICCCC)C" } : Jvm.MethodName)).before a0 Z = true := hw _ (List.mem_of_getElem? (i := 144) rfl)
theorem w_145 {Z : State} {a0 : Array Value} (hw : ∀ d ∈ tables_1, d.before a0 Z = true) : (Jvm.Cond.code ({ cls := "com/example/matchmaker/matchmaker/registry/ServiceIdExtensionOfPinLaw", name := "pick", desc := "(ICCCC)C" } : Jvm.MethodName) method_3_code (5 : Nat) (Option.some Jvm.ClassFile.FieldType.char)).before a0 Z = true := hw _ (List.mem_of_getElem? (i := 145) rfl)
theorem d_jdk_42_method_149_0 : decode jdk_42_method_149_code 0 = .ok (.aload_n 0, 1) := by decide +kernel
theorem d_jdk_42_method_149_1 : decode jdk_42_method_149_code 1 = .ok (.invokespecial 1, 3) := by decide +kernel
theorem d_jdk_42_method_149_4 : decode jdk_42_method_149_code 4 = .ok (.iload_n 3, 1) := by decide +kernel
theorem d_jdk_42_method_149_5 : decode jdk_42_method_149_code 5 = .ok (.ifCond .ne 22, 3) := by decide +kernel
theorem d_jdk_42_method_149_8 : decode jdk_42_method_149_code 8 = .ok (.aload_n 0, 1) := by decide +kernel
theorem d_jdk_42_method_149_9 : decode jdk_42_method_149_code 9 = .ok (.ldc 7, 2) := by decide +kernel
theorem d_jdk_42_method_149_11 : decode jdk_42_method_149_code 11 = .ok (.getfield 9, 3) := by decide +kernel
theorem d_jdk_42_method_149_14 : decode jdk_42_method_149_code 14 = .ok (.putfield 9, 3) := by decide +kernel
theorem d_jdk_42_method_149_17 : decode jdk_42_method_149_code 17 = .ok (.aload_n 0, 1) := by decide +kernel
theorem d_jdk_42_method_149_18 : decode jdk_42_method_149_code 18 = .ok (.ldc 7, 2) := by decide +kernel
theorem d_jdk_42_method_149_20 : decode jdk_42_method_149_code 20 = .ok (.getfield 15, 3) := by decide +kernel
theorem d_jdk_42_method_149_23 : decode jdk_42_method_149_code 23 = .ok (.putfield 15, 3) := by decide +kernel
theorem d_jdk_42_method_149_26 : decode jdk_42_method_149_code 26 = .ok (.return_, 1) := by decide +kernel
theorem d_jdk_42_method_3_0 : decode jdk_42_method_3_code 0 = .ok (.aload_n 0, 1) := by decide +kernel
theorem d_jdk_42_method_3_1 : decode jdk_42_method_3_code 1 = .ok (.aload_n 1, 1) := by decide +kernel
theorem d_jdk_42_method_3_2 : decode jdk_42_method_3_code 2 = .ok (.iconst 0, 1) := by decide +kernel
theorem d_jdk_42_method_3_3 : decode jdk_42_method_3_code 3 = .ok (.aload_n 1, 1) := by decide +kernel
theorem d_jdk_42_method_3_4 : decode jdk_42_method_3_code 4 = .ok (.arraylength, 1) := by decide +kernel
theorem d_jdk_42_method_3_5 : decode jdk_42_method_3_code 5 = .ok (.aconst_null, 1) := by decide +kernel
theorem d_jdk_42_method_3_6 : decode jdk_42_method_3_code 6 = .ok (.invokespecial 27, 3) := by decide +kernel
theorem d_jdk_42_method_3_9 : decode jdk_42_method_3_code 9 = .ok (.return_, 1) := by decide +kernel
theorem d_jdk_42_method_154_0 : decode jdk_42_method_154_code 0 = .ok (.getstatic 38, 3) := by decide +kernel
theorem d_jdk_42_method_154_3 : decode jdk_42_method_154_code 3 = .ok (.ifCond .eq 14, 3) := by decide +kernel
theorem d_jdk_42_method_154_6 : decode jdk_42_method_154_code 6 = .ok (.aload_n 0, 1) := by decide +kernel
theorem d_jdk_42_method_154_7 : decode jdk_42_method_154_code 7 = .ok (.getfield 15, 3) := by decide +kernel
theorem d_jdk_42_method_154_10 : decode jdk_42_method_154_code 10 = .ok (.ifCond .ne 7, 3) := by decide +kernel
theorem d_jdk_42_method_154_13 : decode jdk_42_method_154_code 13 = .ok (.iconst 1, 1) := by decide +kernel
theorem d_jdk_42_method_154_14 : decode jdk_42_method_154_code 14 = .ok (.goto 4, 3) := by decide +kernel
theorem d_jdk_42_method_154_18 : decode jdk_42_method_154_code 18 = .ok (.ireturn, 1) := by decide +kernel
theorem d_jdk_29_method_69_0 : decode jdk_29_method_69_code 0 = .ok (.iload_n 0, 1) := by decide +kernel
theorem d_jdk_29_method_69_1 : decode jdk_29_method_69_code 1 = .ok (.iload_n 1, 1) := by decide +kernel
theorem d_jdk_29_method_69_2 : decode jdk_29_method_69_code 2 = .ok (.if_icmp .gt 7, 3) := by decide +kernel
theorem d_jdk_29_method_69_5 : decode jdk_29_method_69_code 5 = .ok (.iload_n 0, 1) := by decide +kernel
theorem d_jdk_29_method_69_6 : decode jdk_29_method_69_code 6 = .ok (.goto 4, 3) := by decide +kernel
theorem d_jdk_29_method_69_10 : decode jdk_29_method_69_code 10 = .ok (.ireturn, 1) := by decide +kernel
theorem d_jdk_43_method_4_0 : decode jdk_43_method_4_code 0 = .ok (.iload_n 0, 1) := by decide +kernel
theorem d_jdk_43_method_4_1 : decode jdk_43_method_4_code 1 = .ok (.ifCond .lt 14, 3) := by decide +kernel
theorem d_jdk_43_method_4_4 : decode jdk_43_method_4_code 4 = .ok (.iload_n 0, 1) := by decide +kernel
theorem d_jdk_43_method_4_5 : decode jdk_43_method_4_code 5 = .ok (.sipush 255, 3) := by decide +kernel
theorem d_jdk_43_method_4_8 : decode jdk_43_method_4_code 8 = .ok (.if_icmp .gt 7, 3) := by decide +kernel
theorem d_jdk_43_method_4_11 : decode jdk_43_method_4_code 11 = .ok (.iconst 1, 1) := by decide +kernel
theorem d_jdk_43_method_4_12 : decode jdk_43_method_4_code 12 = .ok (.goto 4, 3) := by decide +kernel
theorem d_jdk_43_method_4_16 : decode jdk_43_method_4_code 16 = .ok (.ireturn, 1) := by decide +kernel
theorem d_jdk_43_method_27_0 : decode jdk_43_method_27_code 0 = .ok (.iload_n 1, 1) := by decide +kernel
theorem d_jdk_43_method_27_1 : decode jdk_43_method_27_code 1 = .ok (.invokestatic 88, 3) := by decide +kernel
theorem d_jdk_43_method_27_4 : decode jdk_43_method_27_code 4 = .ok (.ifCond .ne 5, 3) := by decide +kernel
theorem d_jdk_43_method_27_9 : decode jdk_43_method_27_code 9 = .ok (.iload_n 2, 1) := by decide +kernel
theorem d_jdk_43_method_27_10 : decode jdk_43_method_27_code 10 = .ok (.aload_n 0, 1) := by decide +kernel
theorem d_jdk_43_method_27_11 : decode jdk_43_method_27_code 11 = .ok (.arraylength, 1) := by decide +kernel
theorem d_jdk_43_method_27_12 : decode jdk_43_method_27_code 12 = .ok (.iconst 1, 1) := by decide +kernel
theorem d_jdk_43_method_27_13 : decode jdk_43_method_27_code 13 = .ok (.isub, 1) := by decide +kernel
theorem d_jdk_43_method_27_14 : decode jdk_43_method_27_code 14 = .ok (.invokestatic 38, 3) := by decide +kernel
theorem d_jdk_43_method_27_17 : decode jdk_43_method_27_code 17 = .ok (.istore_n 3, 1) := by decide +kernel
theorem d_jdk_43_method_27_18 : decode jdk_43_method_27_code 18 = .ok (.iload_n 3, 1) := by decide +kernel
theorem d_jdk_43_method_27_19 : decode jdk_43_method_27_code 19 = .ok (.ifCond .lt 19, 3) := by decide +kernel
theorem d_jdk_43_method_27_38 : decode jdk_43_method_27_code 38 = .ok (.iconst (-1), 1) := by decide +kernel
theorem d_jdk_43_method_27_39 : decode jdk_43_method_27_code 39 = .ok (.ireturn, 1) := by decide +kernel
theorem d_jdk_43_method_27_22 : decode jdk_43_method_27_code 22 = .ok (.aload_n 0, 1) := by decide +kernel
theorem d_jdk_43_method_27_23 : decode jdk_43_method_27_code 23 = .ok (.iload_n 3, 1) := by decide +kernel
theorem d_jdk_43_method_27_24 : decode jdk_43_method_27_code 24 = .ok (.baload, 1) := by decide +kernel
theorem d_jdk_43_method_27_25 : decode jdk_43_method_27_code 25 = .ok (.iload_n 1, 1) := by decide +kernel
theorem d_jdk_43_method_27_26 : decode jdk_43_method_27_code 26 = .ok (.i2b, 1) := by decide +kernel
theorem d_jdk_43_method_27_27 : decode jdk_43_method_27_code 27 = .ok (.if_icmp .ne 5, 3) := by decide +kernel
theorem d_jdk_43_method_27_32 : decode jdk_43_method_27_code 32 = .ok (.iinc 3 (-1), 3) := by decide +kernel
theorem d_jdk_43_method_27_35 : decode jdk_43_method_27_code 35 = .ok (.goto (-17), 3) := by decide +kernel
theorem d_jdk_43_method_27_30 : decode jdk_43_method_27_code 30 = .ok (.iload_n 3, 1) := by decide +kernel
theorem d_jdk_43_method_27_31 : decode jdk_43_method_27_code 31 = .ok (.ireturn, 1) := by decide +kernel
theorem d_jdk_42_method_83_0 : decode jdk_42_method_83_code 0 = .ok (.aload_n 0, 1) := by decide +kernel
theorem d_jdk_42_method_83_1 : decode jdk_42_method_83_code 1 = .ok (.invokevirtual 492, 3) := by decide +kernel
theorem d_jdk_42_method_83_4 : decode jdk_42_method_83_code 4 = .ok (.ifCond .eq 15, 3) := by decide +kernel
theorem d_jdk_42_method_83_7 : decode jdk_42_method_83_code 7 = .ok (.aload_n 0, 1) := by decide +kernel
theorem d_jdk_42_method_83_8 : decode jdk_42_method_83_code 8 = .ok (.getfield 9, 3) := by decide +kernel
theorem d_jdk_42_method_83_11 : decode jdk_42_method_83_code 11 = .ok (.iload_n 1, 1) := by decide +kernel
theorem d_jdk_42_method_83_12 : decode jdk_42_method_83_code 12 = .ok (.iload_n 2, 1) := by decide +kernel
theorem d_jdk_42_method_83_13 : decode jdk_42_method_83_code 13 = .ok (.invokestatic 644, 3) := by decide +kernel
theorem d_jdk_42_method_83_16 : decode jdk_42_method_83_code 16 = .ok (.goto 12, 3) := by decide +kernel
theorem d_jdk_42_method_83_28 : decode jdk_42_method_83_code 28 = .ok (.ireturn, 1) := by decide +kernel
theorem d_jdk_42_method_82_0 : decode jdk_42_method_82_code 0 = .ok (.aload_n 0, 1) := by decide +kernel
theorem d_jdk_42_method_82_1 : decode jdk_42_method_82_code 1 = .ok (.iload_n 1, 1) := by decide +kernel
theorem d_jdk_42_method_82_2 : decode jdk_42_method_82_code 2 = .ok (.aload_n 0, 1) := by decide +kernel
theorem d_jdk_42_method_82_3 : decode jdk_42_method_82_code 3 = .ok (.invokevirtual 505, 3) := by decide +kernel
theorem d_jdk_42_method_82_6 : decode jdk_42_method_82_code 6 = .ok (.iconst 1, 1) := by decide +kernel
theorem d_jdk_42_method_82_7 : decode jdk_42_method_82_code 7 = .ok (.isub, 1) := by decide +kernel
theorem d_jdk_42_method_82_8 : decode jdk_42_method_82_code 8 = .ok (.invokevirtual 641, 3) := by decide +kernel
theorem d_jdk_42_method_82_11 : decode jdk_42_method_82_code 11 = .ok (.ireturn, 1) := by decide +kernel
theorem d_jdk_41_method_12_0 : decode jdk_41_method_12_code 0 = .ok (.iload_n 0, 1) := by decide +kernel
theorem d_jdk_41_method_12_1 : decode jdk_41_method_12_code 1 = .ok (.ifCond .lt 13, 3) := by decide +kernel
theorem d_jdk_41_method_12_4 : decode jdk_41_method_12_code 4 = .ok (.iload_n 0, 1) := by decide +kernel
theorem d_jdk_41_method_12_5 : decode jdk_41_method_12_code 5 = .ok (.iload_n 1, 1) := by decide +kernel
theorem d_jdk_41_method_12_6 : decode jdk_41_method_12_code 6 = .ok (.if_icmp .gt 8, 3) := by decide +kernel
theorem d_jdk_41_method_12_9 : decode jdk_41_method_12_code 9 = .ok (.iload_n 1, 1) := by decide +kernel
theorem d_jdk_41_method_12_10 : decode jdk_41_method_12_code 10 = .ok (.iload_n 2, 1) := by decide +kernel
theorem d_jdk_41_method_12_11 : decode jdk_41_method_12_code 11 = .ok (.if_icmp .le 11, 3) := by decide +kernel
theorem d_jdk_41_method_12_22 : decode jdk_41_method_12_code 22 = .ok (.iload_n 0, 1) := by decide +kernel
theorem d_jdk_41_method_12_23 : decode jdk_41_method_12_code 23 = .ok (.ireturn, 1) := by decide +kernel
theorem d_jdk_42_method_158_0 : decode jdk_42_method_158_code 0 = .ok (.iload_n 0, 1) := by decide +kernel
theorem d_jdk_42_method_158_1 : decode jdk_42_method_158_code 1 = .ok (.iload_n 1, 1) := by decide +kernel
theorem d_jdk_42_method_158_2 : decode jdk_42_method_158_code 2 = .ok (.iload_n 2, 1) := by decide +kernel
theorem d_jdk_42_method_158_3 : decode jdk_42_method_158_code 3 = .ok (.getstatic 1053, 3) := by decide +kernel
theorem d_jdk_42_method_158_6 : decode jdk_42_method_158_code 6 = .ok (.invokestatic 1062, 3) := by decide +kernel
theorem d_jdk_42_method_158_9 : decode jdk_42_method_158_code 9 = .ok (.pop, 1) := by decide +kernel
theorem d_jdk_42_method_158_10 : decode jdk_42_method_158_code 10 = .ok (.return_, 1) := by decide +kernel
theorem d_jdk_65_method_131_0 : decode jdk_65_method_131_code 0 = .ok (.iload_n 1, 1) := by decide +kernel
theorem d_jdk_65_method_131_1 : decode jdk_65_method_131_code 1 = .ok (.iload_n 0, 1) := by decide +kernel
theorem d_jdk_65_method_131_2 : decode jdk_65_method_131_code 2 = .ok (.if_icmp .ge 35, 3) := by decide +kernel
theorem d_jdk_65_method_131_37 : decode jdk_65_method_131_code 37 = .ok (.return_, 1) := by decide +kernel
theorem d_jdk_42_method_151_0 : decode jdk_42_method_151_code 0 = .ok (.aload_n 0, 1) := by decide +kernel
theorem d_jdk_42_method_151_1 : decode jdk_42_method_151_code 1 = .ok (.invokespecial 1, 3) := by decide +kernel
theorem d_jdk_42_method_151_4 : decode jdk_42_method_151_code 4 = .ok (.aload_n 0, 1) := by decide +kernel
theorem d_jdk_42_method_151_5 : decode jdk_42_method_151_code 5 = .ok (.aload_n 1, 1) := by decide +kernel
theorem d_jdk_42_method_151_6 : decode jdk_42_method_151_code 6 = .ok (.putfield 9, 3) := by decide +kernel
theorem d_jdk_42_method_151_9 : decode jdk_42_method_151_code 9 = .ok (.aload_n 0, 1) := by decide +kernel
theorem d_jdk_42_method_151_10 : decode jdk_42_method_151_code 10 = .ok (.iload_n 2, 1) := by decide +kernel
theorem d_jdk_42_method_151_11 : decode jdk_42_method_151_code 11 = .ok (.putfield 15, 3) := by decide +kernel
theorem d_jdk_42_method_151_14 : decode jdk_42_method_151_code 14 = .ok (.return_, 1) := by decide +kernel
theorem d_jdk_65_method_133_0 : decode jdk_65_method_133_code 0 = .ok (.iload_n 1, 1) := by decide +kernel
theorem d_jdk_65_method_133_1 : decode jdk_65_method_133_code 1 = .ok (.iload_n 2, 1) := by decide +kernel
theorem d_jdk_65_method_133_2 : decode jdk_65_method_133_code 2 = .ok (.invokestatic 343, 3) := by decide +kernel
theorem d_jdk_65_method_133_5 : decode jdk_65_method_133_code 5 = .ok (.iload_n 2, 1) := by decide +kernel
theorem d_jdk_65_method_133_6 : decode jdk_65_method_133_code 6 = .ok (.iload_n 1, 1) := by decide +kernel
theorem d_jdk_65_method_133_7 : decode jdk_65_method_133_code 7 = .ok (.isub, 1) := by decide +kernel
theorem d_jdk_65_method_133_8 : decode jdk_65_method_133_code 8 = .ok (.istore_n 3, 1) := by decide +kernel
theorem d_jdk_65_method_133_9 : decode jdk_65_method_133_code 9 = .ok (.iload_n 3, 1) := by decide +kernel
theorem d_jdk_65_method_133_10 : decode jdk_65_method_133_code 10 = .ok (.newarray .byte, 2) := by decide +kernel
theorem d_jdk_65_method_133_12 : decode jdk_65_method_133_code 12 = .ok (.astore 4, 2) := by decide +kernel
theorem d_jdk_65_method_133_14 : decode jdk_65_method_133_code 14 = .ok (.aload_n 0, 1) := by decide +kernel
theorem d_jdk_65_method_133_15 : decode jdk_65_method_133_code 15 = .ok (.iload_n 1, 1) := by decide +kernel
theorem d_jdk_65_method_133_16 : decode jdk_65_method_133_code 16 = .ok (.aload 4, 2) := by decide +kernel
theorem d_jdk_65_method_133_18 : decode jdk_65_method_133_code 18 = .ok (.iconst 0, 1) := by decide +kernel
theorem d_jdk_65_method_133_19 : decode jdk_65_method_133_code 19 = .ok (.aload_n 0, 1) := by decide +kernel
theorem d_jdk_65_method_133_20 : decode jdk_65_method_133_code 20 = .ok (.arraylength, 1) := by decide +kernel
theorem d_jdk_65_method_133_21 : decode jdk_65_method_133_code 21 = .ok (.iload_n 1, 1) := by decide +kernel
theorem d_jdk_65_method_133_22 : decode jdk_65_method_133_code 22 = .ok (.isub, 1) := by decide +kernel
theorem d_jdk_65_method_133_23 : decode jdk_65_method_133_code 23 = .ok (.iload_n 3, 1) := by decide +kernel
theorem d_jdk_65_method_133_24 : decode jdk_65_method_133_code 24 = .ok (.invokestatic 304, 3) := by decide +kernel
theorem d_jdk_65_method_133_27 : decode jdk_65_method_133_code 27 = .ok (.invokestatic 150, 3) := by decide +kernel
theorem d_jdk_65_method_133_30 : decode jdk_65_method_133_code 30 = .ok (.aload 4, 2) := by decide +kernel
theorem d_jdk_65_method_133_32 : decode jdk_65_method_133_code 32 = .ok (.areturn, 1) := by decide +kernel
theorem d_jdk_65_method_132_0 : decode jdk_65_method_132_code 0 = .ok (.iload_n 1, 1) := by decide +kernel
theorem d_jdk_65_method_132_1 : decode jdk_65_method_132_code 1 = .ok (.ifCond .ne 9, 3) := by decide +kernel
theorem d_jdk_65_method_132_10 : decode jdk_65_method_132_code 10 = .ok (.aload_n 0, 1) := by decide +kernel
theorem d_jdk_65_method_132_11 : decode jdk_65_method_132_code 11 = .ok (.iload_n 1, 1) := by decide +kernel
theorem d_jdk_65_method_132_12 : decode jdk_65_method_132_code 12 = .ok (.iload_n 2, 1) := by decide +kernel
theorem d_jdk_65_method_132_13 : decode jdk_65_method_132_code 13 = .ok (.invokestatic 339, 3) := by decide +kernel
theorem d_jdk_65_method_132_16 : decode jdk_65_method_132_code 16 = .ok (.areturn, 1) := by decide +kernel
theorem d_jdk_43_method_47_0 : decode jdk_43_method_47_code 0 = .ok (.iload_n 2, 1) := by decide +kernel
theorem d_jdk_43_method_47_1 : decode jdk_43_method_47_code 1 = .ok (.ifCond .ne 6, 3) := by decide +kernel
theorem d_jdk_43_method_47_7 : decode jdk_43_method_47_code 7 = .ok (.new 1, 3) := by decide +kernel
theorem d_jdk_43_method_47_10 : decode jdk_43_method_47_code 10 = .ok (.dup, 1) := by decide +kernel
theorem d_jdk_43_method_47_11 : decode jdk_43_method_47_code 11 = .ok (.aload_n 0, 1) := by decide +kernel
theorem d_jdk_43_method_47_12 : decode jdk_43_method_47_code 12 = .ok (.iload_n 1, 1) := by decide +kernel
theorem d_jdk_43_method_47_13 : decode jdk_43_method_47_code 13 = .ok (.iload_n 1, 1) := by decide +kernel
theorem d_jdk_43_method_47_14 : decode jdk_43_method_47_code 14 = .ok (.iload_n 2, 1) := by decide +kernel
theorem d_jdk_43_method_47_15 : decode jdk_43_method_47_code 15 = .ok (.iadd, 1) := by decide +kernel
theorem d_jdk_43_method_47_16 : decode jdk_43_method_47_code 16 = .ok (.invokestatic 232, 3) := by decide +kernel
theorem d_jdk_43_method_47_19 : decode jdk_43_method_47_code 19 = .ok (.iconst 0, 1) := by decide +kernel
theorem d_jdk_43_method_47_20 : decode jdk_43_method_47_code 20 = .ok (.invokespecial 112, 3) := by decide +kernel
theorem d_jdk_43_method_47_23 : decode jdk_43_method_47_code 23 = .ok (.areturn, 1) := by decide +kernel
theorem d_jdk_43_method_47_4 : decode jdk_43_method_47_code 4 = .ok (.ldc 151, 2) := by decide +kernel
theorem d_jdk_43_method_47_6 : decode jdk_43_method_47_code 6 = .ok (.areturn, 1) := by decide +kernel
theorem d_jdk_42_method_92_0 : decode jdk_42_method_92_code 0 = .ok (.aload_n 0, 1) := by decide +kernel
theorem d_jdk_42_method_92_1 : decode jdk_42_method_92_code 1 = .ok (.invokevirtual 505, 3) := by decide +kernel
theorem d_jdk_42_method_92_4 : decode jdk_42_method_92_code 4 = .ok (.istore_n 3, 1) := by decide +kernel
theorem d_jdk_42_method_92_5 : decode jdk_42_method_92_code 5 = .ok (.iload_n 1, 1) := by decide +kernel
theorem d_jdk_42_method_92_6 : decode jdk_42_method_92_code 6 = .ok (.iload_n 2, 1) := by decide +kernel
theorem d_jdk_42_method_92_7 : decode jdk_42_method_92_code 7 = .ok (.iload_n 3, 1) := by decide +kernel
theorem d_jdk_42_method_92_8 : decode jdk_42_method_92_code 8 = .ok (.invokestatic 521, 3) := by decide +kernel
theorem d_jdk_42_method_92_11 : decode jdk_42_method_92_code 11 = .ok (.iload_n 1, 1) := by decide +kernel
theorem d_jdk_42_method_92_12 : decode jdk_42_method_92_code 12 = .ok (.ifCond .ne 10, 3) := by decide +kernel
theorem d_jdk_42_method_92_22 : decode jdk_42_method_92_code 22 = .ok (.iload_n 2, 1) := by decide +kernel
theorem d_jdk_42_method_92_23 : decode jdk_42_method_92_code 23 = .ok (.iload_n 1, 1) := by decide +kernel
theorem d_jdk_42_method_92_24 : decode jdk_42_method_92_code 24 = .ok (.isub, 1) := by decide +kernel
theorem d_jdk_42_method_92_25 : decode jdk_42_method_92_code 25 = .ok (.istore 4, 2) := by decide +kernel
theorem d_jdk_42_method_92_27 : decode jdk_42_method_92_code 27 = .ok (.aload_n 0, 1) := by decide +kernel
theorem d_jdk_42_method_92_28 : decode jdk_42_method_92_code 28 = .ok (.invokevirtual 492, 3) := by decide +kernel
theorem d_jdk_42_method_92_31 : decode jdk_42_method_92_code 31 = .ok (.ifCond .eq 16, 3) := by decide +kernel
theorem d_jdk_42_method_92_34 : decode jdk_42_method_92_code 34 = .ok (.aload_n 0, 1) := by decide +kernel
theorem d_jdk_42_method_92_35 : decode jdk_42_method_92_code 35 = .ok (.getfield 9, 3) := by decide +kernel
theorem d_jdk_42_method_92_38 : decode jdk_42_method_92_code 38 = .ok (.iload_n 1, 1) := by decide +kernel
theorem d_jdk_42_method_92_39 : decode jdk_42_method_92_code 39 = .ok (.iload 4, 2) := by decide +kernel
theorem d_jdk_42_method_92_41 : decode jdk_42_method_92_code 41 = .ok (.invokestatic 685, 3) := by decide +kernel
theorem d_jdk_42_method_92_44 : decode jdk_42_method_92_code 44 = .ok (.goto 13, 3) := by decide +kernel
theorem d_jdk_42_method_92_57 : decode jdk_42_method_92_code 57 = .ok (.areturn, 1) := by decide +kernel
theorem d_jdk_42_method_92_15 : decode jdk_42_method_92_code 15 = .ok (.iload_n 2, 1) := by decide +kernel
theorem d_jdk_42_method_92_16 : decode jdk_42_method_92_code 16 = .ok (.iload_n 3, 1) := by decide +kernel
theorem d_jdk_42_method_92_17 : decode jdk_42_method_92_code 17 = .ok (.if_icmp .ne 5, 3) := by decide +kernel
theorem d_jdk_42_method_92_20 : decode jdk_42_method_92_code 20 = .ok (.aload_n 0, 1) := by decide +kernel
theorem d_jdk_42_method_92_21 : decode jdk_42_method_92_code 21 = .ok (.areturn, 1) := by decide +kernel
theorem d_jdk_42_method_91_0 : decode jdk_42_method_91_code 0 = .ok (.aload_n 0, 1) := by decide +kernel
theorem d_jdk_42_method_91_1 : decode jdk_42_method_91_code 1 = .ok (.iload_n 1, 1) := by decide +kernel
theorem d_jdk_42_method_91_2 : decode jdk_42_method_91_code 2 = .ok (.aload_n 0, 1) := by decide +kernel
theorem d_jdk_42_method_91_3 : decode jdk_42_method_91_code 3 = .ok (.invokevirtual 505, 3) := by decide +kernel
theorem d_jdk_42_method_91_6 : decode jdk_42_method_91_code 6 = .ok (.invokevirtual 681, 3) := by decide +kernel
theorem d_jdk_42_method_91_9 : decode jdk_42_method_91_code 9 = .ok (.areturn, 1) := by decide +kernel
theorem d_method_2_0 : decode method_2_code 0 = .ok (.iload_n 0, 1) := by decide +kernel
theorem d_method_2_1 : decode method_2_code 1 = .ok (.sipush 511, 3) := by decide +kernel
theorem d_method_2_4 : decode method_2_code 4 = .ok (.iand, 1) := by decide +kernel
theorem d_method_2_5 : decode method_2_code 5 = .ok (.istore_n 1, 1) := by decide +kernel
theorem d_method_2_6 : decode method_2_code 6 = .ok (.iload_n 1, 1) := by decide +kernel
theorem d_method_2_7 : decode method_2_code 7 = .ok (.sipush 256, 3) := by decide +kernel
theorem d_method_2_10 : decode method_2_code 10 = .ok (.if_icmp .ge 6, 3) := by decide +kernel
theorem d_method_2_16 : decode method_2_code 16 = .ok (.bipush 46, 2) := by decide +kernel
theorem d_method_2_18 : decode method_2_code 18 = .ok (.ireturn, 1) := by decide +kernel
theorem d_method_2_13 : decode method_2_code 13 = .ok (.iload_n 1, 1) := by decide +kernel
theorem d_method_2_14 : decode method_2_code 14 = .ok (.i2c, 1) := by decide +kernel
theorem d_method_2_15 : decode method_2_code 15 = .ok (.ireturn, 1) := by decide +kernel
theorem d_method_3_0 : decode method_3_code 0 = .ok (.iload_n 0, 1) := by decide +kernel
theorem d_method_3_1 : decode method_3_code 1 = .ok (.ifCond .ne 5, 3) := by decide +kernel
theorem d_method_3_6 : decode method_3_code 6 = .ok (.iload_n 0, 1) := by decide +kernel
theorem d_method_3_7 : decode method_3_code 7 = .ok (.iconst 1, 1) := by decide +kernel
theorem d_method_3_8 : decode method_3_code 8 = .ok (.if_icmp .ne 5, 3) := by decide +kernel
theorem d_method_3_13 : decode method_3_code 13 = .ok (.iload_n 0, 1) := by decide +kernel
theorem d_method_3_14 : decode method_3_code 14 = .ok (.iconst 2, 1) := by decide +kernel
theorem d_method_3_15 : decode method_3_code 15 = .ok (.if_icmp .ne 5, 3) := by decide +kernel
theorem d_method_3_20 : decode method_3_code 20 = .ok (.iload 4, 2) := by decide +kernel
theorem d_method_3_22 : decode method_3_code 22 = .ok (.ireturn, 1) := by decide +kernel
theorem d_method_3_18 : decode method_3_code 18 = .ok (.iload_n 3, 1) := by decide +kernel
theorem d_method_3_19 : decode method_3_code 19 = .ok (.ireturn, 1) := by decide +kernel
theorem d_method_3_11 : decode method_3_code 11 = .ok (.iload_n 2, 1) := by decide +kernel
theorem d_method_3_12 : decode method_3_code 12 = .ok (.ireturn, 1) := by decide +kernel
theorem d_method_3_4 : decode method_3_code 4 = .ok (.iload_n 1, 1) := by decide +kernel
theorem d_method_3_5 : decode method_3_code 5 = .ok (.ireturn, 1) := by decide +kernel
theorem d_prog_36_method_6_0 : decode prog_36_method_6_code 0 = .ok (.aload_n 0, 1) := by decide +kernel
theorem d_prog_36_method_6_1 : decode prog_36_method_6_code 1 = .ok (.bipush 46, 2) := by decide +kernel
theorem d_prog_36_method_6_3 : decode prog_36_method_6_code 3 = .ok (.invokevirtual 93, 3) := by decide +kernel
theorem d_prog_36_method_6_6 : decode prog_36_method_6_code 6 = .ok (.ireturn, 1) := by decide +kernel
theorem d_prog_36_method_4_0 : decode prog_36_method_4_code 0 = .ok (.aload_n 0, 1) := by decide +kernel
theorem d_prog_36_method_4_1 : decode prog_36_method_4_code 1 = .ok (.invokestatic 103, 3) := by decide +kernel
theorem d_prog_36_method_4_4 : decode prog_36_method_4_code 4 = .ok (.istore_n 1, 1) := by decide +kernel
theorem d_prog_36_method_4_5 : decode prog_36_method_4_code 5 = .ok (.iload_n 1, 1) := by decide +kernel
theorem d_prog_36_method_4_6 : decode prog_36_method_4_code 6 = .ok (.ifCond .le 14, 3) := by decide +kernel
theorem d_prog_36_method_4_20 : decode prog_36_method_4_code 20 = .ok (.ldc 101, 2) := by decide +kernel
theorem d_prog_36_method_4_22 : decode prog_36_method_4_code 22 = .ok (.astore_n 2, 1) := by decide +kernel
theorem d_prog_36_method_4_23 : decode prog_36_method_4_code 23 = .ok (.aload_n 2, 1) := by decide +kernel
theorem d_prog_36_method_4_24 : decode prog_36_method_4_code 24 = .ok (.areturn, 1) := by decide +kernel
theorem d_prog_36_method_4_9 : decode prog_36_method_4_code 9 = .ok (.aload_n 0, 1) := by decide +kernel
theorem d_prog_36_method_4_10 : decode prog_36_method_4_code 10 = .ok (.iload_n 1, 1) := by decide +kernel
theorem d_prog_36_method_4_11 : decode prog_36_method_4_code 11 = .ok (.iconst 1, 1) := by decide +kernel
theorem d_prog_36_method_4_12 : decode prog_36_method_4_code 12 = .ok (.iadd, 1) := by decide +kernel
theorem d_prog_36_method_4_13 : decode prog_36_method_4_code 13 = .ok (.invokevirtual 107, 3) := by decide +kernel
theorem d_prog_36_method_4_16 : decode prog_36_method_4_code 16 = .ok (.astore_n 2, 1) := by decide +kernel
theorem d_prog_36_method_4_17 : decode prog_36_method_4_code 17 = .ok (.goto 6, 3) := by decide +kernel
theorem pn_0 : plainName "java/lang/String" = true := by first | (simp [plainName, overriddenIn]; done) | decide +kernel
theorem pn_1 : plainName "java/lang/StringLatin1" = true := by first | (simp [plainName, overriddenIn]; done) | decide +kernel
theorem pn_2 : plainName "jdk/internal/util/Preconditions" = true := by first | (simp [plainName, overriddenIn]; done) | decide +kernel
theorem pn_3 : plainName "java/util/Arrays" = true := by first | (simp [plainName, overriddenIn]; done) | decide +kernel
theorem pn_4 : plainName "com/example/matchmaker/matchmaker/registry/ServiceIdExtensionOfPinLaw" = true := by first | (simp [plainName, overriddenIn]; done) | decide +kernel
theorem pn_5 : plainName "com/example/matchmaker/matchmaker/registry/ServiceId" = true := by first | (simp [plainName, overriddenIn]; done) | decide +kernel
theorem pd_0 : parseMethodDescriptor "([CIILjava/lang/Void;)V" = some ⟨[(.array .char), .int, .int, (.object "java/lang/Void")], none⟩ := by decide +kernel
theorem pd_1 : parseMethodDescriptor "(I)Z" = some ⟨[.int], some .boolean⟩ := by decide +kernel
theorem pd_2 : parseMethodDescriptor "(II)I" = some ⟨[.int, .int], some .int⟩ := by decide +kernel
theorem pd_3 : parseMethodDescriptor "()Z" = some ⟨[], some .boolean⟩ := by decide +kernel
theorem pd_4 : parseMethodDescriptor "([BII)I" = some ⟨[(.array .byte), .int, .int], some .int⟩ := by decide +kernel
theorem pd_5 : parseMethodDescriptor "()I" = some ⟨[], some .int⟩ := by decide +kernel
theorem pd_6 : parseMethodDescriptor "(IIILjava/util/function/BiFunction;)I" = some ⟨[.int, .int, .int, (.object "java/util/function/BiFunction")], some .int⟩ := by decide +kernel
theorem pd_7 : parseMethodDescriptor "(II)V" = some ⟨[.int, .int], none⟩ := by decide +kernel
theorem pd_8 : parseMethodDescriptor "([BII)[B" = some ⟨[(.array .byte), .int, .int], some (.array .byte)⟩ := by decide +kernel
theorem pd_9 : parseMethodDescriptor "([BB)V" = some ⟨[(.array .byte), .byte], none⟩ := by decide +kernel
theorem pd_10 : parseMethodDescriptor "(III)V" = some ⟨[.int, .int, .int], none⟩ := by decide +kernel
theorem pd_11 : parseMethodDescriptor "([BII)Ljava/lang/String;" = some ⟨[(.array .byte), .int, .int], some (.object "java/lang/String")⟩ := by decide +kernel
theorem pd_12 : parseMethodDescriptor "(II)Ljava/lang/String;" = some ⟨[.int, .int], some (.object "java/lang/String")⟩ := by decide +kernel
theorem pd_13 : parseMethodDescriptor "(I)I" = some ⟨[.int], some .int⟩ := by decide +kernel
theorem pd_14 : parseMethodDescriptor "(Ljava/lang/String;)I" = some ⟨[(.object "java/lang/String")], some .int⟩ := by decide +kernel
theorem pd_15 : parseMethodDescriptor "(I)Ljava/lang/String;" = some ⟨[.int], some (.object "java/lang/String")⟩ := by decide +kernel
theorem pd_16 : parseMethodDescriptor "(I)C" = some ⟨[.int], some .char⟩ := by decide +kernel
theorem pd_17 : parseMethodDescriptor "(Ljava/lang/String;)Ljava/lang/String;" = some ⟨[(.object "java/lang/String")], some (.object "java/lang/String")⟩ := by decide +kernel
theorem pd_18 : parseMethodDescriptor "(ICCCC)C" = some ⟨[.int, .char, .char, .char, .char], some .char⟩ := by decide +kernel
theorem pd_19 : parseMethodDescriptor "([C)V" = some ⟨[(.array .char)], none⟩ := by decide +kernel
theorem ef_own_new4E (m : MethodId) (x : Addr) (b : Addr) : entryFrame m #[(.ref x), (.ref b), (.int (0 : Int32)), (.int (0 : Int32)), .null] 6 = mkF m 0 #[.val (.ref x), .val (.ref b), .val (.int (0 : Int32)), .val (.int (0 : Int32)), .val .null, .unset] [] := by first | (simp [entryFrame, mkF, argsToLocals, Value.category, maxLocals]; done) | rfl
theorem ef_own_new1E (m : MethodId) (x : Addr) (b : Addr) : entryFrame m #[(.ref x), (.ref b)] 2 = mkF m 0 #[.val (.ref x), .val (.ref b)] [] := by first | (simp [entryFrame, mkF, argsToLocals, Value.category, maxLocals]; done) | rfl
theorem ef_own_isL1 (m : MethodId) (x : Addr) : entryFrame m #[(.ref x)] 1 = mkF m 0 #[.val (.ref x)] [] := by first | (simp [entryFrame, mkF, argsToLocals, Value.category, maxLocals]; done) | rfl
theorem ef_own_min (m : MethodId) (a : Int32) : entryFrame m #[(.int a), (.int a)] 2 = mkF m 0 #[.val (.int a), .val (.int a)] [] := by first | (simp [entryFrame, mkF, argsToLocals, Value.category, maxLocals]; done) | rfl
theorem ef_own_canI (m : MethodId)  : entryFrame m #[(.int (46 : Int32))] 1 = mkF m 0 #[.val (.int (46 : Int32))] [] := by first | (simp [entryFrame, mkF, argsToLocals, Value.category, maxLocals]; done) | rfl
theorem ef_own_lioA0 (m : MethodId) (t : Addr) : entryFrame m #[(.ref t), (.int (46 : Int32)), (.int (-1 : Int32))] 4 = mkF m 0 #[.val (.ref t), .val (.int (46 : Int32)), .val (.int (-1 : Int32)), .unset] [] := by first | (simp [entryFrame, mkF, argsToLocals, Value.category, maxLocals]; done) | rfl
theorem ef_own_lioA1 (m : MethodId) (t : Addr) : entryFrame m #[(.ref t), (.int (46 : Int32)), (.int (0 : Int32))] 4 = mkF m 0 #[.val (.ref t), .val (.int (46 : Int32)), .val (.int (0 : Int32)), .unset] [] := by first | (simp [entryFrame, mkF, argsToLocals, Value.category, maxLocals]; done) | rfl
theorem ef_own_lioA2 (m : MethodId) (t : Addr) : entryFrame m #[(.ref t), (.int (46 : Int32)), (.int (1 : Int32))] 4 = mkF m 0 #[.val (.ref t), .val (.int (46 : Int32)), .val (.int (1 : Int32)), .unset] [] := by first | (simp [entryFrame, mkF, argsToLocals, Value.category, maxLocals]; done) | rfl
theorem ef_own_lioA3 (m : MethodId) (t : Addr) : entryFrame m #[(.ref t), (.int (46 : Int32)), (.int (2 : Int32))] 4 = mkF m 0 #[.val (.ref t), .val (.int (46 : Int32)), .val (.int (2 : Int32)), .unset] [] := by first | (simp [entryFrame, mkF, argsToLocals, Value.category, maxLocals]; done) | rfl
theorem ef_own_lioA4 (m : MethodId) (t : Addr) : entryFrame m #[(.ref t), (.int (46 : Int32)), (.int (3 : Int32))] 4 = mkF m 0 #[.val (.ref t), .val (.int (46 : Int32)), .val (.int (3 : Int32)), .unset] [] := by first | (simp [entryFrame, mkF, argsToLocals, Value.category, maxLocals]; done) | rfl
theorem ef_own_lioB (m : MethodId) (x : Addr) (q1 : Int32) : entryFrame m #[(.ref x), (.int (46 : Int32)), (.int q1)] 3 = mkF m 0 #[.val (.ref x), .val (.int (46 : Int32)), .val (.int q1)] [] := by first | (simp [entryFrame, mkF, argsToLocals, Value.category, maxLocals]; done) | rfl
theorem ef_own_lio (m : MethodId) (x : Addr) : entryFrame m #[(.ref x), (.int (46 : Int32))] 2 = mkF m 0 #[.val (.ref x), .val (.int (46 : Int32))] [] := by first | (simp [entryFrame, mkF, argsToLocals, Value.category, maxLocals]; done) | rfl
theorem ef_own_cft (m : MethodId) (s0 : Int32) (n : Int32) (fm : Value) (r_fm : fm.isRef = true) : entryFrame m #[(.int s0), (.int n), (.int n), fm] 4 = mkF m 0 #[.val (.int s0), .val (.int n), .val (.int n), .val fm] [] := by
  rcases ref_cases r_fm with rfl | ⟨_, rfl⟩ <;> first | (simp [entryFrame, mkF, argsToLocals, Value.category, maxLocals]; done) | rfl
theorem ef_own_cbe (m : MethodId) (s0 : Int32) (n : Int32) : entryFrame m #[(.int s0), (.int n), (.int n)] 3 = mkF m 0 #[.val (.int s0), .val (.int n), .val (.int n)] [] := by first | (simp [entryFrame, mkF, argsToLocals, Value.category, maxLocals]; done) | rfl
theorem ef_own_chl (m : MethodId) (s0 : Int32) (n : Int32) : entryFrame m #[(.int s0), (.int n)] 2 = mkF m 0 #[.val (.int s0), .val (.int n)] [] := by first | (simp [entryFrame, mkF, argsToLocals, Value.category, maxLocals]; done) | rfl
theorem ef_own_newB (m : MethodId) (x : Addr) (t : Addr) : entryFrame m #[(.ref x), (.ref t), (.int (0 : Int32))] 3 = mkF m 0 #[.val (.ref x), .val (.ref t), .val (.int (0 : Int32))] [] := by first | (simp [entryFrame, mkF, argsToLocals, Value.category, maxLocals]; done) | rfl
theorem ef_own_crb41 (m : MethodId) (t : Addr) : entryFrame m #[(.ref t), (.int (1 : Int32)), (.int (4 : Int32))] 5 = mkF m 0 #[.val (.ref t), .val (.int (1 : Int32)), .val (.int (4 : Int32)), .unset, .unset] [] := by first | (simp [entryFrame, mkF, argsToLocals, Value.category, maxLocals]; done) | rfl
theorem ef_own_cor41 (m : MethodId) (t : Addr) : entryFrame m #[(.ref t), (.int (1 : Int32)), (.int (4 : Int32))] 3 = mkF m 0 #[.val (.ref t), .val (.int (1 : Int32)), .val (.int (4 : Int32))] [] := by first | (simp [entryFrame, mkF, argsToLocals, Value.category, maxLocals]; done) | rfl
theorem ef_own_nst41 (m : MethodId) (t : Addr) : entryFrame m #[(.ref t), (.int (1 : Int32)), (.int (3 : Int32))] 3 = mkF m 0 #[.val (.ref t), .val (.int (1 : Int32)), .val (.int (3 : Int32))] [] := by first | (simp [entryFrame, mkF, argsToLocals, Value.category, maxLocals]; done) | rfl
theorem ef_own_crb42 (m : MethodId) (t : Addr) : entryFrame m #[(.ref t), (.int (2 : Int32)), (.int (4 : Int32))] 5 = mkF m 0 #[.val (.ref t), .val (.int (2 : Int32)), .val (.int (4 : Int32)), .unset, .unset] [] := by first | (simp [entryFrame, mkF, argsToLocals, Value.category, maxLocals]; done) | rfl
theorem ef_own_cor42 (m : MethodId) (t : Addr) : entryFrame m #[(.ref t), (.int (2 : Int32)), (.int (4 : Int32))] 3 = mkF m 0 #[.val (.ref t), .val (.int (2 : Int32)), .val (.int (4 : Int32))] [] := by first | (simp [entryFrame, mkF, argsToLocals, Value.category, maxLocals]; done) | rfl
theorem ef_own_nst42 (m : MethodId) (t : Addr) : entryFrame m #[(.ref t), (.int (2 : Int32)), (.int (2 : Int32))] 3 = mkF m 0 #[.val (.ref t), .val (.int (2 : Int32)), .val (.int (2 : Int32))] [] := by first | (simp [entryFrame, mkF, argsToLocals, Value.category, maxLocals]; done) | rfl
theorem ef_own_crb43 (m : MethodId) (t : Addr) : entryFrame m #[(.ref t), (.int (3 : Int32)), (.int (4 : Int32))] 5 = mkF m 0 #[.val (.ref t), .val (.int (3 : Int32)), .val (.int (4 : Int32)), .unset, .unset] [] := by first | (simp [entryFrame, mkF, argsToLocals, Value.category, maxLocals]; done) | rfl
theorem ef_own_cor43 (m : MethodId) (t : Addr) : entryFrame m #[(.ref t), (.int (3 : Int32)), (.int (4 : Int32))] 3 = mkF m 0 #[.val (.ref t), .val (.int (3 : Int32)), .val (.int (4 : Int32))] [] := by first | (simp [entryFrame, mkF, argsToLocals, Value.category, maxLocals]; done) | rfl
theorem ef_own_nst43 (m : MethodId) (t : Addr) : entryFrame m #[(.ref t), (.int (3 : Int32)), (.int (1 : Int32))] 3 = mkF m 0 #[.val (.ref t), .val (.int (3 : Int32)), .val (.int (1 : Int32))] [] := by first | (simp [entryFrame, mkF, argsToLocals, Value.category, maxLocals]; done) | rfl
theorem ef_own_nst44 (m : MethodId) (t : Addr) : entryFrame m #[(.ref t), (.int (4 : Int32)), (.int (0 : Int32))] 3 = mkF m 0 #[.val (.ref t), .val (.int (4 : Int32)), .val (.int (0 : Int32))] [] := by first | (simp [entryFrame, mkF, argsToLocals, Value.category, maxLocals]; done) | rfl
theorem ef_own_crb31 (m : MethodId) (t : Addr) : entryFrame m #[(.ref t), (.int (1 : Int32)), (.int (3 : Int32))] 5 = mkF m 0 #[.val (.ref t), .val (.int (1 : Int32)), .val (.int (3 : Int32)), .unset, .unset] [] := by first | (simp [entryFrame, mkF, argsToLocals, Value.category, maxLocals]; done) | rfl
theorem ef_own_cor31 (m : MethodId) (t : Addr) : entryFrame m #[(.ref t), (.int (1 : Int32)), (.int (3 : Int32))] 3 = mkF m 0 #[.val (.ref t), .val (.int (1 : Int32)), .val (.int (3 : Int32))] [] := by first | (simp [entryFrame, mkF, argsToLocals, Value.category, maxLocals]; done) | rfl
theorem ef_own_nst31 (m : MethodId) (t : Addr) : entryFrame m #[(.ref t), (.int (1 : Int32)), (.int (2 : Int32))] 3 = mkF m 0 #[.val (.ref t), .val (.int (1 : Int32)), .val (.int (2 : Int32))] [] := by first | (simp [entryFrame, mkF, argsToLocals, Value.category, maxLocals]; done) | rfl
theorem ef_own_crb32 (m : MethodId) (t : Addr) : entryFrame m #[(.ref t), (.int (2 : Int32)), (.int (3 : Int32))] 5 = mkF m 0 #[.val (.ref t), .val (.int (2 : Int32)), .val (.int (3 : Int32)), .unset, .unset] [] := by first | (simp [entryFrame, mkF, argsToLocals, Value.category, maxLocals]; done) | rfl
theorem ef_own_cor32 (m : MethodId) (t : Addr) : entryFrame m #[(.ref t), (.int (2 : Int32)), (.int (3 : Int32))] 3 = mkF m 0 #[.val (.ref t), .val (.int (2 : Int32)), .val (.int (3 : Int32))] [] := by first | (simp [entryFrame, mkF, argsToLocals, Value.category, maxLocals]; done) | rfl
theorem ef_own_nst32 (m : MethodId) (t : Addr) : entryFrame m #[(.ref t), (.int (2 : Int32)), (.int (1 : Int32))] 3 = mkF m 0 #[.val (.ref t), .val (.int (2 : Int32)), .val (.int (1 : Int32))] [] := by first | (simp [entryFrame, mkF, argsToLocals, Value.category, maxLocals]; done) | rfl
theorem ef_own_nst33 (m : MethodId) (t : Addr) : entryFrame m #[(.ref t), (.int (3 : Int32)), (.int (0 : Int32))] 3 = mkF m 0 #[.val (.ref t), .val (.int (3 : Int32)), .val (.int (0 : Int32))] [] := by first | (simp [entryFrame, mkF, argsToLocals, Value.category, maxLocals]; done) | rfl
theorem ef_own_crb21 (m : MethodId) (t : Addr) : entryFrame m #[(.ref t), (.int (1 : Int32)), (.int (2 : Int32))] 5 = mkF m 0 #[.val (.ref t), .val (.int (1 : Int32)), .val (.int (2 : Int32)), .unset, .unset] [] := by first | (simp [entryFrame, mkF, argsToLocals, Value.category, maxLocals]; done) | rfl
theorem ef_own_cor21 (m : MethodId) (t : Addr) : entryFrame m #[(.ref t), (.int (1 : Int32)), (.int (2 : Int32))] 3 = mkF m 0 #[.val (.ref t), .val (.int (1 : Int32)), .val (.int (2 : Int32))] [] := by first | (simp [entryFrame, mkF, argsToLocals, Value.category, maxLocals]; done) | rfl
theorem ef_own_nst21 (m : MethodId) (t : Addr) : entryFrame m #[(.ref t), (.int (1 : Int32)), (.int (1 : Int32))] 3 = mkF m 0 #[.val (.ref t), .val (.int (1 : Int32)), .val (.int (1 : Int32))] [] := by first | (simp [entryFrame, mkF, argsToLocals, Value.category, maxLocals]; done) | rfl
theorem ef_own_nst22 (m : MethodId) (t : Addr) : entryFrame m #[(.ref t), (.int (2 : Int32)), (.int (0 : Int32))] 3 = mkF m 0 #[.val (.ref t), .val (.int (2 : Int32)), .val (.int (0 : Int32))] [] := by first | (simp [entryFrame, mkF, argsToLocals, Value.category, maxLocals]; done) | rfl
theorem ef_own_nst11 (m : MethodId) (t : Addr) : entryFrame m #[(.ref t), (.int (1 : Int32)), (.int (0 : Int32))] 3 = mkF m 0 #[.val (.ref t), .val (.int (1 : Int32)), .val (.int (0 : Int32))] [] := by first | (simp [entryFrame, mkF, argsToLocals, Value.category, maxLocals]; done) | rfl
theorem ef_own_sbB (m : MethodId) (x : Addr) (s0 : Int32) (n0 : Int32) : entryFrame m #[(.ref x), (.int s0), (.int n0)] 5 = mkF m 0 #[.val (.ref x), .val (.int s0), .val (.int n0), .unset, .unset] [] := by first | (simp [entryFrame, mkF, argsToLocals, Value.category, maxLocals]; done) | rfl
theorem ef_own_sb (m : MethodId) (x : Addr) (s0 : Int32) : entryFrame m #[(.ref x), (.int s0)] 2 = mkF m 0 #[.val (.ref x), .val (.int s0)] [] := by first | (simp [entryFrame, mkF, argsToLocals, Value.category, maxLocals]; done) | rfl
theorem ef_own_chc (m : MethodId) (x0 : Int32) : entryFrame m #[(.int x0)] 2 = mkF m 0 #[.val (.int x0), .unset] [] := by first | (simp [entryFrame, mkF, argsToLocals, Value.category, maxLocals]; done) | rfl
theorem ef_own_pickc (m : MethodId) (j : Int32) (d0 : Int32) (d1 : Int32) (d2 : Int32) (d3 : Int32) : entryFrame m #[(.int j), (.int d0), (.int d1), (.int d2), (.int d3)] 5 = mkF m 0 #[.val (.int j), .val (.int d0), .val (.int d1), .val (.int d2), .val (.int d3)] [] := by first | (simp [entryFrame, mkF, argsToLocals, Value.category, maxLocals]; done) | rfl
theorem ef_own_exd (m : MethodId) (x : Addr) : entryFrame m #[(.ref x)] 1 = mkF m 0 #[.val (.ref x)] [] := by first | (simp [entryFrame, mkF, argsToLocals, Value.category, maxLocals]; done) | rfl
theorem ef_own_exo (m : MethodId) (x : Addr) : entryFrame m #[(.ref x)] 3 = mkF m 0 #[.val (.ref x), .unset, .unset] [] := by first | (simp [entryFrame, mkF, argsToLocals, Value.category, maxLocals]; done) | rfl
theorem ef_own_law (m : MethodId) (i0 : Int32) (i1 : Int32) (i2 : Int32) (i3 : Int32) (i4 : Int32) : entryFrame m #[(.int i0), (.int i1), (.int i2), (.int i3), (.int i4)] maxLocals = mkF m 0 #[.val (.int i0), .val (.int i1), .val (.int i2), .val (.int i3), .val (.int i4), .unset, .unset, .unset, .unset, .unset, .unset, .unset, .unset, .unset, .unset] [] := by first | (simp [entryFrame, mkF, argsToLocals, Value.category, maxLocals]; done) | rfl
def own_l1 (d0 : Int32) : Int32 := if d0 = 46 then 0 else -1
def own_l2 (d0 d1 : Int32) : Int32 := if d1 = 46 then 1 else own_l1 d0
def own_l3 (d0 d1 d2 : Int32) : Int32 := if d2 = 46 then 2 else own_l2 d0 d1
def own_l4 (d0 d1 d2 d3 : Int32) : Int32 := if d3 = 46 then 3 else own_l3 d0 d1 d2
theorem own_b46 {d : Int32} (h : ¬ d < 0 ∧ ¬ (255 : Int32) < d) : (d.toInt8.toInt32 = (46 : Int32)) ↔ d = 46 := by
  obtain ⟨k, hk⟩ : ∃ k : Fin 256, d = Int32.ofNat k.val := by
    have h1 := h.1
    have h2 := h.2
    rw [Int32.lt_iff_toInt_lt] at h1 h2
    have e0 : (0 : Int32).toInt = 0 := rfl
    have e1 : (255 : Int32).toInt = 255 := rfl
    refine ⟨⟨d.toInt.toNat, by omega⟩, ?_⟩
    apply Int32.toInt_inj.mp
    show d.toInt = (Int32.ofNat d.toInt.toNat).toInt
    rw [Int32.toInt_ofNat_of_lt (by omega)]
    omega
  subst hk
  have t : ∀ k : Fin 256, (Int32.ofNat k.val).toInt8.toInt32 = (46 : Int32) ↔ Int32.ofNat k.val = 46 := by decide +kernel
  exact t k
def own_last : List Int32 → Int32
  | [] => -1
  | [d0] => own_l1 d0
  | [d0, d1] => own_l2 d0 d1
  | [d0, d1, d2] => own_l3 d0 d1 d2
  | [d0, d1, d2, d3] => own_l4 d0 d1 d2 d3
  | _ => 0
def own_sN : List Int32 → Nat
  | [] => 0
  | [d0] => if d0 = 46 then 1 else 0
  | [d0, d1] => if d1 = 46 then 2 else if d0 = 46 then 1 else 0
  | [d0, d1, d2] => if d2 = 46 then 3 else if d1 = 46 then 2 else if d0 = 46 then 1 else 0
  | [d0, d1, d2, d3] => if d3 = 46 then 4 else if d2 = 46 then 3 else if d1 = 46 then 2 else if d0 = 46 then 1 else 0
  | _ => 0
theorem own_last_s (cs : List Int32) (h : cs.length ≤ 4) : own_last cs + 1 = Int32.ofNat (own_sN cs) ∧ own_sN cs ≤ cs.length := by
  have z0 : Int32.ofNat 0 = 0 := rfl
  have z1 : Int32.ofNat 1 = 1 := rfl
  have z2 : Int32.ofNat 2 = 2 := rfl
  have z3 : Int32.ofNat 3 = 3 := rfl
  have z4 : Int32.ofNat 4 = 4 := rfl
  match cs, h with
  | [], _ => exact ⟨by decide, by decide⟩
  | [d0], _ => by_cases h0 : d0 = 46 <;> simp [own_last, own_sN, own_l1, h0, z0, z1] <;> decide
  | [d0, d1], _ => by_cases h0 : d0 = 46 <;> by_cases h1 : d1 = 46 <;> simp [own_last, own_sN, own_l2, own_l1, h0, h1, z0, z1, z2] <;> decide
  | [d0, d1, d2], _ => by_cases h0 : d0 = 46 <;> by_cases h1 : d1 = 46 <;> by_cases h2 : d2 = 46 <;> simp [own_last, own_sN, own_l3, own_l2, own_l1, h0, h1, h2, z0, z1, z2, z3] <;> decide
  | [d0, d1, d2, d3], _ => by_cases h0 : d0 = 46 <;> by_cases h1 : d1 = 46 <;> by_cases h2 : d2 = 46 <;> by_cases h3 : d3 = 46 <;> simp [own_last, own_sN, own_l4, own_l3, own_l2, own_l1, h0, h1, h2, h3, z0, z1, z2, z3, z4] <;> decide
  | _ :: _ :: _ :: _ :: _ :: _, h => exact absurd h (by simp only [List.length_cons, List.length_nil]; omega)
theorem own_f1 {s : Nat} (h : s ≤ 4) : ¬ Int32.ofNat s < 0 := (by decide +kernel : ∀ k : Fin 5, ¬ Int32.ofNat k.val < 0) ⟨s, by omega⟩
theorem own_f2 {s n : Nat} (h : s ≤ n) (h4 : n ≤ 4) : ¬ Int32.ofNat n < Int32.ofNat s := (by decide +kernel : ∀ j k : Fin 5, j.val ≤ k.val → ¬ Int32.ofNat k.val < Int32.ofNat j.val) ⟨s, by omega⟩ ⟨n, by omega⟩ h
theorem own_f3 {s : Nat} (h : s ≤ 4) (q : Int32.ofNat s = 0) : s = 0 := (by decide +kernel : ∀ k : Fin 5, Int32.ofNat k.val = 0 → k.val = 0) ⟨s, by omega⟩ q
theorem own_f4 {j n : Nat} (hj : j ≤ 4) (h4 : n ≤ 4) (q : Int32.ofNat j < Int32.ofNat n) : j < n := (by decide +kernel : ∀ j k : Fin 5, Int32.ofNat j.val < Int32.ofNat k.val → j.val < k.val) ⟨j, by omega⟩ ⟨n, by omega⟩ q
theorem own_f5 {s n : Nat} (h : s ≤ n) (h4 : n ≤ 4) : Int32.ofNat n - Int32.ofNat s = Int32.ofNat (n - s) := (by decide +kernel : ∀ j k : Fin 5, j.val ≤ k.val → Int32.ofNat k.val - Int32.ofNat j.val = Int32.ofNat (k.val - j.val)) ⟨s, by omega⟩ ⟨n, by omega⟩ h
theorem own_f6 {s j : Nat} (h : s + j < 4) : (¬ (Int32.ofNat s + Int32.ofNat j) < 0 ∧ (Int32.ofNat s + Int32.ofNat j) < (4 : Int32)) ∧ (Int32.ofNat s + Int32.ofNat j).toNatClampNeg = s + j := (by decide +kernel : ∀ j k : Fin 4, j.val + k.val < 4 → (¬ (Int32.ofNat j.val + Int32.ofNat k.val) < 0 ∧ (Int32.ofNat j.val + Int32.ofNat k.val) < (4 : Int32)) ∧ (Int32.ofNat j.val + Int32.ofNat k.val).toNatClampNeg = j.val + k.val) ⟨s, by omega⟩ ⟨j, by omega⟩ h

def own_pick (j d0 d1 d2 d3 : Int32) : Int32 := if j = 0 then d0 else if j = 1 then d1 else if j = 2 then d2 else d3
def own_ext (cs : List Int32) : List Int32 := if 0 < own_last cs then cs.drop (own_sN cs) else []
theorem own_511 (x : Int32) (h : (x &&& (511 : Int32)) < (256 : Int32)) : ¬ (x &&& (511 : Int32)) < 0 ∧ ¬ (255 : Int32) < (x &&& (511 : Int32)) := by
  have q := (c_and x 511 (by decide)).1
  rw [Int32.lt_iff_toInt_lt] at h
  have e0 : (0 : Int32).toInt = 0 := by decide
  have e1 : (255 : Int32).toInt = 255 := by decide
  have e2 : (256 : Int32).toInt = 256 := by decide
  rw [Int32.lt_iff_toInt_lt, Int32.lt_iff_toInt_lt]
  omega
theorem own_e4 {k : Nat} (hk : k ≤ 4) {d0 d1 d2 d3 nn e1 e2 e3 e4 : Int32} (hn : nn = Int32.ofNat k) (h1 : e1 = (if (0 : Int32) < nn then (if d0 = (46 : Int32) then (0 : Int32) else (-1 : Int32)) else (-1 : Int32))) (h2 : e2 = (if (1 : Int32) < nn then (if d1 = (46 : Int32) then (1 : Int32) else e1) else e1)) (h3 : e3 = (if (2 : Int32) < nn then (if d2 = (46 : Int32) then (2 : Int32) else e2) else e2)) (h4 : e4 = (if (3 : Int32) < nn then (if d3 = (46 : Int32) then (3 : Int32) else e3) else e3)) : e4 = own_last (([d0, d1, d2, d3] : List Int32).take k) := by
  have hc : k = 0 ∨ k = 1 ∨ k = 2 ∨ k = 3 ∨ k = 4 := by omega
  rcases hc with rfl | rfl | rfl | rfl | rfl
  · obtain rfl : nn = (0 : Int32) := hn
    subst h1 h2 h3 h4
    first | (simp [own_last]; done) | (simp [own_last] <;> (repeat' split) <;> simp_all)
  · obtain rfl : nn = (1 : Int32) := hn
    subst h1 h2 h3 h4
    first | (simp [own_last, own_l1]; done) | (simp [own_last, own_l1] <;> (repeat' split) <;> simp_all)
  · obtain rfl : nn = (2 : Int32) := hn
    subst h1 h2 h3 h4
    first | (simp [own_last, own_l2, own_l1]; done) | (simp [own_last, own_l2, own_l1] <;> (repeat' split) <;> simp_all)
  · obtain rfl : nn = (3 : Int32) := hn
    subst h1 h2 h3 h4
    first | (simp [own_last, own_l3, own_l2, own_l1]; done) | (simp [own_last, own_l3, own_l2, own_l1] <;> (repeat' split) <;> simp_all)
  · obtain rfl : nn = (4 : Int32) := hn
    subst h1 h2 h3 h4
    first | (simp [own_last, own_l4, own_l3, own_l2, own_l1]; done) | (simp [own_last, own_l4, own_l3, own_l2, own_l1] <;> (repeat' split) <;> simp_all)
theorem own_tk {k : Nat} (hk : k ≤ 4) (d0 d1 d2 d3 : Int32) : (([d0, d1, d2, d3] : List Int32).take k).length = k := by simp; omega
theorem own_mm {k s : Nat} {nn e4 mm : Int32} (hk : k ≤ 4) (hs : s ≤ k) (hn : nn = Int32.ofNat k) (he : e4 + 1 = Int32.ofNat s) (h0 : 0 < e4) (hm : mm = (nn - e4) - (1 : Int32)) : mm = Int32.ofNat (k - s) ∧ k - s ≤ 2 := by
  have e : e4 = Int32.ofNat s - 1 := by rw [← he, Int32.add_sub_cancel]
  subst e hn hm
  have t : ∀ a b : Fin 5, a.val ≤ b.val → (0 : Int32) < Int32.ofNat a.val - 1 → (Int32.ofNat b.val - (Int32.ofNat a.val - 1)) - (1 : Int32) = Int32.ofNat (b.val - a.val) ∧ b.val - a.val ≤ 2 := by decide +kernel
  exact t ⟨s, by omega⟩ ⟨k, by omega⟩ hs h0
theorem own_m3 {m : Nat} {mm : Int32} (h : mm = Int32.ofNat m) (h2 : m ≤ 2) : mm = 0 ∨ mm = 1 ∨ mm = 2 := by
  subst h
  have t : ∀ a : Fin 3, Int32.ofNat a.val = 0 ∨ Int32.ofNat a.val = 1 ∨ Int32.ofNat a.val = 2 := by decide +kernel
  exact t ⟨m, by omega⟩
theorem own_mN {m : Nat} {mm : Int32} (h2 : m ≤ 2) (h : mm = Int32.ofNat m) : mm.toNatClampNeg = m := by
  subst h
  have t : ∀ a : Fin 3, (Int32.ofNat a.val).toNatClampNeg = a.val := by decide +kernel
  exact t ⟨m, by omega⟩
theorem own_pk {k s j : Nat} {d0 d1 d2 d3 e4 J : Int32} (hk : k ≤ 4) (hj : j < k - s) (he : e4 + 1 = Int32.ofNat s) (hJ : J = Int32.ofNat (j + 1)) : ((([d0, d1, d2, d3] : List Int32).take k).drop s).getD j 0 = own_pick (e4 + J) d0 d1 d2 d3 := by
  have e : e4 + J = Int32.ofNat (s + j) := by
    have e1 : e4 = Int32.ofNat s - 1 := by rw [← he, Int32.add_sub_cancel]
    subst e1 hJ
    have t : ∀ a b : Fin 5, (Int32.ofNat a.val - 1) + Int32.ofNat (b.val + 1) = Int32.ofNat (a.val + b.val) := by decide +kernel
    exact t ⟨s, by omega⟩ ⟨j, by omega⟩
  rw [e]
  have e2 : ((([d0, d1, d2, d3] : List Int32).take k).drop s).getD j 0 = ([d0, d1, d2, d3] : List Int32).getD (s + j) 0 := by
    simp only [List.getD_eq_getElem?_getD, List.getElem?_drop, List.getElem?_take]
    rw [if_pos (by omega)]
  rw [e2]
  have hq : s + j < 4 := by omega
  match s + j, hq with
  | 0, _ => rfl
  | 1, _ => rfl
  | 2, _ => rfl
  | 3, _ => rfl
  | n + 4, h => exact absurd h (by omega)

theorem own_wS {Z : State} {a0 : Array Value} (hw : ∀ d ∈ tables_1, d.before a0 Z = true) : ∀ a ∈ Bundle.stringAtoms, a.before a0 Z = true := fun d hd => hw d ((by decide +kernel : ∀ d ∈ Bundle.stringAtoms, d ∈ tables_1) d hd)
theorem own_ws {Z : State} {a0 : Array Value} (hw : ∀ d ∈ tables_1, d.before a0 Z = true) : ∀ d ∈ StrChars.Road.words, d.before a0 Z = true := fun d hd => hw d ((by decide +kernel : ∀ d ∈ StrChars.Road.words, d ∈ tables_1) d hd)
theorem own_wsLen {Z : State} {a0 : Array Value} (hw : ∀ d ∈ tables_1, d.before a0 Z = true) : ∀ d ∈ StrChars.Road.wordsLen, d.before a0 Z = true := fun d hd => hw d ((by decide +kernel : ∀ d ∈ StrChars.Road.wordsLen, d ∈ tables_1) d hd)
theorem own_wsCh {Z : State} {a0 : Array Value} (hw : ∀ d ∈ tables_1, d.before a0 Z = true) : ∀ d ∈ StrChars.Road.wordsChN, d.before a0 Z = true := fun d hd => hw d ((by decide +kernel : ∀ d ∈ StrChars.Road.wordsChN, d ∈ tables_1) d hd)
theorem own_wsEmp {Z : State} {a0 : Array Value} (hw : ∀ d ∈ tables_1, d.before a0 Z = true) : ∀ d ∈ StrChars.Road.wordsEmp, d.before a0 Z = true := fun d hd => hw d ((by decide +kernel : ∀ d ∈ StrChars.Road.wordsEmp, d ∈ tables_1) d hd)
set_option maxRecDepth 65536 in
set_option maxHeartbeats 40000000 in
theorem own_new4E (l : Launch) (Z : State) (a0 : Array Value) (hw : ∀ d ∈ tables_1, d.before a0 Z = true) (hEL : EW Z a0 consts_1) (h0 : Heap) (hO : Ext Z.heap h0) (x : Addr) (b : Addr) (E_x : Exa Z h0 x "java/lang/String") (V_x : Fld Z h0 x "java/lang/String" "value" "[B" .null) (C_x : Fld Z h0 x "java/lang/String" "coder" "B" (.int (0 : Int32))) (gz_x : Z.heap.size ≤ x) :
    CtrS l Z consts_1 (⟨"java/lang/String", "<init>", "([CIILjava/lang/Void;)V"⟩ : MethodName) jdk_42_method_149_code 6 none ({ frames := 1, cells := 4, slots := 8, locals := 12 } : Room) #[(.ref x), (.ref b), (.int (0 : Int32)), (.int (0 : Int32)), .null] h0 (fun v h' => Keep h0 h' [x] ∧ v = none ∧ LStr Z h' x []) := by
  refine CtrS.of (plainFor_of_name pn_0) hO ?_
  intro p e s m below meth c T0 X0 hsh hby hml hret hlk hnm
  refine Goes.cast (ef_own_new4E m x b) ?_
  show Goes _ _ _ _ T0 (mkF m 0 #[.val (.ref x), .val (.ref b), .val (.int (0 : Int32)), .val (.int (0 : Int32)), .val .null, .unset] [])
  refine Goes.go (fun _ kS_ => XS.aloadN X0.here X0.ex rfl (hb hby d_jdk_42_method_149_0) rfl rfl kS_) ?_
  show Goes _ _ _ _ T0 (mkF m 1 #[.val (.ref x), .val (.ref b), .val (.int (0 : Int32)), .val (.int (0 : Int32)), .val .null, .unset] [(.ref x)])
  refine Wk.initO X0 (w_16 hw) (w_17 hw) (w_18 hw) rfl (by rw [hml]; rfl) rfl (hb hby d_jdk_42_method_149_1) (by decide) (W := 0) (by show 2 * 0 + _ ≤ _; exact Nat.le_of_eq rfl) (by decide) ?_
  intro T1 X1
  show Goes _ _ _ _ T1 (mkF m 4 #[.val (.ref x), .val (.ref b), .val (.int (0 : Int32)), .val (.int (0 : Int32)), .val .null, .unset] [])
  refine Goes.go (fun _ kS_ => XS.iloadN X1.here X1.ex rfl (hb hby d_jdk_42_method_149_4) rfl (XS.ifNo X1.here X1.ex rfl (hb hby d_jdk_42_method_149_5) rfl ((if0 _ _).trans (cd_f (cd := .ne) (x := (0 : Int32)) (y := (0 : Int32)) (by decide))) (XS.aloadN X1.here X1.ex rfl (hb hby d_jdk_42_method_149_8) rfl rfl kS_))) ?_
  show Goes _ _ _ _ T1 (mkF m 9 #[.val (.ref x), .val (.ref b), .val (.int (0 : Int32)), .val (.int (0 : Int32)), .val .null, .unset] [(.ref x)])
  have K0 : Keep h0 h0 [x] := Keep.refl _ _
  refine Wk.ldcR X1 (w_19 hw) (own_wS hw) hEL (by decide) (vs := []) (z := 0) ⟨by decide, rfl⟩ (by decide) rfl rfl (hb hby d_jdk_42_method_149_9) (n := 0) (by decide) (by decide) (by decide) (by decide) ?_
  intro T2 h2 a2 b2 k2 X2 E2 Ea2 Ca2 Va2 Ab2
  replace E_x := E_x.ext E2
  replace V_x := V_x.ext E2
  replace C_x := C_x.ext E2
  replace K0 := K0.ext E2
  show Goes _ _ _ _ T2 (mkF m 11 #[.val (.ref x), .val (.ref b), .val (.int (0 : Int32)), .val (.int (0 : Int32)), .val .null, .unset] [(.ref a2), (.ref x)])
  refine Wk.getF X2 (host := "") (Or.inl (w_25 hw)) Via.refl Va2 rfl rfl (hb hby d_jdk_42_method_149_11) ?_
  intro T3 X3
  show Goes _ _ _ _ T3 (mkF m 14 #[.val (.ref x), .val (.ref b), .val (.int (0 : Int32)), .val (.int (0 : Int32)), .val .null, .unset] [(.ref b2), (.ref x)])
  have nb : b2 ≠ x := (Exa.neArv E_x Ab2 (w_6 hw)).symm
  refine Wk.putF (hm' := fun h' => h') X3 (host := "") (Or.inl (w_25 hw)) Via.refl V_x E_x (Or.inr ⟨(w_21 hw), rfl, hnm⟩) (w_6 hw) (ty := (.array .byte)) (by decide) rfl rfl gz_x (fun _ => Mark.anew (allS (Or.inr (SafeA.null E_x V_x)) all0)) rfl rfl (hb hby d_jdk_42_method_149_14) ?_
  intro T4 h4 X4 W4
  have F4 := V_x.same W4
  replace E_x := E_x.wr W4
  replace C_x := C_x.other W4 (Or.inr (slot_ne (Or.inr (w_22 hw)) (Or.inr (w_21 hw)) (by decide) (t := .byte) (t' := (.array .byte)) (by decide) (by decide)))
  replace Ab2 := Ab2.other W4 nb
  clear V_x; have V_x := F4
  show Goes _ _ _ _ T4 (mkF m 17 #[.val (.ref x), .val (.ref b), .val (.int (0 : Int32)), .val (.int (0 : Int32)), .val .null, .unset] [])
  replace K0 := K0.wr W4 (Or.inl (List.mem_of_getElem? (i := 0) rfl))
  refine Goes.go (fun _ kS_ => XS.aloadN X4.here X4.ex rfl (hb hby d_jdk_42_method_149_17) rfl rfl kS_) ?_
  show Goes _ _ _ _ T4 (mkF m 18 #[.val (.ref x), .val (.ref b), .val (.int (0 : Int32)), .val (.int (0 : Int32)), .val .null, .unset] [(.ref x)])
  refine Wk.ldcR X4 (w_19 hw) (own_wS hw) hEL (by decide) (vs := []) (z := 0) ⟨by decide, rfl⟩ (by decide) rfl rfl (hb hby d_jdk_42_method_149_18) (n := 0) (by decide) (by decide) (by decide) (by decide) ?_
  intro T5 h5 a5 b5 k5 X5 E5 Ea5 Ca5 Va5 Ab5
  replace E_x := E_x.ext E5
  replace C_x := C_x.ext E5
  replace Ab2 := Ab2.ext E5
  replace V_x := V_x.ext E5
  replace K0 := K0.ext E5
  show Goes _ _ _ _ T5 (mkF m 20 #[.val (.ref x), .val (.ref b), .val (.int (0 : Int32)), .val (.int (0 : Int32)), .val .null, .unset] [(.ref a5), (.ref x)])
  refine Wk.getF X5 (host := "") (Or.inl (w_26 hw)) Via.refl Ca5 rfl rfl (hb hby d_jdk_42_method_149_20) ?_
  intro T6 X6
  show Goes _ _ _ _ T6 (mkF m 23 #[.val (.ref x), .val (.ref b), .val (.int (0 : Int32)), .val (.int (0 : Int32)), .val .null, .unset] [(.int (0 : Int32)), (.ref x)])
  refine Wk.putFNsame X6 (w_26 hw) Via.refl C_x E_x (Or.inr ⟨(w_22 hw), rfl, hnm⟩) (w_6 hw) (ty := .byte) (by decide) rfl rfl gz_x rfl rfl (hb hby d_jdk_42_method_149_23) ?_
  intro T7 X7
  show Goes _ _ _ _ T7 (mkF m 26 #[.val (.ref x), .val (.ref b), .val (.int (0 : Int32)), .val (.int (0 : Int32)), .val .null, .unset] [])
  refine Goes.outS X7 hEL (fun _ => rfl) hlk (X7.rV hret (hb hby d_jdk_42_method_149_26)) ?_ (by decide) (by decide)
  exact ⟨K0, rfl, E_x, C_x, ⟨_, _, V_x, Ab2⟩, (fun _ q => nomatch q), by decide⟩
set_option maxRecDepth 65536 in
set_option maxHeartbeats 40000000 in
theorem own_new1E (l : Launch) (Z : State) (a0 : Array Value) (hw : ∀ d ∈ tables_1, d.before a0 Z = true) (hEL : EW Z a0 consts_1) (h0 : Heap) (hO : Ext Z.heap h0) (x : Addr) (b : Addr) (E_x : Exa Z h0 x "java/lang/String") (V_x : Fld Z h0 x "java/lang/String" "value" "[B" .null) (C_x : Fld Z h0 x "java/lang/String" "coder" "B" (.int (0 : Int32))) (gz_x : Z.heap.size ≤ x) (kC : ClassId) (dv : Value) (V_b : Arv Z h0 b kC .char (0 : Int32) [] dv) :
    CtrS l Z consts_1 (⟨"java/lang/String", "<init>", "([C)V"⟩ : MethodName) jdk_42_method_3_code 2 none ({ frames := 2, cells := 4, slots := 8, locals := 29 } : Room) #[(.ref x), (.ref b)] h0 (fun v h' => Keep h0 h' [x] ∧ v = none ∧ LStr Z h' x []) := by
  refine CtrS.of (plainFor_of_name pn_0) hO ?_
  intro p e s m below meth c T0 X0 hsh hby hml hret hlk hnm
  refine Goes.cast (ef_own_new1E m x b) ?_
  show Goes _ _ _ _ T0 (mkF m 0 #[.val (.ref x), .val (.ref b)] [])
  refine Goes.go (fun _ kS_ => XS.aloadN X0.here X0.ex rfl (hb hby d_jdk_42_method_3_0) rfl rfl (XS.aloadN X0.here X0.ex rfl (hb hby d_jdk_42_method_3_1) rfl rfl (XS.iconst X0.here X0.ex rfl (hb hby d_jdk_42_method_3_2) (XS.aloadN X0.here X0.ex rfl (hb hby d_jdk_42_method_3_3) rfl rfl kS_)))) ?_
  show Goes _ _ _ _ T0 (mkF m 4 #[.val (.ref x), .val (.ref b)] [(.ref b), (.int (0 : Int32)), (.ref b), (.ref x)])
  refine Goes.go (X0.alen V_b rfl rfl (hb hby d_jdk_42_method_3_4)) ?_
  show Goes _ _ _ _ T0 (mkF m 5 #[.val (.ref x), .val (.ref b)] [(.int (0 : Int32)), (.int (0 : Int32)), (.ref b), (.ref x)])
  refine Goes.go (fun _ kS_ => XS.aconstNull X0.here X0.ex rfl (hb hby d_jdk_42_method_3_5) kS_) ?_
  show Goes _ _ _ _ T0 (mkF m 6 #[.val (.ref x), .val (.ref b)] [.null, (.int (0 : Int32)), (.int (0 : Int32)), (.ref b), (.ref x)])
  refine Wk.specialS (y := (⟨"java/lang/String", "<init>", "([CIILjava/lang/Void;)V"⟩ : MethodName)) (W := 0) (kc := 4) (ks := 8) (argsL := [(.ref b), (.int (0 : Int32)), (.int (0 : Int32)), .null]) (rest := []) (as' := #[(.ref x), (.ref b), (.int (0 : Int32)), (.int (0 : Int32)), .null]) (ws := [x]) X0 rfl (w_12 hw) (w_13 hw) (w_15 hw) (by decide) (CtrS.pays (own_new4E l Z a0 hw hEL h0 hO x b E_x V_x C_x gz_x) (w_15 hw) (w_7 hw) (by decide) (by decide) hEL) (fun v h' L q => ⟨q.2, q.1.1⟩) (allS gz_x all0) rfl (by rw [hml]; rfl) (lenOf pd_0 rfl) rfl rfl (by show 2 * 0 + _ ≤ _; exact Nat.le_of_eq rfl) (hb hby d_jdk_42_method_3_6) (by decide) (by decide) ?_
  intro T8 h8 v8 L8 X8 q8 K8
  obtain ⟨⟨-, rfl, Sx8⟩, -⟩ := q8
  show Goes _ _ _ _ T8 (mkF m 9 #[.val (.ref x), .val (.ref b)] [])
  refine Goes.outS X8 hEL (fun _ => rfl) hlk (X8.rV hret (hb hby d_jdk_42_method_3_9)) ?_ (by decide) (by decide)
  exact ⟨K8, rfl, Sx8⟩
set_option maxRecDepth 65536 in
set_option maxHeartbeats 40000000 in
theorem own_isL1 (l : Launch) (Z : State) (a0 : Array Value) (hw : ∀ d ∈ tables_1, d.before a0 Z = true) (h0 : Heap) (hO : Ext Z.heap h0) (x : Addr) (G1 : Int32) (O2 : Sta Z Z.heap "java/lang/String" "COMPACT_STRINGS" "Z" (.int G1)) (P5 : ¬ (G1 = (0 : Int32))) (C_x : Fld Z h0 x "java/lang/String" "coder" "B" (.int (0 : Int32))) :
    CtrN l Z (⟨"java/lang/String", "isLatin1", "()Z"⟩ : MethodName) jdk_42_method_154_code 1 (some .boolean) ({ frames := 0, cells := 0, slots := 0, locals := 0 } : Room) #[(.ref x)] h0 (fun v h' => Keep h0 h' [] ∧ v = some (.int (1 : Int32))) := by
  refine CtrN.of (plainFor_of_name pn_0) hO ?_
  intro p e s m below meth c T0 X0 hsh hby hml hret hlk hnm
  refine Goes.cast (ef_own_isL1 m x) ?_
  show Goes _ _ _ _ T0 (mkF m 0 #[.val (.ref x)] [])
  refine Wk.getS X0 (host := "") (Or.inl (w_49 hw)) Via.refl O2 rfl (hb hby d_jdk_42_method_154_0) ?_
  intro T11 X11
  show Goes _ _ _ _ T11 (mkF m 3 #[.val (.ref x)] [(.int G1)])
  refine Goes.go (fun _ kS_ => XS.ifNo X11.here X11.ex rfl (hb hby d_jdk_42_method_154_3) rfl ((if0 _ _).trans (cd_f (cd := .eq) (x := G1) (y := (0 : Int32)) (P5))) kS_) ?_
  show Goes _ _ _ _ T11 (mkF m 6 #[.val (.ref x)] [])
  refine Goes.go (fun _ kS_ => XS.aloadN X11.here X11.ex rfl (hb hby d_jdk_42_method_154_6) rfl rfl kS_) ?_
  show Goes _ _ _ _ T11 (mkF m 7 #[.val (.ref x)] [(.ref x)])
  refine Wk.getF X11 (host := "") (Or.inl (w_26 hw)) Via.refl C_x rfl rfl (hb hby d_jdk_42_method_154_7) ?_
  intro T12 X12
  show Goes _ _ _ _ T12 (mkF m 10 #[.val (.ref x)] [(.int (0 : Int32))])
  refine Goes.go (fun _ kS_ => XS.ifNo X12.here X12.ex rfl (hb hby d_jdk_42_method_154_10) rfl ((if0 _ _).trans (cd_f (cd := .ne) (x := (0 : Int32)) (y := (0 : Int32)) (by decide))) (XS.iconst X12.here X12.ex rfl (hb hby d_jdk_42_method_154_13) (XS.goto X12.here X12.ex rfl (pc0 := 14) (pc' := 18) rfl (hb hby d_jdk_42_method_154_14) (by decide) (by decide) kS_))) ?_
  show Goes _ _ _ _ T12 (mkF m 18 #[.val (.ref x)] [(.int (1 : Int32))])
  refine Goes.outN X12 (fun q => by rw [hret] at q; cases q) hlk (X12.rB hret (by simp) (hb hby d_jdk_42_method_154_18)) ?_ (by decide) (by decide)
  exact ⟨Ext.oKeepOf X12.ext [], rfl⟩
set_option maxRecDepth 65536 in
set_option maxHeartbeats 40000000 in
theorem own_min (l : Launch) (Z : State) (a0 : Array Value) (hw : ∀ d ∈ tables_1, d.before a0 Z = true) (h0 : Heap) (hO : Ext Z.heap h0) (a : Int32)  :
    CtrN l Z (⟨"java/lang/Math", "min", "(II)I"⟩ : MethodName) jdk_29_method_69_code 2 (some .int) ({ frames := 0, cells := 0, slots := 0, locals := 0 } : Room) #[(.int a), (.int a)] h0 (fun v h' => Keep h0 h' [] ∧ v = some (.int a)) := by
  refine CtrN.of (by decide +kernel) hO ?_
  intro p e s m below meth c T0 X0 hsh hby hml hret hlk hnm
  refine Goes.cast (ef_own_min m a) ?_
  show Goes _ _ _ _ T0 (mkF m 0 #[.val (.int a), .val (.int a)] [])
  refine Goes.go (fun _ kS_ => XS.iloadN X0.here X0.ex rfl (hb hby d_jdk_29_method_69_0) rfl (XS.iloadN X0.here X0.ex rfl (hb hby d_jdk_29_method_69_1) rfl kS_)) ?_
  show Goes _ _ _ _ T0 (mkF m 2 #[.val (.int a), .val (.int a)] [(.int a), (.int a)])
  refine Goes.go (fun _ kS_ => XS.icmpNo X0.here X0.ex rfl (hb hby d_jdk_29_method_69_2) rfl (cd_f (cd := .gt) (x := a) (y := a) (Int32.lt_irrefl)) kS_) ?_
  show Goes _ _ _ _ T0 (mkF m 5 #[.val (.int a), .val (.int a)] [])
  refine Goes.go (fun _ kS_ => XS.iloadN X0.here X0.ex rfl (hb hby d_jdk_29_method_69_5) rfl (XS.goto X0.here X0.ex rfl (pc0 := 6) (pc' := 10) rfl (hb hby d_jdk_29_method_69_6) (by decide) (by decide) kS_)) ?_
  show Goes _ _ _ _ T0 (mkF m 10 #[.val (.int a), .val (.int a)] [(.int a)])
  refine Goes.outN X0 (fun q => by rw [hret] at q; cases q) hlk (X0.rI hret (hb hby d_jdk_29_method_69_10)) ?_ (by decide) (by decide)
  exact ⟨Ext.oKeepOf X0.ext [], rfl⟩
set_option maxRecDepth 65536 in
set_option maxHeartbeats 40000000 in
theorem own_canI (l : Launch) (Z : State) (a0 : Array Value) (hw : ∀ d ∈ tables_1, d.before a0 Z = true) (h0 : Heap) (hO : Ext Z.heap h0)   :
    CtrN l Z (⟨"java/lang/StringLatin1", "canEncode", "(I)Z"⟩ : MethodName) jdk_43_method_4_code 1 (some .boolean) ({ frames := 0, cells := 0, slots := 0, locals := 0 } : Room) #[(.int (46 : Int32))] h0 (fun v h' => Keep h0 h' [] ∧ v = some (.int (1 : Int32))) := by
  refine CtrN.of (plainFor_of_name pn_1) hO ?_
  intro p e s m below meth c T0 X0 hsh hby hml hret hlk hnm
  refine Goes.cast (ef_own_canI m ) ?_
  show Goes _ _ _ _ T0 (mkF m 0 #[.val (.int (46 : Int32))] [])
  refine Goes.go (fun _ kS_ => XS.iloadN X0.here X0.ex rfl (hb hby d_jdk_43_method_4_0) rfl (XS.ifNo X0.here X0.ex rfl (hb hby d_jdk_43_method_4_1) rfl ((if0 _ _).trans (cd_f (cd := .lt) (x := (46 : Int32)) (y := (0 : Int32)) (by decide))) (XS.iloadN X0.here X0.ex rfl (hb hby d_jdk_43_method_4_4) rfl (XS.sipush X0.here X0.ex rfl (hb hby d_jdk_43_method_4_5) (XS.icmpNo X0.here X0.ex rfl (hb hby d_jdk_43_method_4_8) rfl (cd_f (cd := .gt) (x := (46 : Int32)) (y := (255 : Int32)) (by decide)) (XS.iconst X0.here X0.ex rfl (hb hby d_jdk_43_method_4_11) kS_)))))) ?_
  show Goes _ _ _ _ T0 (mkF m 12 #[.val (.int (46 : Int32))] [(.int (1 : Int32))])
  refine Goes.go (fun _ kS_ => XS.goto X0.here X0.ex rfl (pc0 := 12) (pc' := 16) rfl (hb hby d_jdk_43_method_4_12) (by decide) (by decide) kS_) ?_
  show Goes _ _ _ _ T0 (mkF m 16 #[.val (.int (46 : Int32))] [(.int (1 : Int32))])
  refine Goes.outN X0 (fun q => by rw [hret] at q; cases q) hlk (X0.rB hret (by simp) (hb hby d_jdk_43_method_4_16)) ?_ (by decide) (by decide)
  exact ⟨Ext.oKeepOf X0.ext [], rfl⟩
set_option maxRecDepth 65536 in
set_option maxHeartbeats 40000000 in
theorem own_lioA0 (l : Launch) (Z : State) (a0 : Array Value) (hw : ∀ d ∈ tables_1, d.before a0 Z = true) (h0 : Heap) (hO : Ext Z.heap h0) (t : Addr) (kb : ClassId) (V_t : Arv Z h0 t kb .byte (0 : Int32) [] (.int (0 : Int32)))  :
    CtrN l Z (⟨"java/lang/StringLatin1", "lastIndexOf", "([BII)I"⟩ : MethodName) jdk_43_method_27_code 4 (some .int) ({ frames := 1, cells := 0, slots := 0, locals := 13 } : Room) #[(.ref t), (.int (46 : Int32)), (.int (-1 : Int32))] h0 (fun v h' => Keep h0 h' [] ∧ v = some (.int (-1 : Int32))) := by
  refine CtrN.of (plainFor_of_name pn_1) hO ?_
  intro p e s m below meth c T0 X0 hsh hby hml hret hlk hnm
  refine Goes.cast (ef_own_lioA0 m t) ?_
  show Goes _ _ _ _ T0 (mkF m 0 #[.val (.ref t), .val (.int (46 : Int32)), .val (.int (-1 : Int32)), .unset] [])
  refine Goes.go (fun _ kS_ => XS.iloadN X0.here X0.ex rfl (hb hby d_jdk_43_method_27_0) rfl kS_) ?_
  show Goes _ _ _ _ T0 (mkF m 1 #[.val (.ref t), .val (.int (46 : Int32)), .val (.int (-1 : Int32)), .unset] [(.int (46 : Int32))])
  refine Wk.static (hm' := fun _ => h0) (y := (⟨"java/lang/StringLatin1", "canEncode", "(I)Z"⟩ : MethodName)) (W := 0) (kc := 0) (ks := 0) (argsL := [(.int (46 : Int32))]) (rest := []) (as' := #[(.int (46 : Int32))]) (ws := []) X0 (w_64 hw) (w_65 hw) (w_62 hw) (w_66 hw) (by decide) (CtrN.pays (own_canI l Z a0 hw h0 X0.old ) (w_66 hw) (w_62 hw) (by decide) (by decide)) (fun v h' L q => ⟨q.2, q.1.1⟩) all0 (fun _ => Mark.stay all0) rfl (by rw [hml]; rfl) (lenOf pd_1 rfl) rfl rfl (by show 2 * 0 + _ ≤ _; exact Nat.le_of_eq rfl) (hb hby d_jdk_43_method_27_1) (by decide) (by decide) ?_
  intro T15 h15 v15 L15 X15 q15 K15
  obtain ⟨⟨-, rfl⟩, -⟩ := q15
  replace V_t := V_t.ext K15.oExt
  show Goes _ _ _ _ T15 (mkF m 4 #[.val (.ref t), .val (.int (46 : Int32)), .val (.int (-1 : Int32)), .unset] [(.int (1 : Int32))])
  refine Goes.go (fun _ kS_ => XS.ifYes X15.here X15.ex rfl (pc0 := 4) (pc' := 9) rfl (hb hby d_jdk_43_method_27_4) rfl ((if0 _ _).trans (cd_t (cd := .ne) (x := (1 : Int32)) (y := (0 : Int32)) (by decide))) (by decide) (by decide) (XS.iloadN X15.here X15.ex rfl (hb hby d_jdk_43_method_27_9) rfl (XS.aloadN X15.here X15.ex rfl (hb hby d_jdk_43_method_27_10) rfl rfl kS_))) ?_
  show Goes _ _ _ _ T15 (mkF m 11 #[.val (.ref t), .val (.int (46 : Int32)), .val (.int (-1 : Int32)), .unset] [(.ref t), (.int (-1 : Int32))])
  refine Goes.go (X15.alen V_t rfl rfl (hb hby d_jdk_43_method_27_11)) ?_
  show Goes _ _ _ _ T15 (mkF m 12 #[.val (.ref t), .val (.int (46 : Int32)), .val (.int (-1 : Int32)), .unset] [(.int (0 : Int32)), (.int (-1 : Int32))])
  refine Goes.go (fun _ kS_ => XS.iconst X15.here X15.ex rfl (hb hby d_jdk_43_method_27_12) (XS.isub X15.here X15.ex rfl (hb hby d_jdk_43_method_27_13) rfl kS_)) ?_
  show Goes _ _ _ _ T15 (mkF m 14 #[.val (.ref t), .val (.int (46 : Int32)), .val (.int (-1 : Int32)), .unset] [(.int ((0 : Int32) - (1 : Int32))), (.int (-1 : Int32))])
  refine Goes.cast (congrArg (fun zq_ => (mkF m 14 #[.val (.ref t), .val (.int (46 : Int32)), .val (.int (-1 : Int32)), .unset] [(.int zq_), (.int (-1 : Int32))])) (show (((0 : Int32) - (1 : Int32)) : Int32) = (-1 : Int32) from by decide)) ?_
  show Goes _ _ _ _ T15 (mkF m 14 #[.val (.ref t), .val (.int (46 : Int32)), .val (.int (-1 : Int32)), .unset] [(.int (-1 : Int32)), (.int (-1 : Int32))])
  refine Wk.static (hm' := fun _ => h0) (y := (⟨"java/lang/Math", "min", "(II)I"⟩ : MethodName)) (W := 0) (kc := 0) (ks := 0) (argsL := [(.int (-1 : Int32)), (.int (-1 : Int32))]) (rest := []) (as' := #[(.int (-1 : Int32)), (.int (-1 : Int32))]) (ws := []) X15 (w_67 hw) (w_68 hw) (w_69 hw) (w_70 hw) (by decide) (CtrN.pays (own_min l Z a0 hw h15 X15.old (-1 : Int32)) (w_70 hw) (w_69 hw) (by decide) (by decide)) (fun v h' L q => ⟨q.2, q.1.1⟩) all0 (fun _ => Mark.stay all0) rfl (by rw [hml]; rfl) (lenOf pd_2 rfl) rfl rfl (by show 2 * 0 + _ ≤ _; exact Nat.le_of_eq rfl) (hb hby d_jdk_43_method_27_14) (by decide) (by decide) ?_
  intro T16 h16 v16 L16 X16 q16 K16
  obtain ⟨⟨-, rfl⟩, -⟩ := q16
  replace V_t := V_t.ext K16.oExt
  show Goes _ _ _ _ T16 (mkF m 17 #[.val (.ref t), .val (.int (46 : Int32)), .val (.int (-1 : Int32)), .unset] [(.int (-1 : Int32))])
  refine Goes.go (fun _ kS_ => XS.istoreN X16.here X16.ex rfl (hb hby d_jdk_43_method_27_17) rfl (l' := #[.val (.ref t), .val (.int (46 : Int32)), .val (.int (-1 : Int32)), .val (.int (-1 : Int32))]) rfl (XS.iloadN X16.here X16.ex rfl (hb hby d_jdk_43_method_27_18) rfl (XS.ifYes X16.here X16.ex rfl (pc0 := 19) (pc' := 38) rfl (hb hby d_jdk_43_method_27_19) rfl ((if0 _ _).trans (cd_t (cd := .lt) (x := (-1 : Int32)) (y := (0 : Int32)) (by decide))) (by decide) (by decide) (XS.iconst X16.here X16.ex rfl (hb hby d_jdk_43_method_27_38) kS_)))) ?_
  show Goes _ _ _ _ T16 (mkF m 39 #[.val (.ref t), .val (.int (46 : Int32)), .val (.int (-1 : Int32)), .val (.int (-1 : Int32))] [(.int (-1 : Int32))])
  refine Goes.outN X16 (fun q => by rw [hret] at q; cases q) hlk (X16.rI hret (hb hby d_jdk_43_method_27_39)) ?_ (by decide) (by decide)
  exact ⟨Ext.oKeepOf X16.ext [], rfl⟩
set_option maxRecDepth 65536 in
set_option maxHeartbeats 40000000 in
theorem own_lioA1 (l : Launch) (Z : State) (a0 : Array Value) (hw : ∀ d ∈ tables_1, d.before a0 Z = true) (h0 : Heap) (hO : Ext Z.heap h0) (t : Addr) (kb : ClassId) (d0 : Int32) (V_t : Arv Z h0 t kb .byte (1 : Int32) [(.int (d0.toInt8.toInt32))] (.int (0 : Int32))) (b0 : ¬ d0 < 0 ∧ ¬ (255 : Int32) < d0) :
    CtrN l Z (⟨"java/lang/StringLatin1", "lastIndexOf", "([BII)I"⟩ : MethodName) jdk_43_method_27_code 4 (some .int) ({ frames := 1, cells := 0, slots := 0, locals := 13 } : Room) #[(.ref t), (.int (46 : Int32)), (.int (0 : Int32))] h0 (fun v h' => Keep h0 h' [] ∧ v = some (.int (own_l1 d0))) := by
  refine CtrN.of (plainFor_of_name pn_1) hO ?_
  intro p e s m below meth c T0 X0 hsh hby hml hret hlk hnm
  refine Goes.cast (ef_own_lioA1 m t) ?_
  show Goes _ _ _ _ T0 (mkF m 0 #[.val (.ref t), .val (.int (46 : Int32)), .val (.int (0 : Int32)), .unset] [])
  refine Goes.go (fun _ kS_ => XS.iloadN X0.here X0.ex rfl (hb hby d_jdk_43_method_27_0) rfl kS_) ?_
  show Goes _ _ _ _ T0 (mkF m 1 #[.val (.ref t), .val (.int (46 : Int32)), .val (.int (0 : Int32)), .unset] [(.int (46 : Int32))])
  refine Wk.static (hm' := fun _ => h0) (y := (⟨"java/lang/StringLatin1", "canEncode", "(I)Z"⟩ : MethodName)) (W := 0) (kc := 0) (ks := 0) (argsL := [(.int (46 : Int32))]) (rest := []) (as' := #[(.int (46 : Int32))]) (ws := []) X0 (w_64 hw) (w_65 hw) (w_62 hw) (w_66 hw) (by decide) (CtrN.pays (own_canI l Z a0 hw h0 X0.old ) (w_66 hw) (w_62 hw) (by decide) (by decide)) (fun v h' L q => ⟨q.2, q.1.1⟩) all0 (fun _ => Mark.stay all0) rfl (by rw [hml]; rfl) (lenOf pd_1 rfl) rfl rfl (by show 2 * 0 + _ ≤ _; exact Nat.le_of_eq rfl) (hb hby d_jdk_43_method_27_1) (by decide) (by decide) ?_
  intro T19 h19 v19 L19 X19 q19 K19
  obtain ⟨⟨-, rfl⟩, -⟩ := q19
  replace V_t := V_t.ext K19.oExt
  show Goes _ _ _ _ T19 (mkF m 4 #[.val (.ref t), .val (.int (46 : Int32)), .val (.int (0 : Int32)), .unset] [(.int (1 : Int32))])
  refine Goes.go (fun _ kS_ => XS.ifYes X19.here X19.ex rfl (pc0 := 4) (pc' := 9) rfl (hb hby d_jdk_43_method_27_4) rfl ((if0 _ _).trans (cd_t (cd := .ne) (x := (1 : Int32)) (y := (0 : Int32)) (by decide))) (by decide) (by decide) (XS.iloadN X19.here X19.ex rfl (hb hby d_jdk_43_method_27_9) rfl (XS.aloadN X19.here X19.ex rfl (hb hby d_jdk_43_method_27_10) rfl rfl kS_))) ?_
  show Goes _ _ _ _ T19 (mkF m 11 #[.val (.ref t), .val (.int (46 : Int32)), .val (.int (0 : Int32)), .unset] [(.ref t), (.int (0 : Int32))])
  refine Goes.go (X19.alen V_t rfl rfl (hb hby d_jdk_43_method_27_11)) ?_
  show Goes _ _ _ _ T19 (mkF m 12 #[.val (.ref t), .val (.int (46 : Int32)), .val (.int (0 : Int32)), .unset] [(.int (1 : Int32)), (.int (0 : Int32))])
  refine Goes.go (fun _ kS_ => XS.iconst X19.here X19.ex rfl (hb hby d_jdk_43_method_27_12) (XS.isub X19.here X19.ex rfl (hb hby d_jdk_43_method_27_13) rfl kS_)) ?_
  show Goes _ _ _ _ T19 (mkF m 14 #[.val (.ref t), .val (.int (46 : Int32)), .val (.int (0 : Int32)), .unset] [(.int ((1 : Int32) - (1 : Int32))), (.int (0 : Int32))])
  refine Goes.cast (congrArg (fun zq_ => (mkF m 14 #[.val (.ref t), .val (.int (46 : Int32)), .val (.int (0 : Int32)), .unset] [(.int zq_), (.int (0 : Int32))])) (show (((1 : Int32) - (1 : Int32)) : Int32) = (0 : Int32) from by decide)) ?_
  show Goes _ _ _ _ T19 (mkF m 14 #[.val (.ref t), .val (.int (46 : Int32)), .val (.int (0 : Int32)), .unset] [(.int (0 : Int32)), (.int (0 : Int32))])
  refine Wk.static (hm' := fun _ => h0) (y := (⟨"java/lang/Math", "min", "(II)I"⟩ : MethodName)) (W := 0) (kc := 0) (ks := 0) (argsL := [(.int (0 : Int32)), (.int (0 : Int32))]) (rest := []) (as' := #[(.int (0 : Int32)), (.int (0 : Int32))]) (ws := []) X19 (w_67 hw) (w_68 hw) (w_69 hw) (w_70 hw) (by decide) (CtrN.pays (own_min l Z a0 hw h19 X19.old (0 : Int32)) (w_70 hw) (w_69 hw) (by decide) (by decide)) (fun v h' L q => ⟨q.2, q.1.1⟩) all0 (fun _ => Mark.stay all0) rfl (by rw [hml]; rfl) (lenOf pd_2 rfl) rfl rfl (by show 2 * 0 + _ ≤ _; exact Nat.le_of_eq rfl) (hb hby d_jdk_43_method_27_14) (by decide) (by decide) ?_
  intro T20 h20 v20 L20 X20 q20 K20
  obtain ⟨⟨-, rfl⟩, -⟩ := q20
  replace V_t := V_t.ext K20.oExt
  show Goes _ _ _ _ T20 (mkF m 17 #[.val (.ref t), .val (.int (46 : Int32)), .val (.int (0 : Int32)), .unset] [(.int (0 : Int32))])
  refine Goes.go (fun _ kS_ => XS.istoreN X20.here X20.ex rfl (hb hby d_jdk_43_method_27_17) rfl (l' := #[.val (.ref t), .val (.int (46 : Int32)), .val (.int (0 : Int32)), .val (.int (0 : Int32))]) rfl (XS.iloadN X20.here X20.ex rfl (hb hby d_jdk_43_method_27_18) rfl (XS.ifNo X20.here X20.ex rfl (hb hby d_jdk_43_method_27_19) rfl ((if0 _ _).trans (cd_f (cd := .lt) (x := (0 : Int32)) (y := (0 : Int32)) (by decide))) (XS.aloadN X20.here X20.ex rfl (hb hby d_jdk_43_method_27_22) rfl rfl (XS.iloadN X20.here X20.ex rfl (hb hby d_jdk_43_method_27_23) rfl kS_))))) ?_
  show Goes _ _ _ _ T20 (mkF m 24 #[.val (.ref t), .val (.int (46 : Int32)), .val (.int (0 : Int32)), .val (.int (0 : Int32))] [(.int (0 : Int32)), (.ref t)])
  refine Goes.go (X20.baload V_t ⟨by decide, by decide⟩ (v := .int (d0.toInt8.toInt32)) rfl rfl rfl (hb hby d_jdk_43_method_27_24)) ?_
  show Goes _ _ _ _ T20 (mkF m 25 #[.val (.ref t), .val (.int (46 : Int32)), .val (.int (0 : Int32)), .val (.int (0 : Int32))] [(.int (d0.toInt8.toInt32))])
  refine Goes.go (fun _ kS_ => XS.iloadN X20.here X20.ex rfl (hb hby d_jdk_43_method_27_25) rfl (XS.i2b X20.here X20.ex rfl (hb hby d_jdk_43_method_27_26) rfl kS_)) ?_
  show Goes _ _ _ _ T20 (mkF m 27 #[.val (.ref t), .val (.int (46 : Int32)), .val (.int (0 : Int32)), .val (.int (0 : Int32))] [(.int ((46 : Int32).toInt8.toInt32)), (.int (d0.toInt8.toInt32))])
  refine Goes.cast (congrArg (fun zq_ => (mkF m 27 #[.val (.ref t), .val (.int (46 : Int32)), .val (.int (0 : Int32)), .val (.int (0 : Int32))] [(.int zq_), (.int (d0.toInt8.toInt32))])) (show (((46 : Int32).toInt8.toInt32) : Int32) = (46 : Int32) from by decide)) ?_
  show Goes _ _ _ _ T20 (mkF m 27 #[.val (.ref t), .val (.int (46 : Int32)), .val (.int (0 : Int32)), .val (.int (0 : Int32))] [(.int (46 : Int32)), (.int (d0.toInt8.toInt32))])
  refine Goes.icmp (pc' := 32) X20.here X20.ex (hb hby d_jdk_43_method_27_27) (by decide) (by decide) (fun hk0 => ?_) (fun hk0 => ?_)
  · have hk0 : ¬ ((d0.toInt8.toInt32) = (46 : Int32)) := hk0
    show Goes _ _ _ _ T20 (mkF m 32 #[.val (.ref t), .val (.int (46 : Int32)), .val (.int (0 : Int32)), .val (.int (0 : Int32))] [])
    rw [own_b46 b0] at hk0
    refine Goes.go (fun _ kS_ => XS.iinc X20.here X20.ex rfl (hb hby d_jdk_43_method_27_32) rfl (l' := #[.val (.ref t), .val (.int (46 : Int32)), .val (.int (0 : Int32)), .val (.int ((0 : Int32) + (-1 : Int32)))]) rfl kS_) ?_
    show Goes _ _ _ _ T20 (mkF m 35 #[.val (.ref t), .val (.int (46 : Int32)), .val (.int (0 : Int32)), .val (.int ((0 : Int32) + (-1 : Int32)))] [])
    refine Goes.cast (congrArg (fun zq_ => (mkF m 35 #[.val (.ref t), .val (.int (46 : Int32)), .val (.int (0 : Int32)), .val (.int zq_)] [])) (show (((0 : Int32) + (-1 : Int32)) : Int32) = (-1 : Int32) from by decide)) ?_
    show Goes _ _ _ _ T20 (mkF m 35 #[.val (.ref t), .val (.int (46 : Int32)), .val (.int (0 : Int32)), .val (.int (-1 : Int32))] [])
    refine Goes.go (fun _ kS_ => XS.goto X20.here X20.ex rfl (pc0 := 35) (pc' := 18) rfl (hb hby d_jdk_43_method_27_35) (by decide) (by decide) (XS.iloadN X20.here X20.ex rfl (hb hby d_jdk_43_method_27_18) rfl (XS.ifYes X20.here X20.ex rfl (pc0 := 19) (pc' := 38) rfl (hb hby d_jdk_43_method_27_19) rfl ((if0 _ _).trans (cd_t (cd := .lt) (x := (-1 : Int32)) (y := (0 : Int32)) (by decide))) (by decide) (by decide) (XS.iconst X20.here X20.ex rfl (hb hby d_jdk_43_method_27_38) kS_)))) ?_
    show Goes _ _ _ _ T20 (mkF m 39 #[.val (.ref t), .val (.int (46 : Int32)), .val (.int (0 : Int32)), .val (.int (-1 : Int32))] [(.int (-1 : Int32))])
    refine Goes.outN X20 (fun q => by rw [hret] at q; cases q) hlk (X20.rI hret (hb hby d_jdk_43_method_27_39)) ?_ (by decide) (by decide)
    exact ⟨Ext.oKeepOf X20.ext [], by rw [own_l1, if_neg hk0]⟩
  · have hk0 : (d0.toInt8.toInt32) = (46 : Int32) := Classical.not_not.mp hk0
    show Goes _ _ _ _ T20 (mkF m 30 #[.val (.ref t), .val (.int (46 : Int32)), .val (.int (0 : Int32)), .val (.int (0 : Int32))] [])
    rw [own_b46 b0] at hk0
    refine Goes.go (fun _ kS_ => XS.iloadN X20.here X20.ex rfl (hb hby d_jdk_43_method_27_30) rfl kS_) ?_
    show Goes _ _ _ _ T20 (mkF m 31 #[.val (.ref t), .val (.int (46 : Int32)), .val (.int (0 : Int32)), .val (.int (0 : Int32))] [(.int (0 : Int32))])
    refine Goes.outN X20 (fun q => by rw [hret] at q; cases q) hlk (X20.rI hret (hb hby d_jdk_43_method_27_31)) ?_ (by decide) (by decide)
    exact ⟨Ext.oKeepOf X20.ext [], by rw [own_l1, if_pos hk0]⟩
set_option maxRecDepth 65536 in
set_option maxHeartbeats 40000000 in
theorem own_lioA2 (l : Launch) (Z : State) (a0 : Array Value) (hw : ∀ d ∈ tables_1, d.before a0 Z = true) (h0 : Heap) (hO : Ext Z.heap h0) (t : Addr) (kb : ClassId) (d0 : Int32) (d1 : Int32) (V_t : Arv Z h0 t kb .byte (2 : Int32) [(.int (d0.toInt8.toInt32)), (.int (d1.toInt8.toInt32))] (.int (0 : Int32))) (b0 : ¬ d0 < 0 ∧ ¬ (255 : Int32) < d0) (b1 : ¬ d1 < 0 ∧ ¬ (255 : Int32) < d1) :
    CtrN l Z (⟨"java/lang/StringLatin1", "lastIndexOf", "([BII)I"⟩ : MethodName) jdk_43_method_27_code 4 (some .int) ({ frames := 1, cells := 0, slots := 0, locals := 13 } : Room) #[(.ref t), (.int (46 : Int32)), (.int (1 : Int32))] h0 (fun v h' => Keep h0 h' [] ∧ v = some (.int (own_l2 d0 d1))) := by
  refine CtrN.of (plainFor_of_name pn_1) hO ?_
  intro p e s m below meth c T0 X0 hsh hby hml hret hlk hnm
  refine Goes.cast (ef_own_lioA2 m t) ?_
  show Goes _ _ _ _ T0 (mkF m 0 #[.val (.ref t), .val (.int (46 : Int32)), .val (.int (1 : Int32)), .unset] [])
  refine Goes.go (fun _ kS_ => XS.iloadN X0.here X0.ex rfl (hb hby d_jdk_43_method_27_0) rfl kS_) ?_
  show Goes _ _ _ _ T0 (mkF m 1 #[.val (.ref t), .val (.int (46 : Int32)), .val (.int (1 : Int32)), .unset] [(.int (46 : Int32))])
  refine Wk.static (hm' := fun _ => h0) (y := (⟨"java/lang/StringLatin1", "canEncode", "(I)Z"⟩ : MethodName)) (W := 0) (kc := 0) (ks := 0) (argsL := [(.int (46 : Int32))]) (rest := []) (as' := #[(.int (46 : Int32))]) (ws := []) X0 (w_64 hw) (w_65 hw) (w_62 hw) (w_66 hw) (by decide) (CtrN.pays (own_canI l Z a0 hw h0 X0.old ) (w_66 hw) (w_62 hw) (by decide) (by decide)) (fun v h' L q => ⟨q.2, q.1.1⟩) all0 (fun _ => Mark.stay all0) rfl (by rw [hml]; rfl) (lenOf pd_1 rfl) rfl rfl (by show 2 * 0 + _ ≤ _; exact Nat.le_of_eq rfl) (hb hby d_jdk_43_method_27_1) (by decide) (by decide) ?_
  intro T23 h23 v23 L23 X23 q23 K23
  obtain ⟨⟨-, rfl⟩, -⟩ := q23
  replace V_t := V_t.ext K23.oExt
  show Goes _ _ _ _ T23 (mkF m 4 #[.val (.ref t), .val (.int (46 : Int32)), .val (.int (1 : Int32)), .unset] [(.int (1 : Int32))])
  refine Goes.go (fun _ kS_ => XS.ifYes X23.here X23.ex rfl (pc0 := 4) (pc' := 9) rfl (hb hby d_jdk_43_method_27_4) rfl ((if0 _ _).trans (cd_t (cd := .ne) (x := (1 : Int32)) (y := (0 : Int32)) (by decide))) (by decide) (by decide) (XS.iloadN X23.here X23.ex rfl (hb hby d_jdk_43_method_27_9) rfl (XS.aloadN X23.here X23.ex rfl (hb hby d_jdk_43_method_27_10) rfl rfl kS_))) ?_
  show Goes _ _ _ _ T23 (mkF m 11 #[.val (.ref t), .val (.int (46 : Int32)), .val (.int (1 : Int32)), .unset] [(.ref t), (.int (1 : Int32))])
  refine Goes.go (X23.alen V_t rfl rfl (hb hby d_jdk_43_method_27_11)) ?_
  show Goes _ _ _ _ T23 (mkF m 12 #[.val (.ref t), .val (.int (46 : Int32)), .val (.int (1 : Int32)), .unset] [(.int (2 : Int32)), (.int (1 : Int32))])
  refine Goes.go (fun _ kS_ => XS.iconst X23.here X23.ex rfl (hb hby d_jdk_43_method_27_12) (XS.isub X23.here X23.ex rfl (hb hby d_jdk_43_method_27_13) rfl kS_)) ?_
  show Goes _ _ _ _ T23 (mkF m 14 #[.val (.ref t), .val (.int (46 : Int32)), .val (.int (1 : Int32)), .unset] [(.int ((2 : Int32) - (1 : Int32))), (.int (1 : Int32))])
  refine Goes.cast (congrArg (fun zq_ => (mkF m 14 #[.val (.ref t), .val (.int (46 : Int32)), .val (.int (1 : Int32)), .unset] [(.int zq_), (.int (1 : Int32))])) (show (((2 : Int32) - (1 : Int32)) : Int32) = (1 : Int32) from by decide)) ?_
  show Goes _ _ _ _ T23 (mkF m 14 #[.val (.ref t), .val (.int (46 : Int32)), .val (.int (1 : Int32)), .unset] [(.int (1 : Int32)), (.int (1 : Int32))])
  refine Wk.static (hm' := fun _ => h0) (y := (⟨"java/lang/Math", "min", "(II)I"⟩ : MethodName)) (W := 0) (kc := 0) (ks := 0) (argsL := [(.int (1 : Int32)), (.int (1 : Int32))]) (rest := []) (as' := #[(.int (1 : Int32)), (.int (1 : Int32))]) (ws := []) X23 (w_67 hw) (w_68 hw) (w_69 hw) (w_70 hw) (by decide) (CtrN.pays (own_min l Z a0 hw h23 X23.old (1 : Int32)) (w_70 hw) (w_69 hw) (by decide) (by decide)) (fun v h' L q => ⟨q.2, q.1.1⟩) all0 (fun _ => Mark.stay all0) rfl (by rw [hml]; rfl) (lenOf pd_2 rfl) rfl rfl (by show 2 * 0 + _ ≤ _; exact Nat.le_of_eq rfl) (hb hby d_jdk_43_method_27_14) (by decide) (by decide) ?_
  intro T24 h24 v24 L24 X24 q24 K24
  obtain ⟨⟨-, rfl⟩, -⟩ := q24
  replace V_t := V_t.ext K24.oExt
  show Goes _ _ _ _ T24 (mkF m 17 #[.val (.ref t), .val (.int (46 : Int32)), .val (.int (1 : Int32)), .unset] [(.int (1 : Int32))])
  refine Goes.go (fun _ kS_ => XS.istoreN X24.here X24.ex rfl (hb hby d_jdk_43_method_27_17) rfl (l' := #[.val (.ref t), .val (.int (46 : Int32)), .val (.int (1 : Int32)), .val (.int (1 : Int32))]) rfl (XS.iloadN X24.here X24.ex rfl (hb hby d_jdk_43_method_27_18) rfl (XS.ifNo X24.here X24.ex rfl (hb hby d_jdk_43_method_27_19) rfl ((if0 _ _).trans (cd_f (cd := .lt) (x := (1 : Int32)) (y := (0 : Int32)) (by decide))) (XS.aloadN X24.here X24.ex rfl (hb hby d_jdk_43_method_27_22) rfl rfl (XS.iloadN X24.here X24.ex rfl (hb hby d_jdk_43_method_27_23) rfl kS_))))) ?_
  show Goes _ _ _ _ T24 (mkF m 24 #[.val (.ref t), .val (.int (46 : Int32)), .val (.int (1 : Int32)), .val (.int (1 : Int32))] [(.int (1 : Int32)), (.ref t)])
  refine Goes.go (X24.baload V_t ⟨by decide, by decide⟩ (v := .int (d1.toInt8.toInt32)) rfl rfl rfl (hb hby d_jdk_43_method_27_24)) ?_
  show Goes _ _ _ _ T24 (mkF m 25 #[.val (.ref t), .val (.int (46 : Int32)), .val (.int (1 : Int32)), .val (.int (1 : Int32))] [(.int (d1.toInt8.toInt32))])
  refine Goes.go (fun _ kS_ => XS.iloadN X24.here X24.ex rfl (hb hby d_jdk_43_method_27_25) rfl (XS.i2b X24.here X24.ex rfl (hb hby d_jdk_43_method_27_26) rfl kS_)) ?_
  show Goes _ _ _ _ T24 (mkF m 27 #[.val (.ref t), .val (.int (46 : Int32)), .val (.int (1 : Int32)), .val (.int (1 : Int32))] [(.int ((46 : Int32).toInt8.toInt32)), (.int (d1.toInt8.toInt32))])
  refine Goes.cast (congrArg (fun zq_ => (mkF m 27 #[.val (.ref t), .val (.int (46 : Int32)), .val (.int (1 : Int32)), .val (.int (1 : Int32))] [(.int zq_), (.int (d1.toInt8.toInt32))])) (show (((46 : Int32).toInt8.toInt32) : Int32) = (46 : Int32) from by decide)) ?_
  show Goes _ _ _ _ T24 (mkF m 27 #[.val (.ref t), .val (.int (46 : Int32)), .val (.int (1 : Int32)), .val (.int (1 : Int32))] [(.int (46 : Int32)), (.int (d1.toInt8.toInt32))])
  refine Goes.icmp (pc' := 32) X24.here X24.ex (hb hby d_jdk_43_method_27_27) (by decide) (by decide) (fun hk1 => ?_) (fun hk1 => ?_)
  · have hk1 : ¬ ((d1.toInt8.toInt32) = (46 : Int32)) := hk1
    show Goes _ _ _ _ T24 (mkF m 32 #[.val (.ref t), .val (.int (46 : Int32)), .val (.int (1 : Int32)), .val (.int (1 : Int32))] [])
    rw [own_b46 b1] at hk1
    refine Goes.go (fun _ kS_ => XS.iinc X24.here X24.ex rfl (hb hby d_jdk_43_method_27_32) rfl (l' := #[.val (.ref t), .val (.int (46 : Int32)), .val (.int (1 : Int32)), .val (.int ((1 : Int32) + (-1 : Int32)))]) rfl kS_) ?_
    show Goes _ _ _ _ T24 (mkF m 35 #[.val (.ref t), .val (.int (46 : Int32)), .val (.int (1 : Int32)), .val (.int ((1 : Int32) + (-1 : Int32)))] [])
    refine Goes.cast (congrArg (fun zq_ => (mkF m 35 #[.val (.ref t), .val (.int (46 : Int32)), .val (.int (1 : Int32)), .val (.int zq_)] [])) (show (((1 : Int32) + (-1 : Int32)) : Int32) = (0 : Int32) from by decide)) ?_
    show Goes _ _ _ _ T24 (mkF m 35 #[.val (.ref t), .val (.int (46 : Int32)), .val (.int (1 : Int32)), .val (.int (0 : Int32))] [])
    refine Goes.go (fun _ kS_ => XS.goto X24.here X24.ex rfl (pc0 := 35) (pc' := 18) rfl (hb hby d_jdk_43_method_27_35) (by decide) (by decide) (XS.iloadN X24.here X24.ex rfl (hb hby d_jdk_43_method_27_18) rfl (XS.ifNo X24.here X24.ex rfl (hb hby d_jdk_43_method_27_19) rfl ((if0 _ _).trans (cd_f (cd := .lt) (x := (0 : Int32)) (y := (0 : Int32)) (by decide))) (XS.aloadN X24.here X24.ex rfl (hb hby d_jdk_43_method_27_22) rfl rfl (XS.iloadN X24.here X24.ex rfl (hb hby d_jdk_43_method_27_23) rfl kS_))))) ?_
    show Goes _ _ _ _ T24 (mkF m 24 #[.val (.ref t), .val (.int (46 : Int32)), .val (.int (1 : Int32)), .val (.int (0 : Int32))] [(.int (0 : Int32)), (.ref t)])
    refine Goes.go (X24.baload V_t ⟨by decide, by decide⟩ (v := .int (d0.toInt8.toInt32)) rfl rfl rfl (hb hby d_jdk_43_method_27_24)) ?_
    show Goes _ _ _ _ T24 (mkF m 25 #[.val (.ref t), .val (.int (46 : Int32)), .val (.int (1 : Int32)), .val (.int (0 : Int32))] [(.int (d0.toInt8.toInt32))])
    refine Goes.go (fun _ kS_ => XS.iloadN X24.here X24.ex rfl (hb hby d_jdk_43_method_27_25) rfl (XS.i2b X24.here X24.ex rfl (hb hby d_jdk_43_method_27_26) rfl kS_)) ?_
    show Goes _ _ _ _ T24 (mkF m 27 #[.val (.ref t), .val (.int (46 : Int32)), .val (.int (1 : Int32)), .val (.int (0 : Int32))] [(.int ((46 : Int32).toInt8.toInt32)), (.int (d0.toInt8.toInt32))])
    refine Goes.cast (congrArg (fun zq_ => (mkF m 27 #[.val (.ref t), .val (.int (46 : Int32)), .val (.int (1 : Int32)), .val (.int (0 : Int32))] [(.int zq_), (.int (d0.toInt8.toInt32))])) (show (((46 : Int32).toInt8.toInt32) : Int32) = (46 : Int32) from by decide)) ?_
    show Goes _ _ _ _ T24 (mkF m 27 #[.val (.ref t), .val (.int (46 : Int32)), .val (.int (1 : Int32)), .val (.int (0 : Int32))] [(.int (46 : Int32)), (.int (d0.toInt8.toInt32))])
    refine Goes.icmp (pc' := 32) X24.here X24.ex (hb hby d_jdk_43_method_27_27) (by decide) (by decide) (fun hk0 => ?_) (fun hk0 => ?_)
    · have hk0 : ¬ ((d0.toInt8.toInt32) = (46 : Int32)) := hk0
      show Goes _ _ _ _ T24 (mkF m 32 #[.val (.ref t), .val (.int (46 : Int32)), .val (.int (1 : Int32)), .val (.int (0 : Int32))] [])
      rw [own_b46 b0] at hk0
      refine Goes.go (fun _ kS_ => XS.iinc X24.here X24.ex rfl (hb hby d_jdk_43_method_27_32) rfl (l' := #[.val (.ref t), .val (.int (46 : Int32)), .val (.int (1 : Int32)), .val (.int ((0 : Int32) + (-1 : Int32)))]) rfl kS_) ?_
      show Goes _ _ _ _ T24 (mkF m 35 #[.val (.ref t), .val (.int (46 : Int32)), .val (.int (1 : Int32)), .val (.int ((0 : Int32) + (-1 : Int32)))] [])
      refine Goes.cast (congrArg (fun zq_ => (mkF m 35 #[.val (.ref t), .val (.int (46 : Int32)), .val (.int (1 : Int32)), .val (.int zq_)] [])) (show (((0 : Int32) + (-1 : Int32)) : Int32) = (-1 : Int32) from by decide)) ?_
      show Goes _ _ _ _ T24 (mkF m 35 #[.val (.ref t), .val (.int (46 : Int32)), .val (.int (1 : Int32)), .val (.int (-1 : Int32))] [])
      refine Goes.go (fun _ kS_ => XS.goto X24.here X24.ex rfl (pc0 := 35) (pc' := 18) rfl (hb hby d_jdk_43_method_27_35) (by decide) (by decide) (XS.iloadN X24.here X24.ex rfl (hb hby d_jdk_43_method_27_18) rfl (XS.ifYes X24.here X24.ex rfl (pc0 := 19) (pc' := 38) rfl (hb hby d_jdk_43_method_27_19) rfl ((if0 _ _).trans (cd_t (cd := .lt) (x := (-1 : Int32)) (y := (0 : Int32)) (by decide))) (by decide) (by decide) (XS.iconst X24.here X24.ex rfl (hb hby d_jdk_43_method_27_38) kS_)))) ?_
      show Goes _ _ _ _ T24 (mkF m 39 #[.val (.ref t), .val (.int (46 : Int32)), .val (.int (1 : Int32)), .val (.int (-1 : Int32))] [(.int (-1 : Int32))])
      refine Goes.outN X24 (fun q => by rw [hret] at q; cases q) hlk (X24.rI hret (hb hby d_jdk_43_method_27_39)) ?_ (by decide) (by decide)
      exact ⟨Ext.oKeepOf X24.ext [], by rw [own_l2, if_neg hk1, own_l1, if_neg hk0]⟩
    · have hk0 : (d0.toInt8.toInt32) = (46 : Int32) := Classical.not_not.mp hk0
      show Goes _ _ _ _ T24 (mkF m 30 #[.val (.ref t), .val (.int (46 : Int32)), .val (.int (1 : Int32)), .val (.int (0 : Int32))] [])
      rw [own_b46 b0] at hk0
      refine Goes.go (fun _ kS_ => XS.iloadN X24.here X24.ex rfl (hb hby d_jdk_43_method_27_30) rfl kS_) ?_
      show Goes _ _ _ _ T24 (mkF m 31 #[.val (.ref t), .val (.int (46 : Int32)), .val (.int (1 : Int32)), .val (.int (0 : Int32))] [(.int (0 : Int32))])
      refine Goes.outN X24 (fun q => by rw [hret] at q; cases q) hlk (X24.rI hret (hb hby d_jdk_43_method_27_31)) ?_ (by decide) (by decide)
      exact ⟨Ext.oKeepOf X24.ext [], by rw [own_l2, if_neg hk1, own_l1, if_pos hk0]⟩
  · have hk1 : (d1.toInt8.toInt32) = (46 : Int32) := Classical.not_not.mp hk1
    show Goes _ _ _ _ T24 (mkF m 30 #[.val (.ref t), .val (.int (46 : Int32)), .val (.int (1 : Int32)), .val (.int (1 : Int32))] [])
    rw [own_b46 b1] at hk1
    refine Goes.go (fun _ kS_ => XS.iloadN X24.here X24.ex rfl (hb hby d_jdk_43_method_27_30) rfl kS_) ?_
    show Goes _ _ _ _ T24 (mkF m 31 #[.val (.ref t), .val (.int (46 : Int32)), .val (.int (1 : Int32)), .val (.int (1 : Int32))] [(.int (1 : Int32))])
    refine Goes.outN X24 (fun q => by rw [hret] at q; cases q) hlk (X24.rI hret (hb hby d_jdk_43_method_27_31)) ?_ (by decide) (by decide)
    exact ⟨Ext.oKeepOf X24.ext [], by rw [own_l2, if_pos hk1]⟩
set_option maxRecDepth 65536 in
set_option maxHeartbeats 40000000 in
theorem own_lioA3 (l : Launch) (Z : State) (a0 : Array Value) (hw : ∀ d ∈ tables_1, d.before a0 Z = true) (h0 : Heap) (hO : Ext Z.heap h0) (t : Addr) (kb : ClassId) (d0 : Int32) (d1 : Int32) (d2 : Int32) (V_t : Arv Z h0 t kb .byte (3 : Int32) [(.int (d0.toInt8.toInt32)), (.int (d1.toInt8.toInt32)), (.int (d2.toInt8.toInt32))] (.int (0 : Int32))) (b0 : ¬ d0 < 0 ∧ ¬ (255 : Int32) < d0) (b1 : ¬ d1 < 0 ∧ ¬ (255 : Int32) < d1) (b2 : ¬ d2 < 0 ∧ ¬ (255 : Int32) < d2) :
    CtrN l Z (⟨"java/lang/StringLatin1", "lastIndexOf", "([BII)I"⟩ : MethodName) jdk_43_method_27_code 4 (some .int) ({ frames := 1, cells := 0, slots := 0, locals := 13 } : Room) #[(.ref t), (.int (46 : Int32)), (.int (2 : Int32))] h0 (fun v h' => Keep h0 h' [] ∧ v = some (.int (own_l3 d0 d1 d2))) := by
  refine CtrN.of (plainFor_of_name pn_1) hO ?_
  intro p e s m below meth c T0 X0 hsh hby hml hret hlk hnm
  refine Goes.cast (ef_own_lioA3 m t) ?_
  show Goes _ _ _ _ T0 (mkF m 0 #[.val (.ref t), .val (.int (46 : Int32)), .val (.int (2 : Int32)), .unset] [])
  refine Goes.go (fun _ kS_ => XS.iloadN X0.here X0.ex rfl (hb hby d_jdk_43_method_27_0) rfl kS_) ?_
  show Goes _ _ _ _ T0 (mkF m 1 #[.val (.ref t), .val (.int (46 : Int32)), .val (.int (2 : Int32)), .unset] [(.int (46 : Int32))])
  refine Wk.static (hm' := fun _ => h0) (y := (⟨"java/lang/StringLatin1", "canEncode", "(I)Z"⟩ : MethodName)) (W := 0) (kc := 0) (ks := 0) (argsL := [(.int (46 : Int32))]) (rest := []) (as' := #[(.int (46 : Int32))]) (ws := []) X0 (w_64 hw) (w_65 hw) (w_62 hw) (w_66 hw) (by decide) (CtrN.pays (own_canI l Z a0 hw h0 X0.old ) (w_66 hw) (w_62 hw) (by decide) (by decide)) (fun v h' L q => ⟨q.2, q.1.1⟩) all0 (fun _ => Mark.stay all0) rfl (by rw [hml]; rfl) (lenOf pd_1 rfl) rfl rfl (by show 2 * 0 + _ ≤ _; exact Nat.le_of_eq rfl) (hb hby d_jdk_43_method_27_1) (by decide) (by decide) ?_
  intro T27 h27 v27 L27 X27 q27 K27
  obtain ⟨⟨-, rfl⟩, -⟩ := q27
  replace V_t := V_t.ext K27.oExt
  show Goes _ _ _ _ T27 (mkF m 4 #[.val (.ref t), .val (.int (46 : Int32)), .val (.int (2 : Int32)), .unset] [(.int (1 : Int32))])
  refine Goes.go (fun _ kS_ => XS.ifYes X27.here X27.ex rfl (pc0 := 4) (pc' := 9) rfl (hb hby d_jdk_43_method_27_4) rfl ((if0 _ _).trans (cd_t (cd := .ne) (x := (1 : Int32)) (y := (0 : Int32)) (by decide))) (by decide) (by decide) (XS.iloadN X27.here X27.ex rfl (hb hby d_jdk_43_method_27_9) rfl (XS.aloadN X27.here X27.ex rfl (hb hby d_jdk_43_method_27_10) rfl rfl kS_))) ?_
  show Goes _ _ _ _ T27 (mkF m 11 #[.val (.ref t), .val (.int (46 : Int32)), .val (.int (2 : Int32)), .unset] [(.ref t), (.int (2 : Int32))])
  refine Goes.go (X27.alen V_t rfl rfl (hb hby d_jdk_43_method_27_11)) ?_
  show Goes _ _ _ _ T27 (mkF m 12 #[.val (.ref t), .val (.int (46 : Int32)), .val (.int (2 : Int32)), .unset] [(.int (3 : Int32)), (.int (2 : Int32))])
  refine Goes.go (fun _ kS_ => XS.iconst X27.here X27.ex rfl (hb hby d_jdk_43_method_27_12) (XS.isub X27.here X27.ex rfl (hb hby d_jdk_43_method_27_13) rfl kS_)) ?_
  show Goes _ _ _ _ T27 (mkF m 14 #[.val (.ref t), .val (.int (46 : Int32)), .val (.int (2 : Int32)), .unset] [(.int ((3 : Int32) - (1 : Int32))), (.int (2 : Int32))])
  refine Goes.cast (congrArg (fun zq_ => (mkF m 14 #[.val (.ref t), .val (.int (46 : Int32)), .val (.int (2 : Int32)), .unset] [(.int zq_), (.int (2 : Int32))])) (show (((3 : Int32) - (1 : Int32)) : Int32) = (2 : Int32) from by decide)) ?_
  show Goes _ _ _ _ T27 (mkF m 14 #[.val (.ref t), .val (.int (46 : Int32)), .val (.int (2 : Int32)), .unset] [(.int (2 : Int32)), (.int (2 : Int32))])
  refine Wk.static (hm' := fun _ => h0) (y := (⟨"java/lang/Math", "min", "(II)I"⟩ : MethodName)) (W := 0) (kc := 0) (ks := 0) (argsL := [(.int (2 : Int32)), (.int (2 : Int32))]) (rest := []) (as' := #[(.int (2 : Int32)), (.int (2 : Int32))]) (ws := []) X27 (w_67 hw) (w_68 hw) (w_69 hw) (w_70 hw) (by decide) (CtrN.pays (own_min l Z a0 hw h27 X27.old (2 : Int32)) (w_70 hw) (w_69 hw) (by decide) (by decide)) (fun v h' L q => ⟨q.2, q.1.1⟩) all0 (fun _ => Mark.stay all0) rfl (by rw [hml]; rfl) (lenOf pd_2 rfl) rfl rfl (by show 2 * 0 + _ ≤ _; exact Nat.le_of_eq rfl) (hb hby d_jdk_43_method_27_14) (by decide) (by decide) ?_
  intro T28 h28 v28 L28 X28 q28 K28
  obtain ⟨⟨-, rfl⟩, -⟩ := q28
  replace V_t := V_t.ext K28.oExt
  show Goes _ _ _ _ T28 (mkF m 17 #[.val (.ref t), .val (.int (46 : Int32)), .val (.int (2 : Int32)), .unset] [(.int (2 : Int32))])
  refine Goes.go (fun _ kS_ => XS.istoreN X28.here X28.ex rfl (hb hby d_jdk_43_method_27_17) rfl (l' := #[.val (.ref t), .val (.int (46 : Int32)), .val (.int (2 : Int32)), .val (.int (2 : Int32))]) rfl (XS.iloadN X28.here X28.ex rfl (hb hby d_jdk_43_method_27_18) rfl (XS.ifNo X28.here X28.ex rfl (hb hby d_jdk_43_method_27_19) rfl ((if0 _ _).trans (cd_f (cd := .lt) (x := (2 : Int32)) (y := (0 : Int32)) (by decide))) (XS.aloadN X28.here X28.ex rfl (hb hby d_jdk_43_method_27_22) rfl rfl (XS.iloadN X28.here X28.ex rfl (hb hby d_jdk_43_method_27_23) rfl kS_))))) ?_
  show Goes _ _ _ _ T28 (mkF m 24 #[.val (.ref t), .val (.int (46 : Int32)), .val (.int (2 : Int32)), .val (.int (2 : Int32))] [(.int (2 : Int32)), (.ref t)])
  refine Goes.go (X28.baload V_t ⟨by decide, by decide⟩ (v := .int (d2.toInt8.toInt32)) rfl rfl rfl (hb hby d_jdk_43_method_27_24)) ?_
  show Goes _ _ _ _ T28 (mkF m 25 #[.val (.ref t), .val (.int (46 : Int32)), .val (.int (2 : Int32)), .val (.int (2 : Int32))] [(.int (d2.toInt8.toInt32))])
  refine Goes.go (fun _ kS_ => XS.iloadN X28.here X28.ex rfl (hb hby d_jdk_43_method_27_25) rfl (XS.i2b X28.here X28.ex rfl (hb hby d_jdk_43_method_27_26) rfl kS_)) ?_
  show Goes _ _ _ _ T28 (mkF m 27 #[.val (.ref t), .val (.int (46 : Int32)), .val (.int (2 : Int32)), .val (.int (2 : Int32))] [(.int ((46 : Int32).toInt8.toInt32)), (.int (d2.toInt8.toInt32))])
  refine Goes.cast (congrArg (fun zq_ => (mkF m 27 #[.val (.ref t), .val (.int (46 : Int32)), .val (.int (2 : Int32)), .val (.int (2 : Int32))] [(.int zq_), (.int (d2.toInt8.toInt32))])) (show (((46 : Int32).toInt8.toInt32) : Int32) = (46 : Int32) from by decide)) ?_
  show Goes _ _ _ _ T28 (mkF m 27 #[.val (.ref t), .val (.int (46 : Int32)), .val (.int (2 : Int32)), .val (.int (2 : Int32))] [(.int (46 : Int32)), (.int (d2.toInt8.toInt32))])
  refine Goes.icmp (pc' := 32) X28.here X28.ex (hb hby d_jdk_43_method_27_27) (by decide) (by decide) (fun hk2 => ?_) (fun hk2 => ?_)
  · have hk2 : ¬ ((d2.toInt8.toInt32) = (46 : Int32)) := hk2
    show Goes _ _ _ _ T28 (mkF m 32 #[.val (.ref t), .val (.int (46 : Int32)), .val (.int (2 : Int32)), .val (.int (2 : Int32))] [])
    rw [own_b46 b2] at hk2
    refine Goes.go (fun _ kS_ => XS.iinc X28.here X28.ex rfl (hb hby d_jdk_43_method_27_32) rfl (l' := #[.val (.ref t), .val (.int (46 : Int32)), .val (.int (2 : Int32)), .val (.int ((2 : Int32) + (-1 : Int32)))]) rfl kS_) ?_
    show Goes _ _ _ _ T28 (mkF m 35 #[.val (.ref t), .val (.int (46 : Int32)), .val (.int (2 : Int32)), .val (.int ((2 : Int32) + (-1 : Int32)))] [])
    refine Goes.cast (congrArg (fun zq_ => (mkF m 35 #[.val (.ref t), .val (.int (46 : Int32)), .val (.int (2 : Int32)), .val (.int zq_)] [])) (show (((2 : Int32) + (-1 : Int32)) : Int32) = (1 : Int32) from by decide)) ?_
    show Goes _ _ _ _ T28 (mkF m 35 #[.val (.ref t), .val (.int (46 : Int32)), .val (.int (2 : Int32)), .val (.int (1 : Int32))] [])
    refine Goes.go (fun _ kS_ => XS.goto X28.here X28.ex rfl (pc0 := 35) (pc' := 18) rfl (hb hby d_jdk_43_method_27_35) (by decide) (by decide) (XS.iloadN X28.here X28.ex rfl (hb hby d_jdk_43_method_27_18) rfl (XS.ifNo X28.here X28.ex rfl (hb hby d_jdk_43_method_27_19) rfl ((if0 _ _).trans (cd_f (cd := .lt) (x := (1 : Int32)) (y := (0 : Int32)) (by decide))) (XS.aloadN X28.here X28.ex rfl (hb hby d_jdk_43_method_27_22) rfl rfl (XS.iloadN X28.here X28.ex rfl (hb hby d_jdk_43_method_27_23) rfl kS_))))) ?_
    show Goes _ _ _ _ T28 (mkF m 24 #[.val (.ref t), .val (.int (46 : Int32)), .val (.int (2 : Int32)), .val (.int (1 : Int32))] [(.int (1 : Int32)), (.ref t)])
    refine Goes.go (X28.baload V_t ⟨by decide, by decide⟩ (v := .int (d1.toInt8.toInt32)) rfl rfl rfl (hb hby d_jdk_43_method_27_24)) ?_
    show Goes _ _ _ _ T28 (mkF m 25 #[.val (.ref t), .val (.int (46 : Int32)), .val (.int (2 : Int32)), .val (.int (1 : Int32))] [(.int (d1.toInt8.toInt32))])
    refine Goes.go (fun _ kS_ => XS.iloadN X28.here X28.ex rfl (hb hby d_jdk_43_method_27_25) rfl (XS.i2b X28.here X28.ex rfl (hb hby d_jdk_43_method_27_26) rfl kS_)) ?_
    show Goes _ _ _ _ T28 (mkF m 27 #[.val (.ref t), .val (.int (46 : Int32)), .val (.int (2 : Int32)), .val (.int (1 : Int32))] [(.int ((46 : Int32).toInt8.toInt32)), (.int (d1.toInt8.toInt32))])
    refine Goes.cast (congrArg (fun zq_ => (mkF m 27 #[.val (.ref t), .val (.int (46 : Int32)), .val (.int (2 : Int32)), .val (.int (1 : Int32))] [(.int zq_), (.int (d1.toInt8.toInt32))])) (show (((46 : Int32).toInt8.toInt32) : Int32) = (46 : Int32) from by decide)) ?_
    show Goes _ _ _ _ T28 (mkF m 27 #[.val (.ref t), .val (.int (46 : Int32)), .val (.int (2 : Int32)), .val (.int (1 : Int32))] [(.int (46 : Int32)), (.int (d1.toInt8.toInt32))])
    refine Goes.icmp (pc' := 32) X28.here X28.ex (hb hby d_jdk_43_method_27_27) (by decide) (by decide) (fun hk1 => ?_) (fun hk1 => ?_)
    · have hk1 : ¬ ((d1.toInt8.toInt32) = (46 : Int32)) := hk1
      show Goes _ _ _ _ T28 (mkF m 32 #[.val (.ref t), .val (.int (46 : Int32)), .val (.int (2 : Int32)), .val (.int (1 : Int32))] [])
      rw [own_b46 b1] at hk1
      refine Goes.go (fun _ kS_ => XS.iinc X28.here X28.ex rfl (hb hby d_jdk_43_method_27_32) rfl (l' := #[.val (.ref t), .val (.int (46 : Int32)), .val (.int (2 : Int32)), .val (.int ((1 : Int32) + (-1 : Int32)))]) rfl kS_) ?_
      show Goes _ _ _ _ T28 (mkF m 35 #[.val (.ref t), .val (.int (46 : Int32)), .val (.int (2 : Int32)), .val (.int ((1 : Int32) + (-1 : Int32)))] [])
      refine Goes.cast (congrArg (fun zq_ => (mkF m 35 #[.val (.ref t), .val (.int (46 : Int32)), .val (.int (2 : Int32)), .val (.int zq_)] [])) (show (((1 : Int32) + (-1 : Int32)) : Int32) = (0 : Int32) from by decide)) ?_
      show Goes _ _ _ _ T28 (mkF m 35 #[.val (.ref t), .val (.int (46 : Int32)), .val (.int (2 : Int32)), .val (.int (0 : Int32))] [])
      refine Goes.go (fun _ kS_ => XS.goto X28.here X28.ex rfl (pc0 := 35) (pc' := 18) rfl (hb hby d_jdk_43_method_27_35) (by decide) (by decide) (XS.iloadN X28.here X28.ex rfl (hb hby d_jdk_43_method_27_18) rfl (XS.ifNo X28.here X28.ex rfl (hb hby d_jdk_43_method_27_19) rfl ((if0 _ _).trans (cd_f (cd := .lt) (x := (0 : Int32)) (y := (0 : Int32)) (by decide))) (XS.aloadN X28.here X28.ex rfl (hb hby d_jdk_43_method_27_22) rfl rfl (XS.iloadN X28.here X28.ex rfl (hb hby d_jdk_43_method_27_23) rfl kS_))))) ?_
      show Goes _ _ _ _ T28 (mkF m 24 #[.val (.ref t), .val (.int (46 : Int32)), .val (.int (2 : Int32)), .val (.int (0 : Int32))] [(.int (0 : Int32)), (.ref t)])
      refine Goes.go (X28.baload V_t ⟨by decide, by decide⟩ (v := .int (d0.toInt8.toInt32)) rfl rfl rfl (hb hby d_jdk_43_method_27_24)) ?_
      show Goes _ _ _ _ T28 (mkF m 25 #[.val (.ref t), .val (.int (46 : Int32)), .val (.int (2 : Int32)), .val (.int (0 : Int32))] [(.int (d0.toInt8.toInt32))])
      refine Goes.go (fun _ kS_ => XS.iloadN X28.here X28.ex rfl (hb hby d_jdk_43_method_27_25) rfl (XS.i2b X28.here X28.ex rfl (hb hby d_jdk_43_method_27_26) rfl kS_)) ?_
      show Goes _ _ _ _ T28 (mkF m 27 #[.val (.ref t), .val (.int (46 : Int32)), .val (.int (2 : Int32)), .val (.int (0 : Int32))] [(.int ((46 : Int32).toInt8.toInt32)), (.int (d0.toInt8.toInt32))])
      refine Goes.cast (congrArg (fun zq_ => (mkF m 27 #[.val (.ref t), .val (.int (46 : Int32)), .val (.int (2 : Int32)), .val (.int (0 : Int32))] [(.int zq_), (.int (d0.toInt8.toInt32))])) (show (((46 : Int32).toInt8.toInt32) : Int32) = (46 : Int32) from by decide)) ?_
      show Goes _ _ _ _ T28 (mkF m 27 #[.val (.ref t), .val (.int (46 : Int32)), .val (.int (2 : Int32)), .val (.int (0 : Int32))] [(.int (46 : Int32)), (.int (d0.toInt8.toInt32))])
      refine Goes.icmp (pc' := 32) X28.here X28.ex (hb hby d_jdk_43_method_27_27) (by decide) (by decide) (fun hk0 => ?_) (fun hk0 => ?_)
      · have hk0 : ¬ ((d0.toInt8.toInt32) = (46 : Int32)) := hk0
        show Goes _ _ _ _ T28 (mkF m 32 #[.val (.ref t), .val (.int (46 : Int32)), .val (.int (2 : Int32)), .val (.int (0 : Int32))] [])
        rw [own_b46 b0] at hk0
        refine Goes.go (fun _ kS_ => XS.iinc X28.here X28.ex rfl (hb hby d_jdk_43_method_27_32) rfl (l' := #[.val (.ref t), .val (.int (46 : Int32)), .val (.int (2 : Int32)), .val (.int ((0 : Int32) + (-1 : Int32)))]) rfl kS_) ?_
        show Goes _ _ _ _ T28 (mkF m 35 #[.val (.ref t), .val (.int (46 : Int32)), .val (.int (2 : Int32)), .val (.int ((0 : Int32) + (-1 : Int32)))] [])
        refine Goes.cast (congrArg (fun zq_ => (mkF m 35 #[.val (.ref t), .val (.int (46 : Int32)), .val (.int (2 : Int32)), .val (.int zq_)] [])) (show (((0 : Int32) + (-1 : Int32)) : Int32) = (-1 : Int32) from by decide)) ?_
        show Goes _ _ _ _ T28 (mkF m 35 #[.val (.ref t), .val (.int (46 : Int32)), .val (.int (2 : Int32)), .val (.int (-1 : Int32))] [])
        refine Goes.go (fun _ kS_ => XS.goto X28.here X28.ex rfl (pc0 := 35) (pc' := 18) rfl (hb hby d_jdk_43_method_27_35) (by decide) (by decide) (XS.iloadN X28.here X28.ex rfl (hb hby d_jdk_43_method_27_18) rfl (XS.ifYes X28.here X28.ex rfl (pc0 := 19) (pc' := 38) rfl (hb hby d_jdk_43_method_27_19) rfl ((if0 _ _).trans (cd_t (cd := .lt) (x := (-1 : Int32)) (y := (0 : Int32)) (by decide))) (by decide) (by decide) (XS.iconst X28.here X28.ex rfl (hb hby d_jdk_43_method_27_38) kS_)))) ?_
        show Goes _ _ _ _ T28 (mkF m 39 #[.val (.ref t), .val (.int (46 : Int32)), .val (.int (2 : Int32)), .val (.int (-1 : Int32))] [(.int (-1 : Int32))])
        refine Goes.outN X28 (fun q => by rw [hret] at q; cases q) hlk (X28.rI hret (hb hby d_jdk_43_method_27_39)) ?_ (by decide) (by decide)
        exact ⟨Ext.oKeepOf X28.ext [], by rw [own_l3, if_neg hk2, own_l2, if_neg hk1, own_l1, if_neg hk0]⟩
      · have hk0 : (d0.toInt8.toInt32) = (46 : Int32) := Classical.not_not.mp hk0
        show Goes _ _ _ _ T28 (mkF m 30 #[.val (.ref t), .val (.int (46 : Int32)), .val (.int (2 : Int32)), .val (.int (0 : Int32))] [])
        rw [own_b46 b0] at hk0
        refine Goes.go (fun _ kS_ => XS.iloadN X28.here X28.ex rfl (hb hby d_jdk_43_method_27_30) rfl kS_) ?_
        show Goes _ _ _ _ T28 (mkF m 31 #[.val (.ref t), .val (.int (46 : Int32)), .val (.int (2 : Int32)), .val (.int (0 : Int32))] [(.int (0 : Int32))])
        refine Goes.outN X28 (fun q => by rw [hret] at q; cases q) hlk (X28.rI hret (hb hby d_jdk_43_method_27_31)) ?_ (by decide) (by decide)
        exact ⟨Ext.oKeepOf X28.ext [], by rw [own_l3, if_neg hk2, own_l2, if_neg hk1, own_l1, if_pos hk0]⟩
    · have hk1 : (d1.toInt8.toInt32) = (46 : Int32) := Classical.not_not.mp hk1
      show Goes _ _ _ _ T28 (mkF m 30 #[.val (.ref t), .val (.int (46 : Int32)), .val (.int (2 : Int32)), .val (.int (1 : Int32))] [])
      rw [own_b46 b1] at hk1
      refine Goes.go (fun _ kS_ => XS.iloadN X28.here X28.ex rfl (hb hby d_jdk_43_method_27_30) rfl kS_) ?_
      show Goes _ _ _ _ T28 (mkF m 31 #[.val (.ref t), .val (.int (46 : Int32)), .val (.int (2 : Int32)), .val (.int (1 : Int32))] [(.int (1 : Int32))])
      refine Goes.outN X28 (fun q => by rw [hret] at q; cases q) hlk (X28.rI hret (hb hby d_jdk_43_method_27_31)) ?_ (by decide) (by decide)
      exact ⟨Ext.oKeepOf X28.ext [], by rw [own_l3, if_neg hk2, own_l2, if_pos hk1]⟩
  · have hk2 : (d2.toInt8.toInt32) = (46 : Int32) := Classical.not_not.mp hk2
    show Goes _ _ _ _ T28 (mkF m 30 #[.val (.ref t), .val (.int (46 : Int32)), .val (.int (2 : Int32)), .val (.int (2 : Int32))] [])
    rw [own_b46 b2] at hk2
    refine Goes.go (fun _ kS_ => XS.iloadN X28.here X28.ex rfl (hb hby d_jdk_43_method_27_30) rfl kS_) ?_
    show Goes _ _ _ _ T28 (mkF m 31 #[.val (.ref t), .val (.int (46 : Int32)), .val (.int (2 : Int32)), .val (.int (2 : Int32))] [(.int (2 : Int32))])
    refine Goes.outN X28 (fun q => by rw [hret] at q; cases q) hlk (X28.rI hret (hb hby d_jdk_43_method_27_31)) ?_ (by decide) (by decide)
    exact ⟨Ext.oKeepOf X28.ext [], by rw [own_l3, if_pos hk2]⟩
set_option maxRecDepth 65536 in
set_option maxHeartbeats 40000000 in
theorem own_lioA4 (l : Launch) (Z : State) (a0 : Array Value) (hw : ∀ d ∈ tables_1, d.before a0 Z = true) (h0 : Heap) (hO : Ext Z.heap h0) (t : Addr) (kb : ClassId) (d0 : Int32) (d1 : Int32) (d2 : Int32) (d3 : Int32) (V_t : Arv Z h0 t kb .byte (4 : Int32) [(.int (d0.toInt8.toInt32)), (.int (d1.toInt8.toInt32)), (.int (d2.toInt8.toInt32)), (.int (d3.toInt8.toInt32))] (.int (0 : Int32))) (b0 : ¬ d0 < 0 ∧ ¬ (255 : Int32) < d0) (b1 : ¬ d1 < 0 ∧ ¬ (255 : Int32) < d1) (b2 : ¬ d2 < 0 ∧ ¬ (255 : Int32) < d2) (b3 : ¬ d3 < 0 ∧ ¬ (255 : Int32) < d3) :
    CtrN l Z (⟨"java/lang/StringLatin1", "lastIndexOf", "([BII)I"⟩ : MethodName) jdk_43_method_27_code 4 (some .int) ({ frames := 1, cells := 0, slots := 0, locals := 13 } : Room) #[(.ref t), (.int (46 : Int32)), (.int (3 : Int32))] h0 (fun v h' => Keep h0 h' [] ∧ v = some (.int (own_l4 d0 d1 d2 d3))) := by
  refine CtrN.of (plainFor_of_name pn_1) hO ?_
  intro p e s m below meth c T0 X0 hsh hby hml hret hlk hnm
  refine Goes.cast (ef_own_lioA4 m t) ?_
  show Goes _ _ _ _ T0 (mkF m 0 #[.val (.ref t), .val (.int (46 : Int32)), .val (.int (3 : Int32)), .unset] [])
  refine Goes.go (fun _ kS_ => XS.iloadN X0.here X0.ex rfl (hb hby d_jdk_43_method_27_0) rfl kS_) ?_
  show Goes _ _ _ _ T0 (mkF m 1 #[.val (.ref t), .val (.int (46 : Int32)), .val (.int (3 : Int32)), .unset] [(.int (46 : Int32))])
  refine Wk.static (hm' := fun _ => h0) (y := (⟨"java/lang/StringLatin1", "canEncode", "(I)Z"⟩ : MethodName)) (W := 0) (kc := 0) (ks := 0) (argsL := [(.int (46 : Int32))]) (rest := []) (as' := #[(.int (46 : Int32))]) (ws := []) X0 (w_64 hw) (w_65 hw) (w_62 hw) (w_66 hw) (by decide) (CtrN.pays (own_canI l Z a0 hw h0 X0.old ) (w_66 hw) (w_62 hw) (by decide) (by decide)) (fun v h' L q => ⟨q.2, q.1.1⟩) all0 (fun _ => Mark.stay all0) rfl (by rw [hml]; rfl) (lenOf pd_1 rfl) rfl rfl (by show 2 * 0 + _ ≤ _; exact Nat.le_of_eq rfl) (hb hby d_jdk_43_method_27_1) (by decide) (by decide) ?_
  intro T31 h31 v31 L31 X31 q31 K31
  obtain ⟨⟨-, rfl⟩, -⟩ := q31
  replace V_t := V_t.ext K31.oExt
  show Goes _ _ _ _ T31 (mkF m 4 #[.val (.ref t), .val (.int (46 : Int32)), .val (.int (3 : Int32)), .unset] [(.int (1 : Int32))])
  refine Goes.go (fun _ kS_ => XS.ifYes X31.here X31.ex rfl (pc0 := 4) (pc' := 9) rfl (hb hby d_jdk_43_method_27_4) rfl ((if0 _ _).trans (cd_t (cd := .ne) (x := (1 : Int32)) (y := (0 : Int32)) (by decide))) (by decide) (by decide) (XS.iloadN X31.here X31.ex rfl (hb hby d_jdk_43_method_27_9) rfl (XS.aloadN X31.here X31.ex rfl (hb hby d_jdk_43_method_27_10) rfl rfl kS_))) ?_
  show Goes _ _ _ _ T31 (mkF m 11 #[.val (.ref t), .val (.int (46 : Int32)), .val (.int (3 : Int32)), .unset] [(.ref t), (.int (3 : Int32))])
  refine Goes.go (X31.alen V_t rfl rfl (hb hby d_jdk_43_method_27_11)) ?_
  show Goes _ _ _ _ T31 (mkF m 12 #[.val (.ref t), .val (.int (46 : Int32)), .val (.int (3 : Int32)), .unset] [(.int (4 : Int32)), (.int (3 : Int32))])
  refine Goes.go (fun _ kS_ => XS.iconst X31.here X31.ex rfl (hb hby d_jdk_43_method_27_12) (XS.isub X31.here X31.ex rfl (hb hby d_jdk_43_method_27_13) rfl kS_)) ?_
  show Goes _ _ _ _ T31 (mkF m 14 #[.val (.ref t), .val (.int (46 : Int32)), .val (.int (3 : Int32)), .unset] [(.int ((4 : Int32) - (1 : Int32))), (.int (3 : Int32))])
  refine Goes.cast (congrArg (fun zq_ => (mkF m 14 #[.val (.ref t), .val (.int (46 : Int32)), .val (.int (3 : Int32)), .unset] [(.int zq_), (.int (3 : Int32))])) (show (((4 : Int32) - (1 : Int32)) : Int32) = (3 : Int32) from by decide)) ?_
  show Goes _ _ _ _ T31 (mkF m 14 #[.val (.ref t), .val (.int (46 : Int32)), .val (.int (3 : Int32)), .unset] [(.int (3 : Int32)), (.int (3 : Int32))])
  refine Wk.static (hm' := fun _ => h0) (y := (⟨"java/lang/Math", "min", "(II)I"⟩ : MethodName)) (W := 0) (kc := 0) (ks := 0) (argsL := [(.int (3 : Int32)), (.int (3 : Int32))]) (rest := []) (as' := #[(.int (3 : Int32)), (.int (3 : Int32))]) (ws := []) X31 (w_67 hw) (w_68 hw) (w_69 hw) (w_70 hw) (by decide) (CtrN.pays (own_min l Z a0 hw h31 X31.old (3 : Int32)) (w_70 hw) (w_69 hw) (by decide) (by decide)) (fun v h' L q => ⟨q.2, q.1.1⟩) all0 (fun _ => Mark.stay all0) rfl (by rw [hml]; rfl) (lenOf pd_2 rfl) rfl rfl (by show 2 * 0 + _ ≤ _; exact Nat.le_of_eq rfl) (hb hby d_jdk_43_method_27_14) (by decide) (by decide) ?_
  intro T32 h32 v32 L32 X32 q32 K32
  obtain ⟨⟨-, rfl⟩, -⟩ := q32
  replace V_t := V_t.ext K32.oExt
  show Goes _ _ _ _ T32 (mkF m 17 #[.val (.ref t), .val (.int (46 : Int32)), .val (.int (3 : Int32)), .unset] [(.int (3 : Int32))])
  refine Goes.go (fun _ kS_ => XS.istoreN X32.here X32.ex rfl (hb hby d_jdk_43_method_27_17) rfl (l' := #[.val (.ref t), .val (.int (46 : Int32)), .val (.int (3 : Int32)), .val (.int (3 : Int32))]) rfl (XS.iloadN X32.here X32.ex rfl (hb hby d_jdk_43_method_27_18) rfl (XS.ifNo X32.here X32.ex rfl (hb hby d_jdk_43_method_27_19) rfl ((if0 _ _).trans (cd_f (cd := .lt) (x := (3 : Int32)) (y := (0 : Int32)) (by decide))) (XS.aloadN X32.here X32.ex rfl (hb hby d_jdk_43_method_27_22) rfl rfl (XS.iloadN X32.here X32.ex rfl (hb hby d_jdk_43_method_27_23) rfl kS_))))) ?_
  show Goes _ _ _ _ T32 (mkF m 24 #[.val (.ref t), .val (.int (46 : Int32)), .val (.int (3 : Int32)), .val (.int (3 : Int32))] [(.int (3 : Int32)), (.ref t)])
  refine Goes.go (X32.baload V_t ⟨by decide, by decide⟩ (v := .int (d3.toInt8.toInt32)) rfl rfl rfl (hb hby d_jdk_43_method_27_24)) ?_
  show Goes _ _ _ _ T32 (mkF m 25 #[.val (.ref t), .val (.int (46 : Int32)), .val (.int (3 : Int32)), .val (.int (3 : Int32))] [(.int (d3.toInt8.toInt32))])
  refine Goes.go (fun _ kS_ => XS.iloadN X32.here X32.ex rfl (hb hby d_jdk_43_method_27_25) rfl (XS.i2b X32.here X32.ex rfl (hb hby d_jdk_43_method_27_26) rfl kS_)) ?_
  show Goes _ _ _ _ T32 (mkF m 27 #[.val (.ref t), .val (.int (46 : Int32)), .val (.int (3 : Int32)), .val (.int (3 : Int32))] [(.int ((46 : Int32).toInt8.toInt32)), (.int (d3.toInt8.toInt32))])
  refine Goes.cast (congrArg (fun zq_ => (mkF m 27 #[.val (.ref t), .val (.int (46 : Int32)), .val (.int (3 : Int32)), .val (.int (3 : Int32))] [(.int zq_), (.int (d3.toInt8.toInt32))])) (show (((46 : Int32).toInt8.toInt32) : Int32) = (46 : Int32) from by decide)) ?_
  show Goes _ _ _ _ T32 (mkF m 27 #[.val (.ref t), .val (.int (46 : Int32)), .val (.int (3 : Int32)), .val (.int (3 : Int32))] [(.int (46 : Int32)), (.int (d3.toInt8.toInt32))])
  refine Goes.icmp (pc' := 32) X32.here X32.ex (hb hby d_jdk_43_method_27_27) (by decide) (by decide) (fun hk3 => ?_) (fun hk3 => ?_)
  · have hk3 : ¬ ((d3.toInt8.toInt32) = (46 : Int32)) := hk3
    show Goes _ _ _ _ T32 (mkF m 32 #[.val (.ref t), .val (.int (46 : Int32)), .val (.int (3 : Int32)), .val (.int (3 : Int32))] [])
    rw [own_b46 b3] at hk3
    refine Goes.go (fun _ kS_ => XS.iinc X32.here X32.ex rfl (hb hby d_jdk_43_method_27_32) rfl (l' := #[.val (.ref t), .val (.int (46 : Int32)), .val (.int (3 : Int32)), .val (.int ((3 : Int32) + (-1 : Int32)))]) rfl kS_) ?_
    show Goes _ _ _ _ T32 (mkF m 35 #[.val (.ref t), .val (.int (46 : Int32)), .val (.int (3 : Int32)), .val (.int ((3 : Int32) + (-1 : Int32)))] [])
    refine Goes.cast (congrArg (fun zq_ => (mkF m 35 #[.val (.ref t), .val (.int (46 : Int32)), .val (.int (3 : Int32)), .val (.int zq_)] [])) (show (((3 : Int32) + (-1 : Int32)) : Int32) = (2 : Int32) from by decide)) ?_
    show Goes _ _ _ _ T32 (mkF m 35 #[.val (.ref t), .val (.int (46 : Int32)), .val (.int (3 : Int32)), .val (.int (2 : Int32))] [])
    refine Goes.go (fun _ kS_ => XS.goto X32.here X32.ex rfl (pc0 := 35) (pc' := 18) rfl (hb hby d_jdk_43_method_27_35) (by decide) (by decide) (XS.iloadN X32.here X32.ex rfl (hb hby d_jdk_43_method_27_18) rfl (XS.ifNo X32.here X32.ex rfl (hb hby d_jdk_43_method_27_19) rfl ((if0 _ _).trans (cd_f (cd := .lt) (x := (2 : Int32)) (y := (0 : Int32)) (by decide))) (XS.aloadN X32.here X32.ex rfl (hb hby d_jdk_43_method_27_22) rfl rfl (XS.iloadN X32.here X32.ex rfl (hb hby d_jdk_43_method_27_23) rfl kS_))))) ?_
    show Goes _ _ _ _ T32 (mkF m 24 #[.val (.ref t), .val (.int (46 : Int32)), .val (.int (3 : Int32)), .val (.int (2 : Int32))] [(.int (2 : Int32)), (.ref t)])
    refine Goes.go (X32.baload V_t ⟨by decide, by decide⟩ (v := .int (d2.toInt8.toInt32)) rfl rfl rfl (hb hby d_jdk_43_method_27_24)) ?_
    show Goes _ _ _ _ T32 (mkF m 25 #[.val (.ref t), .val (.int (46 : Int32)), .val (.int (3 : Int32)), .val (.int (2 : Int32))] [(.int (d2.toInt8.toInt32))])
    refine Goes.go (fun _ kS_ => XS.iloadN X32.here X32.ex rfl (hb hby d_jdk_43_method_27_25) rfl (XS.i2b X32.here X32.ex rfl (hb hby d_jdk_43_method_27_26) rfl kS_)) ?_
    show Goes _ _ _ _ T32 (mkF m 27 #[.val (.ref t), .val (.int (46 : Int32)), .val (.int (3 : Int32)), .val (.int (2 : Int32))] [(.int ((46 : Int32).toInt8.toInt32)), (.int (d2.toInt8.toInt32))])
    refine Goes.cast (congrArg (fun zq_ => (mkF m 27 #[.val (.ref t), .val (.int (46 : Int32)), .val (.int (3 : Int32)), .val (.int (2 : Int32))] [(.int zq_), (.int (d2.toInt8.toInt32))])) (show (((46 : Int32).toInt8.toInt32) : Int32) = (46 : Int32) from by decide)) ?_
    show Goes _ _ _ _ T32 (mkF m 27 #[.val (.ref t), .val (.int (46 : Int32)), .val (.int (3 : Int32)), .val (.int (2 : Int32))] [(.int (46 : Int32)), (.int (d2.toInt8.toInt32))])
    refine Goes.icmp (pc' := 32) X32.here X32.ex (hb hby d_jdk_43_method_27_27) (by decide) (by decide) (fun hk2 => ?_) (fun hk2 => ?_)
    · have hk2 : ¬ ((d2.toInt8.toInt32) = (46 : Int32)) := hk2
      show Goes _ _ _ _ T32 (mkF m 32 #[.val (.ref t), .val (.int (46 : Int32)), .val (.int (3 : Int32)), .val (.int (2 : Int32))] [])
      rw [own_b46 b2] at hk2
      refine Goes.go (fun _ kS_ => XS.iinc X32.here X32.ex rfl (hb hby d_jdk_43_method_27_32) rfl (l' := #[.val (.ref t), .val (.int (46 : Int32)), .val (.int (3 : Int32)), .val (.int ((2 : Int32) + (-1 : Int32)))]) rfl kS_) ?_
      show Goes _ _ _ _ T32 (mkF m 35 #[.val (.ref t), .val (.int (46 : Int32)), .val (.int (3 : Int32)), .val (.int ((2 : Int32) + (-1 : Int32)))] [])
      refine Goes.cast (congrArg (fun zq_ => (mkF m 35 #[.val (.ref t), .val (.int (46 : Int32)), .val (.int (3 : Int32)), .val (.int zq_)] [])) (show (((2 : Int32) + (-1 : Int32)) : Int32) = (1 : Int32) from by decide)) ?_
      show Goes _ _ _ _ T32 (mkF m 35 #[.val (.ref t), .val (.int (46 : Int32)), .val (.int (3 : Int32)), .val (.int (1 : Int32))] [])
      refine Goes.go (fun _ kS_ => XS.goto X32.here X32.ex rfl (pc0 := 35) (pc' := 18) rfl (hb hby d_jdk_43_method_27_35) (by decide) (by decide) (XS.iloadN X32.here X32.ex rfl (hb hby d_jdk_43_method_27_18) rfl (XS.ifNo X32.here X32.ex rfl (hb hby d_jdk_43_method_27_19) rfl ((if0 _ _).trans (cd_f (cd := .lt) (x := (1 : Int32)) (y := (0 : Int32)) (by decide))) (XS.aloadN X32.here X32.ex rfl (hb hby d_jdk_43_method_27_22) rfl rfl (XS.iloadN X32.here X32.ex rfl (hb hby d_jdk_43_method_27_23) rfl kS_))))) ?_
      show Goes _ _ _ _ T32 (mkF m 24 #[.val (.ref t), .val (.int (46 : Int32)), .val (.int (3 : Int32)), .val (.int (1 : Int32))] [(.int (1 : Int32)), (.ref t)])
      refine Goes.go (X32.baload V_t ⟨by decide, by decide⟩ (v := .int (d1.toInt8.toInt32)) rfl rfl rfl (hb hby d_jdk_43_method_27_24)) ?_
      show Goes _ _ _ _ T32 (mkF m 25 #[.val (.ref t), .val (.int (46 : Int32)), .val (.int (3 : Int32)), .val (.int (1 : Int32))] [(.int (d1.toInt8.toInt32))])
      refine Goes.go (fun _ kS_ => XS.iloadN X32.here X32.ex rfl (hb hby d_jdk_43_method_27_25) rfl (XS.i2b X32.here X32.ex rfl (hb hby d_jdk_43_method_27_26) rfl kS_)) ?_
      show Goes _ _ _ _ T32 (mkF m 27 #[.val (.ref t), .val (.int (46 : Int32)), .val (.int (3 : Int32)), .val (.int (1 : Int32))] [(.int ((46 : Int32).toInt8.toInt32)), (.int (d1.toInt8.toInt32))])
      refine Goes.cast (congrArg (fun zq_ => (mkF m 27 #[.val (.ref t), .val (.int (46 : Int32)), .val (.int (3 : Int32)), .val (.int (1 : Int32))] [(.int zq_), (.int (d1.toInt8.toInt32))])) (show (((46 : Int32).toInt8.toInt32) : Int32) = (46 : Int32) from by decide)) ?_
      show Goes _ _ _ _ T32 (mkF m 27 #[.val (.ref t), .val (.int (46 : Int32)), .val (.int (3 : Int32)), .val (.int (1 : Int32))] [(.int (46 : Int32)), (.int (d1.toInt8.toInt32))])
      refine Goes.icmp (pc' := 32) X32.here X32.ex (hb hby d_jdk_43_method_27_27) (by decide) (by decide) (fun hk1 => ?_) (fun hk1 => ?_)
      · have hk1 : ¬ ((d1.toInt8.toInt32) = (46 : Int32)) := hk1
        show Goes _ _ _ _ T32 (mkF m 32 #[.val (.ref t), .val (.int (46 : Int32)), .val (.int (3 : Int32)), .val (.int (1 : Int32))] [])
        rw [own_b46 b1] at hk1
        refine Goes.go (fun _ kS_ => XS.iinc X32.here X32.ex rfl (hb hby d_jdk_43_method_27_32) rfl (l' := #[.val (.ref t), .val (.int (46 : Int32)), .val (.int (3 : Int32)), .val (.int ((1 : Int32) + (-1 : Int32)))]) rfl kS_) ?_
        show Goes _ _ _ _ T32 (mkF m 35 #[.val (.ref t), .val (.int (46 : Int32)), .val (.int (3 : Int32)), .val (.int ((1 : Int32) + (-1 : Int32)))] [])
        refine Goes.cast (congrArg (fun zq_ => (mkF m 35 #[.val (.ref t), .val (.int (46 : Int32)), .val (.int (3 : Int32)), .val (.int zq_)] [])) (show (((1 : Int32) + (-1 : Int32)) : Int32) = (0 : Int32) from by decide)) ?_
        show Goes _ _ _ _ T32 (mkF m 35 #[.val (.ref t), .val (.int (46 : Int32)), .val (.int (3 : Int32)), .val (.int (0 : Int32))] [])
        refine Goes.go (fun _ kS_ => XS.goto X32.here X32.ex rfl (pc0 := 35) (pc' := 18) rfl (hb hby d_jdk_43_method_27_35) (by decide) (by decide) (XS.iloadN X32.here X32.ex rfl (hb hby d_jdk_43_method_27_18) rfl (XS.ifNo X32.here X32.ex rfl (hb hby d_jdk_43_method_27_19) rfl ((if0 _ _).trans (cd_f (cd := .lt) (x := (0 : Int32)) (y := (0 : Int32)) (by decide))) (XS.aloadN X32.here X32.ex rfl (hb hby d_jdk_43_method_27_22) rfl rfl (XS.iloadN X32.here X32.ex rfl (hb hby d_jdk_43_method_27_23) rfl kS_))))) ?_
        show Goes _ _ _ _ T32 (mkF m 24 #[.val (.ref t), .val (.int (46 : Int32)), .val (.int (3 : Int32)), .val (.int (0 : Int32))] [(.int (0 : Int32)), (.ref t)])
        refine Goes.go (X32.baload V_t ⟨by decide, by decide⟩ (v := .int (d0.toInt8.toInt32)) rfl rfl rfl (hb hby d_jdk_43_method_27_24)) ?_
        show Goes _ _ _ _ T32 (mkF m 25 #[.val (.ref t), .val (.int (46 : Int32)), .val (.int (3 : Int32)), .val (.int (0 : Int32))] [(.int (d0.toInt8.toInt32))])
        refine Goes.go (fun _ kS_ => XS.iloadN X32.here X32.ex rfl (hb hby d_jdk_43_method_27_25) rfl (XS.i2b X32.here X32.ex rfl (hb hby d_jdk_43_method_27_26) rfl kS_)) ?_
        show Goes _ _ _ _ T32 (mkF m 27 #[.val (.ref t), .val (.int (46 : Int32)), .val (.int (3 : Int32)), .val (.int (0 : Int32))] [(.int ((46 : Int32).toInt8.toInt32)), (.int (d0.toInt8.toInt32))])
        refine Goes.cast (congrArg (fun zq_ => (mkF m 27 #[.val (.ref t), .val (.int (46 : Int32)), .val (.int (3 : Int32)), .val (.int (0 : Int32))] [(.int zq_), (.int (d0.toInt8.toInt32))])) (show (((46 : Int32).toInt8.toInt32) : Int32) = (46 : Int32) from by decide)) ?_
        show Goes _ _ _ _ T32 (mkF m 27 #[.val (.ref t), .val (.int (46 : Int32)), .val (.int (3 : Int32)), .val (.int (0 : Int32))] [(.int (46 : Int32)), (.int (d0.toInt8.toInt32))])
        refine Goes.icmp (pc' := 32) X32.here X32.ex (hb hby d_jdk_43_method_27_27) (by decide) (by decide) (fun hk0 => ?_) (fun hk0 => ?_)
        · have hk0 : ¬ ((d0.toInt8.toInt32) = (46 : Int32)) := hk0
          show Goes _ _ _ _ T32 (mkF m 32 #[.val (.ref t), .val (.int (46 : Int32)), .val (.int (3 : Int32)), .val (.int (0 : Int32))] [])
          rw [own_b46 b0] at hk0
          refine Goes.go (fun _ kS_ => XS.iinc X32.here X32.ex rfl (hb hby d_jdk_43_method_27_32) rfl (l' := #[.val (.ref t), .val (.int (46 : Int32)), .val (.int (3 : Int32)), .val (.int ((0 : Int32) + (-1 : Int32)))]) rfl kS_) ?_
          show Goes _ _ _ _ T32 (mkF m 35 #[.val (.ref t), .val (.int (46 : Int32)), .val (.int (3 : Int32)), .val (.int ((0 : Int32) + (-1 : Int32)))] [])
          refine Goes.cast (congrArg (fun zq_ => (mkF m 35 #[.val (.ref t), .val (.int (46 : Int32)), .val (.int (3 : Int32)), .val (.int zq_)] [])) (show (((0 : Int32) + (-1 : Int32)) : Int32) = (-1 : Int32) from by decide)) ?_
          show Goes _ _ _ _ T32 (mkF m 35 #[.val (.ref t), .val (.int (46 : Int32)), .val (.int (3 : Int32)), .val (.int (-1 : Int32))] [])
          refine Goes.go (fun _ kS_ => XS.goto X32.here X32.ex rfl (pc0 := 35) (pc' := 18) rfl (hb hby d_jdk_43_method_27_35) (by decide) (by decide) (XS.iloadN X32.here X32.ex rfl (hb hby d_jdk_43_method_27_18) rfl (XS.ifYes X32.here X32.ex rfl (pc0 := 19) (pc' := 38) rfl (hb hby d_jdk_43_method_27_19) rfl ((if0 _ _).trans (cd_t (cd := .lt) (x := (-1 : Int32)) (y := (0 : Int32)) (by decide))) (by decide) (by decide) (XS.iconst X32.here X32.ex rfl (hb hby d_jdk_43_method_27_38) kS_)))) ?_
          show Goes _ _ _ _ T32 (mkF m 39 #[.val (.ref t), .val (.int (46 : Int32)), .val (.int (3 : Int32)), .val (.int (-1 : Int32))] [(.int (-1 : Int32))])
          refine Goes.outN X32 (fun q => by rw [hret] at q; cases q) hlk (X32.rI hret (hb hby d_jdk_43_method_27_39)) ?_ (by decide) (by decide)
          exact ⟨Ext.oKeepOf X32.ext [], by rw [own_l4, if_neg hk3, own_l3, if_neg hk2, own_l2, if_neg hk1, own_l1, if_neg hk0]⟩
        · have hk0 : (d0.toInt8.toInt32) = (46 : Int32) := Classical.not_not.mp hk0
          show Goes _ _ _ _ T32 (mkF m 30 #[.val (.ref t), .val (.int (46 : Int32)), .val (.int (3 : Int32)), .val (.int (0 : Int32))] [])
          rw [own_b46 b0] at hk0
          refine Goes.go (fun _ kS_ => XS.iloadN X32.here X32.ex rfl (hb hby d_jdk_43_method_27_30) rfl kS_) ?_
          show Goes _ _ _ _ T32 (mkF m 31 #[.val (.ref t), .val (.int (46 : Int32)), .val (.int (3 : Int32)), .val (.int (0 : Int32))] [(.int (0 : Int32))])
          refine Goes.outN X32 (fun q => by rw [hret] at q; cases q) hlk (X32.rI hret (hb hby d_jdk_43_method_27_31)) ?_ (by decide) (by decide)
          exact ⟨Ext.oKeepOf X32.ext [], by rw [own_l4, if_neg hk3, own_l3, if_neg hk2, own_l2, if_neg hk1, own_l1, if_pos hk0]⟩
      · have hk1 : (d1.toInt8.toInt32) = (46 : Int32) := Classical.not_not.mp hk1
        show Goes _ _ _ _ T32 (mkF m 30 #[.val (.ref t), .val (.int (46 : Int32)), .val (.int (3 : Int32)), .val (.int (1 : Int32))] [])
        rw [own_b46 b1] at hk1
        refine Goes.go (fun _ kS_ => XS.iloadN X32.here X32.ex rfl (hb hby d_jdk_43_method_27_30) rfl kS_) ?_
        show Goes _ _ _ _ T32 (mkF m 31 #[.val (.ref t), .val (.int (46 : Int32)), .val (.int (3 : Int32)), .val (.int (1 : Int32))] [(.int (1 : Int32))])
        refine Goes.outN X32 (fun q => by rw [hret] at q; cases q) hlk (X32.rI hret (hb hby d_jdk_43_method_27_31)) ?_ (by decide) (by decide)
        exact ⟨Ext.oKeepOf X32.ext [], by rw [own_l4, if_neg hk3, own_l3, if_neg hk2, own_l2, if_pos hk1]⟩
    · have hk2 : (d2.toInt8.toInt32) = (46 : Int32) := Classical.not_not.mp hk2
      show Goes _ _ _ _ T32 (mkF m 30 #[.val (.ref t), .val (.int (46 : Int32)), .val (.int (3 : Int32)), .val (.int (2 : Int32))] [])
      rw [own_b46 b2] at hk2
      refine Goes.go (fun _ kS_ => XS.iloadN X32.here X32.ex rfl (hb hby d_jdk_43_method_27_30) rfl kS_) ?_
      show Goes _ _ _ _ T32 (mkF m 31 #[.val (.ref t), .val (.int (46 : Int32)), .val (.int (3 : Int32)), .val (.int (2 : Int32))] [(.int (2 : Int32))])
      refine Goes.outN X32 (fun q => by rw [hret] at q; cases q) hlk (X32.rI hret (hb hby d_jdk_43_method_27_31)) ?_ (by decide) (by decide)
      exact ⟨Ext.oKeepOf X32.ext [], by rw [own_l4, if_neg hk3, own_l3, if_pos hk2]⟩
  · have hk3 : (d3.toInt8.toInt32) = (46 : Int32) := Classical.not_not.mp hk3
    show Goes _ _ _ _ T32 (mkF m 30 #[.val (.ref t), .val (.int (46 : Int32)), .val (.int (3 : Int32)), .val (.int (3 : Int32))] [])
    rw [own_b46 b3] at hk3
    refine Goes.go (fun _ kS_ => XS.iloadN X32.here X32.ex rfl (hb hby d_jdk_43_method_27_30) rfl kS_) ?_
    show Goes _ _ _ _ T32 (mkF m 31 #[.val (.ref t), .val (.int (46 : Int32)), .val (.int (3 : Int32)), .val (.int (3 : Int32))] [(.int (3 : Int32))])
    refine Goes.outN X32 (fun q => by rw [hret] at q; cases q) hlk (X32.rI hret (hb hby d_jdk_43_method_27_31)) ?_ (by decide) (by decide)
    exact ⟨Ext.oKeepOf X32.ext [], by rw [own_l4, if_pos hk3]⟩
theorem own_lioA (l : Launch) (Z : State) (a0 : Array Value) (hw : ∀ d ∈ tables_1, d.before a0 Z = true) (h0 : Heap) (hO : Ext Z.heap h0) (t : Addr) (kb : ClassId) (cs : List Int32) (q1 : Int32) (hq : q1 = (Int32.ofNat cs.length) - 1) (V_t : Arv Z h0 t kb .byte (Int32.ofNat cs.length) ((cs.map fun c => c.toInt8.toInt32).map Value.int) (.int (0 : Int32))) (hp : ∀ c ∈ cs, ¬ c < 0 ∧ ¬ (255 : Int32) < c) (h4 : cs.length ≤ 4) :
    CtrN l Z (⟨"java/lang/StringLatin1", "lastIndexOf", "([BII)I"⟩ : MethodName) jdk_43_method_27_code 4 (some .int) ({ frames := 1, cells := 0, slots := 0, locals := 13 } : Room) #[(.ref t), (.int (46 : Int32)), (.int q1)] h0 (fun v h' => Keep h0 h' [] ∧ v = some (.int (own_last cs))) := by
  match cs, h4, hp, V_t, hq with
  | [], _, hp, V_t, hq =>
    obtain rfl : q1 = (-1 : Int32) := hq.trans (by simp only [List.length_cons, List.length_nil]; decide)
    exact own_lioA0 l Z a0 hw h0 hO t kb  V_t 
  | [d0], _, hp, V_t, hq =>
    obtain rfl : q1 = (0 : Int32) := hq.trans (by simp only [List.length_cons, List.length_nil]; decide)
    exact own_lioA1 l Z a0 hw h0 hO t kb d0 V_t (hp d0 (by simp))
  | [d0, d1], _, hp, V_t, hq =>
    obtain rfl : q1 = (1 : Int32) := hq.trans (by simp only [List.length_cons, List.length_nil]; decide)
    exact own_lioA2 l Z a0 hw h0 hO t kb d0 d1 V_t (hp d0 (by simp)) (hp d1 (by simp))
  | [d0, d1, d2], _, hp, V_t, hq =>
    obtain rfl : q1 = (2 : Int32) := hq.trans (by simp only [List.length_cons, List.length_nil]; decide)
    exact own_lioA3 l Z a0 hw h0 hO t kb d0 d1 d2 V_t (hp d0 (by simp)) (hp d1 (by simp)) (hp d2 (by simp))
  | [d0, d1, d2, d3], _, hp, V_t, hq =>
    obtain rfl : q1 = (3 : Int32) := hq.trans (by simp only [List.length_cons, List.length_nil]; decide)
    exact own_lioA4 l Z a0 hw h0 hO t kb d0 d1 d2 d3 V_t (hp d0 (by simp)) (hp d1 (by simp)) (hp d2 (by simp)) (hp d3 (by simp))
  | _ :: _ :: _ :: _ :: _ :: _, h, _, _, _ => exact absurd h (by simp only [List.length_cons, List.length_nil]; omega)
set_option maxRecDepth 65536 in
set_option maxHeartbeats 40000000 in
theorem own_lioB (l : Launch) (Z : State) (a0 : Array Value) (hw : ∀ d ∈ tables_1, d.before a0 Z = true) (h0 : Heap) (hO : Ext Z.heap h0) (x : Addr) (G1 : Int32) (cs : List Int32) (q1 : Int32) (O2 : Sta Z Z.heap "java/lang/String" "COMPACT_STRINGS" "Z" (.int G1)) (P5 : ¬ (G1 = (0 : Int32))) (hq : q1 = (Int32.ofNat cs.length) - 1) (S_x : LStr Z h0 x cs) (h4 : cs.length ≤ 4) :
    CtrN l Z (⟨"java/lang/String", "lastIndexOf", "(II)I"⟩ : MethodName) jdk_42_method_83_code 3 (some .int) ({ frames := 2, cells := 0, slots := 0, locals := 28 } : Room) #[(.ref x), (.int (46 : Int32)), (.int q1)] h0 (fun v h' => Keep h0 h' [] ∧ v = some (.int (own_last cs))) := by
  refine CtrN.of (plainFor_of_name pn_0) hO ?_
  intro p e s m below meth c T0 X0 hsh hby hml hret hlk hnm
  refine Goes.cast (ef_own_lioB m x q1) ?_
  show Goes _ _ _ _ T0 (mkF m 0 #[.val (.ref x), .val (.int (46 : Int32)), .val (.int q1)] [])
  obtain ⟨Es37, Cs37, ⟨t37, kb37, Vs37, Ks37⟩, hp37, hl37⟩ := id S_x
  refine Goes.go (fun _ kS_ => XS.aloadN X0.here X0.ex rfl (hb hby d_jdk_42_method_83_0) rfl rfl kS_) ?_
  show Goes _ _ _ _ T0 (mkF m 1 #[.val (.ref x), .val (.int (46 : Int32)), .val (.int q1)] [(.ref x)])
  refine Wk.virtual (hm' := fun _ => h0) (C := "java/lang/String") (y := (⟨"java/lang/String", "isLatin1", "()Z"⟩ : MethodName)) (z := (⟨"java/lang/String", "isLatin1", "()Z"⟩ : MethodName)) (W := 0) (kc := 0) (ks := 0) (argsL := []) (rest := []) (as' := #[(.ref x)]) (ws := []) X0 (w_55 hw) (w_56 hw) (w_58 hw) (w_57 hw) (by decide) Es37 (nf_sel (w_58 hw)) (CtrN.pays (own_isL1 l Z a0 hw h0 X0.old x G1 O2 P5 Cs37) (w_59 hw) (w_7 hw) (by decide) (by decide)) (fun v h' L q => ⟨q.2, q.1.1⟩) all0 (fun _ => Mark.stay all0) rfl (by rw [hml]; rfl) (lenOf pd_3 rfl) rfl rfl (by show 2 * 0 + _ ≤ _; exact Nat.le_of_eq rfl) (hb hby d_jdk_42_method_83_1) (by decide) (by decide) ?_
  intro T38 h38 v38 L38 X38 q38 K38
  obtain ⟨⟨-, rfl⟩, -⟩ := q38
  replace Es37 := Es37.ext K38.oExt
  replace Cs37 := Cs37.ext K38.oExt
  replace Vs37 := Vs37.ext K38.oExt
  replace Ks37 := Ks37.ext K38.oExt
  show Goes _ _ _ _ T38 (mkF m 4 #[.val (.ref x), .val (.int (46 : Int32)), .val (.int q1)] [(.int (1 : Int32))])
  refine Goes.go (fun _ kS_ => XS.ifNo X38.here X38.ex rfl (hb hby d_jdk_42_method_83_4) rfl ((if0 _ _).trans (cd_f (cd := .eq) (x := (1 : Int32)) (y := (0 : Int32)) (by decide))) (XS.aloadN X38.here X38.ex rfl (hb hby d_jdk_42_method_83_7) rfl rfl kS_)) ?_
  show Goes _ _ _ _ T38 (mkF m 8 #[.val (.ref x), .val (.int (46 : Int32)), .val (.int q1)] [(.ref x)])
  refine Wk.getF X38 (host := "") (Or.inl (w_25 hw)) Via.refl Vs37 rfl rfl (hb hby d_jdk_42_method_83_8) ?_
  intro T39 X39
  show Goes _ _ _ _ T39 (mkF m 11 #[.val (.ref x), .val (.int (46 : Int32)), .val (.int q1)] [(.ref t37)])
  refine Goes.go (fun _ kS_ => XS.iloadN X39.here X39.ex rfl (hb hby d_jdk_42_method_83_11) rfl (XS.iloadN X39.here X39.ex rfl (hb hby d_jdk_42_method_83_12) rfl kS_)) ?_
  show Goes _ _ _ _ T39 (mkF m 13 #[.val (.ref x), .val (.int (46 : Int32)), .val (.int q1)] [(.int q1), (.int (46 : Int32)), (.ref t37)])
  refine Wk.static (hm' := fun _ => h0) (y := (⟨"java/lang/StringLatin1", "lastIndexOf", "([BII)I"⟩ : MethodName)) (W := 0) (kc := 0) (ks := 0) (argsL := [(.ref t37), (.int (46 : Int32)), (.int q1)]) (rest := []) (as' := #[(.ref t37), (.int (46 : Int32)), (.int q1)]) (ws := []) X39 (w_60 hw) (w_61 hw) (w_62 hw) (w_63 hw) (by decide) (CtrN.pays (own_lioA l Z a0 hw h38 X39.old t37 kb37 cs q1 hq Ks37 hp37 h4) (w_63 hw) (w_62 hw) (by decide) (by decide)) (fun v h' L q => ⟨q.2, q.1.1⟩) all0 (fun _ => Mark.stay all0) rfl (by rw [hml]; rfl) (lenOf pd_4 rfl) rfl rfl (by show 2 * 0 + _ ≤ _; exact Nat.le_of_eq rfl) (hb hby d_jdk_42_method_83_13) (by decide) (by decide) ?_
  intro T40 h40 v40 L40 X40 q40 K40
  obtain ⟨⟨-, rfl⟩, -⟩ := q40
  replace Es37 := Es37.ext K40.oExt
  replace Cs37 := Cs37.ext K40.oExt
  replace Vs37 := Vs37.ext K40.oExt
  replace Ks37 := Ks37.ext K40.oExt
  show Goes _ _ _ _ T40 (mkF m 16 #[.val (.ref x), .val (.int (46 : Int32)), .val (.int q1)] [(.int (own_last cs))])
  refine Goes.go (fun _ kS_ => XS.goto X40.here X40.ex rfl (pc0 := 16) (pc' := 28) rfl (hb hby d_jdk_42_method_83_16) (by decide) (by decide) kS_) ?_
  show Goes _ _ _ _ T40 (mkF m 28 #[.val (.ref x), .val (.int (46 : Int32)), .val (.int q1)] [(.int (own_last cs))])
  refine Goes.outN X40 (fun q => by rw [hret] at q; cases q) hlk (X40.rI hret (hb hby d_jdk_42_method_83_28)) ?_ (by decide) (by decide)
  exact ⟨Ext.oKeepOf X40.ext [], rfl⟩
set_option maxRecDepth 65536 in
set_option maxHeartbeats 40000000 in
theorem own_lio (l : Launch) (Z : State) (a0 : Array Value) (hw : ∀ d ∈ tables_1, d.before a0 Z = true) (h0 : Heap) (hO : Ext Z.heap h0) (x : Addr) (G1 : Int32) (cs : List Int32) (O2 : Sta Z Z.heap "java/lang/String" "COMPACT_STRINGS" "Z" (.int G1)) (P5 : ¬ (G1 = (0 : Int32))) (S_x : LStr Z h0 x cs) (h4 : cs.length ≤ 4) :
    CtrN l Z (⟨"java/lang/String", "lastIndexOf", "(I)I"⟩ : MethodName) jdk_42_method_82_code 2 (some .int) ({ frames := 3, cells := 0, slots := 0, locals := 42 } : Room) #[(.ref x), (.int (46 : Int32))] h0 (fun v h' => Keep h0 h' [] ∧ v = some (.int (own_last cs))) := by
  refine CtrN.of (plainFor_of_name pn_0) hO ?_
  intro p e s m below meth c T0 X0 hsh hby hml hret hlk hnm
  refine Goes.cast (ef_own_lio m x) ?_
  show Goes _ _ _ _ T0 (mkF m 0 #[.val (.ref x), .val (.int (46 : Int32))] [])
  refine Goes.go (fun _ kS_ => XS.aloadN X0.here X0.ex rfl (hb hby d_jdk_42_method_82_0) rfl rfl (XS.iloadN X0.here X0.ex rfl (hb hby d_jdk_42_method_82_1) rfl (XS.aloadN X0.here X0.ex rfl (hb hby d_jdk_42_method_82_2) rfl rfl kS_))) ?_
  show Goes _ _ _ _ T0 (mkF m 3 #[.val (.ref x), .val (.int (46 : Int32))] [(.ref x), (.int (46 : Int32)), (.ref x)])
  refine Wk.virtual (hm' := fun _ => h0) (C := "java/lang/String") (y := (⟨"java/lang/String", "length", "()I"⟩ : MethodName)) (z := (⟨"java/lang/String", "length", "()I"⟩ : MethodName)) (W := 2) (kc := 0) (ks := 0) (argsL := []) (rest := [(.int (46 : Int32)), (.ref x)]) (as' := #[(.ref x)]) (ws := []) X0 (w_39 hw) (w_40 hw) (w_42 hw) (w_41 hw) (by decide) S_x.1 (nf_sel (w_42 hw)) (own_lenP (own_wsLen hw) (kI := 4) (w_6 hw) S_x O2 P5 X0.old (by decide) (by decide)) (fun v h' L q => ⟨by rw [q.2.1]; exact Fr.nil _, by rw [q.2.2]; exact Keep.refl _ _⟩) all0 (fun _ => Mark.stay all0) rfl (by rw [hml]; rfl) (lenOf pd_5 rfl) rfl rfl (by show 2 * 0 + _ ≤ _; exact Nat.le_of_eq rfl) (hb hby d_jdk_42_method_82_3) (by decide) (by decide) ?_
  intro T43 h43 v43 L43 X43 q43 K43
  obtain ⟨rfl, -, -⟩ := q43
  replace S_x := S_x.ext K43.oExt
  show Goes _ _ _ _ T43 (mkF m 6 #[.val (.ref x), .val (.int (46 : Int32))] [(.int (Int32.ofNat cs.length)), (.int (46 : Int32)), (.ref x)])
  refine Goes.go (fun _ kS_ => XS.iconst X43.here X43.ex rfl (hb hby d_jdk_42_method_82_6) (XS.isub X43.here X43.ex rfl (hb hby d_jdk_42_method_82_7) rfl kS_)) ?_
  show Goes _ _ _ _ T43 (mkF m 8 #[.val (.ref x), .val (.int (46 : Int32))] [(.int ((Int32.ofNat cs.length) - (1 : Int32))), (.int (46 : Int32)), (.ref x)])
  refine Wk.virtual (hm' := fun _ => h0) (C := "java/lang/String") (y := (⟨"java/lang/String", "lastIndexOf", "(II)I"⟩ : MethodName)) (z := (⟨"java/lang/String", "lastIndexOf", "(II)I"⟩ : MethodName)) (W := 0) (kc := 0) (ks := 0) (argsL := [(.int (46 : Int32)), (.int ((Int32.ofNat cs.length) - (1 : Int32)))]) (rest := []) (as' := #[(.ref x), (.int (46 : Int32)), (.int ((Int32.ofNat cs.length) - (1 : Int32)))]) (ws := []) X43 (w_50 hw) (w_51 hw) (w_53 hw) (w_52 hw) (by decide) S_x.1 (nf_sel (w_53 hw)) (CtrN.pays (own_lioB l Z a0 hw h43 X43.old x G1 cs ((Int32.ofNat cs.length) - (1 : Int32)) O2 P5 rfl S_x h4) (w_54 hw) (w_7 hw) (by decide) (by decide)) (fun v h' L q => ⟨q.2, q.1.1⟩) all0 (fun _ => Mark.stay all0) rfl (by rw [hml]; rfl) (lenOf pd_2 rfl) rfl rfl (by show 2 * 0 + _ ≤ _; exact Nat.le_of_eq rfl) (hb hby d_jdk_42_method_82_8) (by decide) (by decide) ?_
  intro T44 h44 v44 L44 X44 q44 K44
  obtain ⟨⟨-, rfl⟩, -⟩ := q44
  replace S_x := S_x.ext K44.oExt
  show Goes _ _ _ _ T44 (mkF m 11 #[.val (.ref x), .val (.int (46 : Int32))] [(.int (own_last cs))])
  refine Goes.outN X44 (fun q => by rw [hret] at q; cases q) hlk (X44.rI hret (hb hby d_jdk_42_method_82_11)) ?_ (by decide) (by decide)
  exact ⟨Ext.oKeepOf X44.ext [], rfl⟩
set_option maxRecDepth 65536 in
set_option maxHeartbeats 40000000 in
theorem own_cft (l : Launch) (Z : State) (a0 : Array Value) (hw : ∀ d ∈ tables_1, d.before a0 Z = true) (h0 : Heap) (hO : Ext Z.heap h0) (s0 : Int32) (n : Int32) (fm : Value) (r_fm : fm.isRef = true) (g1 : ¬ s0 < 0) (g2 : ¬ n < s0) :
    CtrN l Z (⟨"jdk/internal/util/Preconditions", "checkFromToIndex", "(IIILjava/util/function/BiFunction;)I"⟩ : MethodName) jdk_41_method_12_code 4 (some .int) ({ frames := 0, cells := 0, slots := 0, locals := 0 } : Room) #[(.int s0), (.int n), (.int n), fm] h0 (fun v h' => Keep h0 h' [] ∧ v = some (.int s0)) := by
  refine CtrN.of (plainFor_of_name pn_2) hO ?_
  intro p e s m below meth c T0 X0 hsh hby hml hret hlk hnm
  refine Goes.cast (ef_own_cft m s0 n fm r_fm) ?_
  show Goes _ _ _ _ T0 (mkF m 0 #[.val (.int s0), .val (.int n), .val (.int n), .val fm] [])
  refine Goes.go (fun _ kS_ => XS.iloadN X0.here X0.ex rfl (hb hby d_jdk_41_method_12_0) rfl kS_) ?_
  show Goes _ _ _ _ T0 (mkF m 1 #[.val (.int s0), .val (.int n), .val (.int n), .val fm] [(.int s0)])
  refine Goes.go (fun _ kS_ => XS.ifNo X0.here X0.ex rfl (hb hby d_jdk_41_method_12_1) rfl ((if0 _ _).trans (cd_f (cd := .lt) (x := s0) (y := (0 : Int32)) (g1))) kS_) ?_
  show Goes _ _ _ _ T0 (mkF m 4 #[.val (.int s0), .val (.int n), .val (.int n), .val fm] [])
  refine Goes.go (fun _ kS_ => XS.iloadN X0.here X0.ex rfl (hb hby d_jdk_41_method_12_4) rfl (XS.iloadN X0.here X0.ex rfl (hb hby d_jdk_41_method_12_5) rfl kS_)) ?_
  show Goes _ _ _ _ T0 (mkF m 6 #[.val (.int s0), .val (.int n), .val (.int n), .val fm] [(.int n), (.int s0)])
  refine Goes.go (fun _ kS_ => XS.icmpNo X0.here X0.ex rfl (hb hby d_jdk_41_method_12_6) rfl (cd_f (cd := .gt) (x := s0) (y := n) (g2)) kS_) ?_
  show Goes _ _ _ _ T0 (mkF m 9 #[.val (.int s0), .val (.int n), .val (.int n), .val fm] [])
  refine Goes.go (fun _ kS_ => XS.iloadN X0.here X0.ex rfl (hb hby d_jdk_41_method_12_9) rfl (XS.iloadN X0.here X0.ex rfl (hb hby d_jdk_41_method_12_10) rfl kS_)) ?_
  show Goes _ _ _ _ T0 (mkF m 11 #[.val (.int s0), .val (.int n), .val (.int n), .val fm] [(.int n), (.int n)])
  refine Goes.go (fun _ kS_ => XS.icmpYes X0.here X0.ex rfl (pc0 := 11) (pc' := 22) rfl (hb hby d_jdk_41_method_12_11) rfl (cd_t (cd := .le) (x := n) (y := n) (Int32.lt_irrefl)) (by decide) (by decide) kS_) ?_
  show Goes _ _ _ _ T0 (mkF m 22 #[.val (.int s0), .val (.int n), .val (.int n), .val fm] [])
  refine Goes.go (fun _ kS_ => XS.iloadN X0.here X0.ex rfl (hb hby d_jdk_41_method_12_22) rfl kS_) ?_
  show Goes _ _ _ _ T0 (mkF m 23 #[.val (.int s0), .val (.int n), .val (.int n), .val fm] [(.int s0)])
  refine Goes.outN X0 (fun q => by rw [hret] at q; cases q) hlk (X0.rI hret (hb hby d_jdk_41_method_12_23)) ?_ (by decide) (by decide)
  exact ⟨Ext.oKeepOf X0.ext [], rfl⟩
set_option maxRecDepth 65536 in
set_option maxHeartbeats 40000000 in
theorem own_cbe (l : Launch) (Z : State) (a0 : Array Value) (hw : ∀ d ∈ tables_1, d.before a0 Z = true) (h0 : Heap) (hO : Ext Z.heap h0) (s0 : Int32) (n : Int32) (G3 : Value) (O4 : Sta Z Z.heap "jdk/internal/util/Preconditions" "SIOOBE_FORMATTER" "Ljava/util/function/BiFunction;" G3) (r_G3 : G3.isRef = true) (g1 : ¬ s0 < 0) (g2 : ¬ n < s0) :
    CtrN l Z (⟨"java/lang/String", "checkBoundsBeginEnd", "(III)V"⟩ : MethodName) jdk_42_method_158_code 3 none ({ frames := 1, cells := 0, slots := 0, locals := 15 } : Room) #[(.int s0), (.int n), (.int n)] h0 (fun v h' => Keep h0 h' [] ∧ v = none) := by
  refine CtrN.of (plainFor_of_name pn_0) hO ?_
  intro p e s m below meth c T0 X0 hsh hby hml hret hlk hnm
  refine Goes.cast (ef_own_cbe m s0 n) ?_
  show Goes _ _ _ _ T0 (mkF m 0 #[.val (.int s0), .val (.int n), .val (.int n)] [])
  refine Goes.go (fun _ kS_ => XS.iloadN X0.here X0.ex rfl (hb hby d_jdk_42_method_158_0) rfl (XS.iloadN X0.here X0.ex rfl (hb hby d_jdk_42_method_158_1) rfl (XS.iloadN X0.here X0.ex rfl (hb hby d_jdk_42_method_158_2) rfl kS_))) ?_
  show Goes _ _ _ _ T0 (mkF m 3 #[.val (.int s0), .val (.int n), .val (.int n)] [(.int n), (.int n), (.int s0)])
  refine Wk.getS X0 (host := "") (Or.inl (w_100 hw)) Via.refl O4 rfl (hb hby d_jdk_42_method_158_3) ?_
  intro T47 X47
  show Goes _ _ _ _ T47 (mkF m 6 #[.val (.int s0), .val (.int n), .val (.int n)] [G3, (.int n), (.int n), (.int s0)])
  refine Wk.static (hm' := fun _ => h0) (y := (⟨"jdk/internal/util/Preconditions", "checkFromToIndex", "(IIILjava/util/function/BiFunction;)I"⟩ : MethodName)) (W := 0) (kc := 0) (ks := 0) (argsL := [(.int s0), (.int n), (.int n), G3]) (rest := []) (as' := #[(.int s0), (.int n), (.int n), G3]) (ws := []) X47 (w_102 hw) (w_103 hw) (w_101 hw) (w_104 hw) (by decide) (CtrN.pays (own_cft l Z a0 hw h0 X47.old s0 n G3 r_G3 g1 g2) (w_104 hw) (w_101 hw) (by decide) (by decide)) (fun v h' L q => ⟨q.2, q.1.1⟩) all0 (fun _ => Mark.stay all0) rfl (by rw [hml]; rfl) (lenOf pd_6 rfl) rfl rfl (by show 2 * 0 + _ ≤ _; exact Nat.le_of_eq rfl) (hb hby d_jdk_42_method_158_6) (by decide) (by decide) ?_
  intro T48 h48 v48 L48 X48 q48 K48
  obtain ⟨⟨-, rfl⟩, -⟩ := q48
  show Goes _ _ _ _ T48 (mkF m 9 #[.val (.int s0), .val (.int n), .val (.int n)] [(.int s0)])
  refine Goes.go (fun _ kS_ => XS.pop X48.here X48.ex rfl (hb hby d_jdk_42_method_158_9) rfl rfl kS_) ?_
  show Goes _ _ _ _ T48 (mkF m 10 #[.val (.int s0), .val (.int n), .val (.int n)] [])
  refine Goes.outN X48 (fun _ => rfl) hlk (X48.rV hret (hb hby d_jdk_42_method_158_10)) ?_ (by decide) (by decide)
  exact ⟨Ext.oKeepOf X48.ext [], rfl⟩
set_option maxRecDepth 65536 in
set_option maxHeartbeats 40000000 in
theorem own_chl (l : Launch) (Z : State) (a0 : Array Value) (hw : ∀ d ∈ tables_1, d.before a0 Z = true) (h0 : Heap) (hO : Ext Z.heap h0) (s0 : Int32) (n : Int32) (g2 : ¬ n < s0) :
    CtrN l Z (⟨"java/util/Arrays", "checkLength", "(II)V"⟩ : MethodName) jdk_65_method_131_code 2 none ({ frames := 0, cells := 0, slots := 0, locals := 0 } : Room) #[(.int s0), (.int n)] h0 (fun v h' => Keep h0 h' [] ∧ v = none) := by
  refine CtrN.of (plainFor_of_name pn_3) hO ?_
  intro p e s m below meth c T0 X0 hsh hby hml hret hlk hnm
  refine Goes.cast (ef_own_chl m s0 n) ?_
  show Goes _ _ _ _ T0 (mkF m 0 #[.val (.int s0), .val (.int n)] [])
  refine Goes.go (fun _ kS_ => XS.iloadN X0.here X0.ex rfl (hb hby d_jdk_65_method_131_0) rfl (XS.iloadN X0.here X0.ex rfl (hb hby d_jdk_65_method_131_1) rfl kS_)) ?_
  show Goes _ _ _ _ T0 (mkF m 2 #[.val (.int s0), .val (.int n)] [(.int s0), (.int n)])
  refine Goes.go (fun _ kS_ => XS.icmpYes X0.here X0.ex rfl (pc0 := 2) (pc' := 37) rfl (hb hby d_jdk_65_method_131_2) rfl (cd_t (cd := .ge) (x := n) (y := s0) (g2)) (by decide) (by decide) kS_) ?_
  show Goes _ _ _ _ T0 (mkF m 37 #[.val (.int s0), .val (.int n)] [])
  refine Goes.outN X0 (fun _ => rfl) hlk (X0.rV hret (hb hby d_jdk_65_method_131_37)) ?_ (by decide) (by decide)
  exact ⟨Ext.oKeepOf X0.ext [], rfl⟩
set_option maxRecDepth 65536 in
set_option maxHeartbeats 40000000 in
theorem own_newB (l : Launch) (Z : State) (a0 : Array Value) (hw : ∀ d ∈ tables_1, d.before a0 Z = true) (h0 : Heap) (hO : Ext Z.heap h0) (x : Addr) (t : Addr) (E_x : Exa Z h0 x "java/lang/String") (F_x_value : Fld Z h0 x "java/lang/String" "value" "[B" .null) (F_x_coder : Fld Z h0 x "java/lang/String" "coder" "B" (.int (0 : Int32))) (gz_x : Z.heap.size ≤ x) :
    CtrN l Z (⟨"java/lang/String", "<init>", "([BB)V"⟩ : MethodName) jdk_42_method_151_code 3 none ({ frames := 1, cells := 0, slots := 0, locals := 12 } : Room) #[(.ref x), (.ref t), (.int (0 : Int32))] h0 (fun v h' => Keep h0 h' [x] ∧ v = none ∧ Exa Z h' x "java/lang/String" ∧ Fld Z h' x "java/lang/String" "value" "[B" (.ref t) ∧ Fld Z h' x "java/lang/String" "coder" "B" (.int (0 : Int32))) := by
  refine CtrN.of (plainFor_of_name pn_0) hO ?_
  intro p e s m below meth c T0 X0 hsh hby hml hret hlk hnm
  refine Goes.cast (ef_own_newB m x t) ?_
  show Goes _ _ _ _ T0 (mkF m 0 #[.val (.ref x), .val (.ref t), .val (.int (0 : Int32))] [])
  refine Goes.go (fun _ kS_ => XS.aloadN X0.here X0.ex rfl (hb hby d_jdk_42_method_151_0) rfl rfl kS_) ?_
  show Goes _ _ _ _ T0 (mkF m 1 #[.val (.ref x), .val (.ref t), .val (.int (0 : Int32))] [(.ref x)])
  have K0 : Keep h0 h0 [x] := Keep.refl _ _
  refine Wk.initO X0 (w_16 hw) (w_17 hw) (w_18 hw) rfl (by rw [hml]; rfl) rfl (hb hby d_jdk_42_method_151_1) (by decide) (W := 0) (by show 2 * 0 + _ ≤ _; exact Nat.le_of_eq rfl) (by decide) ?_
  intro T49 X49
  show Goes _ _ _ _ T49 (mkF m 4 #[.val (.ref x), .val (.ref t), .val (.int (0 : Int32))] [])
  refine Goes.go (fun _ kS_ => XS.aloadN X49.here X49.ex rfl (hb hby d_jdk_42_method_151_4) rfl rfl (XS.aloadN X49.here X49.ex rfl (hb hby d_jdk_42_method_151_5) rfl rfl kS_)) ?_
  show Goes _ _ _ _ T49 (mkF m 6 #[.val (.ref x), .val (.ref t), .val (.int (0 : Int32))] [(.ref t), (.ref x)])
  refine Wk.putF (hm' := fun h' => h') X49 (host := "") (Or.inl (w_25 hw)) Via.refl F_x_value E_x (Or.inr ⟨(w_21 hw), rfl, hnm⟩) (w_6 hw) (ty := (.array .byte)) (by decide) rfl rfl gz_x (fun _ => Mark.anew (allS (Or.inr SafeA.nil) all0)) rfl rfl (hb hby d_jdk_42_method_151_6) ?_
  intro T50 h50 X50 W50
  have F50 := F_x_value.same W50
  replace E_x := E_x.wr W50
  replace F_x_coder := F_x_coder.other W50 (Or.inr (slot_ne (Or.inr (w_22 hw)) (Or.inr (w_21 hw)) (by decide) (t := .byte) (t' := (.array .byte)) (by decide) (by decide)))
  clear F_x_value; have F_x_value := F50
  show Goes _ _ _ _ T50 (mkF m 9 #[.val (.ref x), .val (.ref t), .val (.int (0 : Int32))] [])
  replace K0 := K0.wr W50 (Or.inl (List.mem_of_getElem? (i := 0) rfl))
  refine Goes.go (fun _ kS_ => XS.aloadN X50.here X50.ex rfl (hb hby d_jdk_42_method_151_9) rfl rfl (XS.iloadN X50.here X50.ex rfl (hb hby d_jdk_42_method_151_10) rfl kS_)) ?_
  show Goes _ _ _ _ T50 (mkF m 11 #[.val (.ref x), .val (.ref t), .val (.int (0 : Int32))] [(.int (0 : Int32)), (.ref x)])
  refine Wk.putFN (hm' := fun h' => h') X50 (w_26 hw) Via.refl F_x_coder E_x (Or.inr ⟨(w_22 hw), rfl, hnm⟩) (w_6 hw) (ty := .byte) (v' := (.int (nar .byte (0 : Int32)))) (by decide) rfl (fits_nar_byte _) gz_x (fun _ => Mark.anew (allS (Or.inr SafeA.nil) all0)) rfl rfl (hb hby d_jdk_42_method_151_11) ?_
  intro T51 h51 X51 W51
  have F51 := F_x_coder.same W51
  replace E_x := E_x.wr W51
  replace F_x_value := F_x_value.other W51 (Or.inr (slot_ne (Or.inr (w_21 hw)) (Or.inr (w_22 hw)) (by decide) (t := (.array .byte)) (t' := .byte) (by decide) (by decide)))
  clear F_x_coder; have F_x_coder := F51
  show Goes _ _ _ _ T51 (mkF m 14 #[.val (.ref x), .val (.ref t), .val (.int (0 : Int32))] [])
  replace K0 := K0.wr W51 (Or.inl (List.mem_of_getElem? (i := 0) rfl))
  refine Goes.outN X51 (fun _ => rfl) hlk (X51.rV hret (hb hby d_jdk_42_method_151_14)) ?_ (by decide) (by decide)
  exact ⟨K0, rfl, E_x, F_x_value, F_x_coder⟩
set_option maxRecDepth 65536 in
set_option maxHeartbeats 40000000 in
theorem own_crb41 (l : Launch) (Z : State) (a0 : Array Value) (hw : ∀ d ∈ tables_1, d.before a0 Z = true) (h0 : Heap) (hO : Ext Z.heap h0) (t : Addr) (kb : ClassId) (d0 : Int32) (d1 : Int32) (d2 : Int32) (d3 : Int32) (V_t : Arv Z h0 t kb .byte (4 : Int32) [(.int (d0.toInt8.toInt32)), (.int (d1.toInt8.toInt32)), (.int (d2.toInt8.toInt32)), (.int (d3.toInt8.toInt32))] (.int (0 : Int32))) :
    CtrN l Z (⟨"java/util/Arrays", "copyOfRangeByte", "([BII)[B"⟩ : MethodName) jdk_65_method_133_code 5 (some (.array .byte)) ({ frames := 1, cells := 1, slots := 3, locals := 18 } : Room) #[(.ref t), (.int (1 : Int32)), (.int (4 : Int32))] h0 (fun v h' => Keep h0 h' [] ∧ ∃ u ku, v = some (.ref u) ∧ Arv Z h' u ku .byte (3 : Int32) [(.int (d1.toInt8.toInt32)), (.int (d2.toInt8.toInt32)), (.int (d3.toInt8.toInt32))] (.int (0 : Int32)) ∧ h0.size ≤ u) := by
  refine CtrN.of (plainFor_of_name pn_3) hO ?_
  intro p e s m below meth c T0 X0 hsh hby hml hret hlk hnm
  refine Goes.cast (ef_own_crb41 m t) ?_
  show Goes _ _ _ _ T0 (mkF m 0 #[.val (.ref t), .val (.int (1 : Int32)), .val (.int (4 : Int32)), .unset, .unset] [])
  refine Goes.go (fun _ kS_ => XS.iloadN X0.here X0.ex rfl (hb hby d_jdk_65_method_133_0) rfl (XS.iloadN X0.here X0.ex rfl (hb hby d_jdk_65_method_133_1) rfl kS_)) ?_
  show Goes _ _ _ _ T0 (mkF m 2 #[.val (.ref t), .val (.int (1 : Int32)), .val (.int (4 : Int32)), .unset, .unset] [(.int (4 : Int32)), (.int (1 : Int32))])
  refine Wk.static (hm' := fun _ => h0) (y := (⟨"java/util/Arrays", "checkLength", "(II)V"⟩ : MethodName)) (W := 0) (kc := 0) (ks := 0) (argsL := [(.int (1 : Int32)), (.int (4 : Int32))]) (rest := []) (as' := #[(.int (1 : Int32)), (.int (4 : Int32))]) (ws := []) X0 (w_118 hw) (w_119 hw) (w_113 hw) (w_120 hw) (by decide) (CtrN.pays (own_chl l Z a0 hw h0 X0.old (1 : Int32) (4 : Int32) (by decide)) (w_120 hw) (w_113 hw) (by decide) (by decide)) (fun v h' L q => ⟨q.2, q.1.1⟩) all0 (fun _ => Mark.stay all0) rfl (by rw [hml]; rfl) (lenOf pd_7 rfl) rfl rfl (by show 2 * 0 + _ ≤ _; exact Nat.le_of_eq rfl) (hb hby d_jdk_65_method_133_2) (by decide) (by decide) ?_
  intro T56 h56 v56 L56 X56 q56 K56
  obtain ⟨⟨-, rfl⟩, -⟩ := q56
  replace V_t := V_t.ext K56.oExt
  show Goes _ _ _ _ T56 (mkF m 5 #[.val (.ref t), .val (.int (1 : Int32)), .val (.int (4 : Int32)), .unset, .unset] [])
  refine Goes.go (fun _ kS_ => XS.iloadN X56.here X56.ex rfl (hb hby d_jdk_65_method_133_5) rfl (XS.iloadN X56.here X56.ex rfl (hb hby d_jdk_65_method_133_6) rfl (XS.isub X56.here X56.ex rfl (hb hby d_jdk_65_method_133_7) rfl kS_))) ?_
  show Goes _ _ _ _ T56 (mkF m 8 #[.val (.ref t), .val (.int (1 : Int32)), .val (.int (4 : Int32)), .unset, .unset] [(.int ((4 : Int32) - (1 : Int32)))])
  refine Goes.cast (congrArg (fun zq_ => (mkF m 8 #[.val (.ref t), .val (.int (1 : Int32)), .val (.int (4 : Int32)), .unset, .unset] [(.int zq_)])) (show (((4 : Int32) - (1 : Int32)) : Int32) = (3 : Int32) from by decide)) ?_
  show Goes _ _ _ _ T56 (mkF m 8 #[.val (.ref t), .val (.int (1 : Int32)), .val (.int (4 : Int32)), .unset, .unset] [(.int (3 : Int32))])
  refine Goes.go (fun _ kS_ => XS.istoreN X56.here X56.ex rfl (hb hby d_jdk_65_method_133_8) rfl (l' := #[.val (.ref t), .val (.int (1 : Int32)), .val (.int (4 : Int32)), .val (.int (3 : Int32)), .unset]) rfl (XS.iloadN X56.here X56.ex rfl (hb hby d_jdk_65_method_133_9) rfl kS_)) ?_
  show Goes _ _ _ _ T56 (mkF m 10 #[.val (.ref t), .val (.int (1 : Int32)), .val (.int (4 : Int32)), .val (.int (3 : Int32)), .unset] [(.int (3 : Int32))])
  refine Wk.newA (aty := .byte) X56 (w_20 hw) rfl (hb hby d_jdk_65_method_133_10) rfl (by decide) (cap := 3) (by decide) (by decide) (by decide) (by decide) ?_
  intro T57 h57 b57 k57 g57 X57 E57 A57 B_b57
  have lt_t_b57 : t < b57 := by rw [g57]; exact V_t.lt
  replace V_t := V_t.ext E57
  have V_b57 : Arv Z h57 b57 k57 .byte (3 : Int32) [(.int (0 : Int32)), (.int (0 : Int32)), (.int (0 : Int32))] (.int (0 : Int32)) := A57.pad (pad_rep [] (.int (0 : Int32)) 3)
  have gz_b57 : Z.heap.size ≤ b57 := g57 ▸ X56.old.1
  have gm_b57 : h0.size ≤ b57 := g57 ▸ X56.ext.1
  show Goes _ _ _ _ T57 (mkF m 12 #[.val (.ref t), .val (.int (1 : Int32)), .val (.int (4 : Int32)), .val (.int (3 : Int32)), .unset] [(.ref b57)])
  refine Goes.go (fun _ kS_ => XS.astore X57.here X57.ex rfl (hb hby d_jdk_65_method_133_12) rfl rfl (l' := #[.val (.ref t), .val (.int (1 : Int32)), .val (.int (4 : Int32)), .val (.int (3 : Int32)), .val (.ref b57)]) rfl (XS.aloadN X57.here X57.ex rfl (hb hby d_jdk_65_method_133_14) rfl rfl (XS.iloadN X57.here X57.ex rfl (hb hby d_jdk_65_method_133_15) rfl (XS.aload X57.here X57.ex rfl (hb hby d_jdk_65_method_133_16) rfl rfl (XS.iconst X57.here X57.ex rfl (hb hby d_jdk_65_method_133_18) (XS.aloadN X57.here X57.ex rfl (hb hby d_jdk_65_method_133_19) rfl rfl kS_)))))) ?_
  show Goes _ _ _ _ T57 (mkF m 20 #[.val (.ref t), .val (.int (1 : Int32)), .val (.int (4 : Int32)), .val (.int (3 : Int32)), .val (.ref b57)] [(.ref t), (.int (0 : Int32)), (.ref b57), (.int (1 : Int32)), (.ref t)])
  refine Goes.go (X57.alen V_t rfl rfl (hb hby d_jdk_65_method_133_20)) ?_
  show Goes _ _ _ _ T57 (mkF m 21 #[.val (.ref t), .val (.int (1 : Int32)), .val (.int (4 : Int32)), .val (.int (3 : Int32)), .val (.ref b57)] [(.int (4 : Int32)), (.int (0 : Int32)), (.ref b57), (.int (1 : Int32)), (.ref t)])
  refine Goes.go (fun _ kS_ => XS.iloadN X57.here X57.ex rfl (hb hby d_jdk_65_method_133_21) rfl (XS.isub X57.here X57.ex rfl (hb hby d_jdk_65_method_133_22) rfl kS_)) ?_
  show Goes _ _ _ _ T57 (mkF m 23 #[.val (.ref t), .val (.int (1 : Int32)), .val (.int (4 : Int32)), .val (.int (3 : Int32)), .val (.ref b57)] [(.int ((4 : Int32) - (1 : Int32))), (.int (0 : Int32)), (.ref b57), (.int (1 : Int32)), (.ref t)])
  refine Goes.cast (congrArg (fun zq_ => (mkF m 23 #[.val (.ref t), .val (.int (1 : Int32)), .val (.int (4 : Int32)), .val (.int (3 : Int32)), .val (.ref b57)] [(.int zq_), (.int (0 : Int32)), (.ref b57), (.int (1 : Int32)), (.ref t)])) (show (((4 : Int32) - (1 : Int32)) : Int32) = (3 : Int32) from by decide)) ?_
  show Goes _ _ _ _ T57 (mkF m 23 #[.val (.ref t), .val (.int (1 : Int32)), .val (.int (4 : Int32)), .val (.int (3 : Int32)), .val (.ref b57)] [(.int (3 : Int32)), (.int (0 : Int32)), (.ref b57), (.int (1 : Int32)), (.ref t)])
  refine Goes.go (fun _ kS_ => XS.iloadN X57.here X57.ex rfl (hb hby d_jdk_65_method_133_23) rfl kS_) ?_
  show Goes _ _ _ _ T57 (mkF m 24 #[.val (.ref t), .val (.int (1 : Int32)), .val (.int (4 : Int32)), .val (.int (3 : Int32)), .val (.ref b57)] [(.int (3 : Int32)), (.int (3 : Int32)), (.int (0 : Int32)), (.ref b57), (.int (1 : Int32)), (.ref t)])
  refine Wk.static (hm' := fun _ => h0) (y := (⟨"java/lang/Math", "min", "(II)I"⟩ : MethodName)) (W := 4) (kc := 0) (ks := 0) (argsL := [(.int (3 : Int32)), (.int (3 : Int32))]) (rest := [(.int (0 : Int32)), (.ref b57), (.int (1 : Int32)), (.ref t)]) (as' := #[(.int (3 : Int32)), (.int (3 : Int32))]) (ws := []) X57 (w_121 hw) (w_68 hw) (w_69 hw) (w_70 hw) (by decide) (CtrN.pays (own_min l Z a0 hw h57 X57.old (3 : Int32)) (w_70 hw) (w_69 hw) (by decide) (by decide)) (fun v h' L q => ⟨q.2, q.1.1⟩) all0 (fun _ => Mark.stay all0) rfl (by rw [hml]; rfl) (lenOf pd_2 rfl) rfl rfl (by show 2 * 0 + _ ≤ _; exact Nat.le_of_eq rfl) (hb hby d_jdk_65_method_133_24) (by decide) (by decide) ?_
  intro T58 h58 v58 L58 X58 q58 K58
  obtain ⟨⟨-, rfl⟩, -⟩ := q58
  replace V_t := V_t.ext K58.oExt
  replace V_b57 := V_b57.ext K58.oExt
  show Goes _ _ _ _ T58 (mkF m 27 #[.val (.ref t), .val (.int (1 : Int32)), .val (.int (4 : Int32)), .val (.int (3 : Int32)), .val (.ref b57)] [(.int (3 : Int32)), (.int (0 : Int32)), (.ref b57), (.int (1 : Int32)), (.ref t)])
  refine Wk.acopy (hm' := fun _ => h0) X58 (w_122 hw) (w_125 hw) (w_123 hw) (w_124 hw) V_t V_b57 ⟨rfl, rfl⟩ (by decide) (by decide) (by decide) (by decide) (by decide) (us := [(.int (d1.toInt8.toInt32)), (.int (d2.toInt8.toInt32)), (.int (d3.toInt8.toInt32))]) rfl (Nat.le_of_ble_eq_true rfl) gz_b57 (fun _ => Mark.stay (allS gm_b57 all0)) rfl (by rw [hml]; rfl) rfl (hb hby d_jdk_65_method_133_27) (by decide) (W := 0) (by show 2 * 0 + _ ≤ _; exact Nat.le_of_eq rfl) (by decide) ?_
  intro T59 h59 X59 K59 V59
  have V_b57 : Arv Z h59 b57 _ .byte (3 : Int32) [(.int (d1.toInt8.toInt32)), (.int (d2.toInt8.toInt32)), (.int (d3.toInt8.toInt32))] (.int (0 : Int32)) := V59
  show Goes _ _ _ _ T59 (mkF m 30 #[.val (.ref t), .val (.int (1 : Int32)), .val (.int (4 : Int32)), .val (.int (3 : Int32)), .val (.ref b57)] [])
  refine Goes.go (fun _ kS_ => XS.aload X59.here X59.ex rfl (hb hby d_jdk_65_method_133_30) rfl rfl kS_) ?_
  show Goes _ _ _ _ T59 (mkF m 32 #[.val (.ref t), .val (.int (1 : Int32)), .val (.int (4 : Int32)), .val (.int (3 : Int32)), .val (.ref b57)] [(.ref b57)])
  refine Goes.outN X59 (fun q => by rw [hret] at q; cases q) hlk (X59.rA hret rfl rfl (hb hby d_jdk_65_method_133_32)) ?_ (by decide) (by decide)
  exact ⟨Ext.oKeepOf X59.ext [], b57, _, rfl, V_b57, gm_b57⟩
set_option maxRecDepth 65536 in
set_option maxHeartbeats 40000000 in
theorem own_cor41 (l : Launch) (Z : State) (a0 : Array Value) (hw : ∀ d ∈ tables_1, d.before a0 Z = true) (h0 : Heap) (hO : Ext Z.heap h0) (t : Addr) (kb : ClassId) (d0 : Int32) (d1 : Int32) (d2 : Int32) (d3 : Int32) (V_t : Arv Z h0 t kb .byte (4 : Int32) [(.int (d0.toInt8.toInt32)), (.int (d1.toInt8.toInt32)), (.int (d2.toInt8.toInt32)), (.int (d3.toInt8.toInt32))] (.int (0 : Int32))) :
    CtrN l Z (⟨"java/util/Arrays", "copyOfRange", "([BII)[B"⟩ : MethodName) jdk_65_method_132_code 3 (some (.array .byte)) ({ frames := 2, cells := 1, slots := 3, locals := 34 } : Room) #[(.ref t), (.int (1 : Int32)), (.int (4 : Int32))] h0 (fun v h' => Keep h0 h' [] ∧ ∃ u ku, v = some (.ref u) ∧ Arv Z h' u ku .byte (3 : Int32) [(.int (d1.toInt8.toInt32)), (.int (d2.toInt8.toInt32)), (.int (d3.toInt8.toInt32))] (.int (0 : Int32)) ∧ h0.size ≤ u) := by
  refine CtrN.of (plainFor_of_name pn_3) hO ?_
  intro p e s m below meth c T0 X0 hsh hby hml hret hlk hnm
  refine Goes.cast (ef_own_cor41 m t) ?_
  show Goes _ _ _ _ T0 (mkF m 0 #[.val (.ref t), .val (.int (1 : Int32)), .val (.int (4 : Int32))] [])
  refine Goes.go (fun _ kS_ => XS.iloadN X0.here X0.ex rfl (hb hby d_jdk_65_method_132_0) rfl (XS.ifYes X0.here X0.ex rfl (pc0 := 1) (pc' := 10) rfl (hb hby d_jdk_65_method_132_1) rfl ((if0 _ _).trans (cd_t (cd := .ne) (x := (1 : Int32)) (y := (0 : Int32)) (by decide))) (by decide) (by decide) (XS.aloadN X0.here X0.ex rfl (hb hby d_jdk_65_method_132_10) rfl rfl (XS.iloadN X0.here X0.ex rfl (hb hby d_jdk_65_method_132_11) rfl (XS.iloadN X0.here X0.ex rfl (hb hby d_jdk_65_method_132_12) rfl kS_))))) ?_
  show Goes _ _ _ _ T0 (mkF m 13 #[.val (.ref t), .val (.int (1 : Int32)), .val (.int (4 : Int32))] [(.int (4 : Int32)), (.int (1 : Int32)), (.ref t)])
  refine Wk.static (hm' := fun _ => h0) (y := (⟨"java/util/Arrays", "copyOfRangeByte", "([BII)[B"⟩ : MethodName)) (W := 0) (kc := 1) (ks := 3) (argsL := [(.ref t), (.int (1 : Int32)), (.int (4 : Int32))]) (rest := []) (as' := #[(.ref t), (.int (1 : Int32)), (.int (4 : Int32))]) (ws := []) X0 (w_115 hw) (w_116 hw) (w_113 hw) (w_117 hw) (by decide) (CtrN.pays (own_crb41 l Z a0 hw h0 X0.old t kb d0 d1 d2 d3 V_t) (w_117 hw) (w_113 hw) (by decide) (by decide)) (fun v h' L q => ⟨q.2, q.1.1⟩) all0 (fun _ => Mark.stay all0) rfl (by rw [hml]; rfl) (lenOf pd_8 rfl) rfl rfl (by show 2 * 0 + _ ≤ _; exact Nat.le_of_eq rfl) (hb hby d_jdk_65_method_132_13) (by decide) (by decide) ?_
  intro T61 h61 v61 L61 X61 q61 K61
  obtain ⟨⟨-, u61, ku61, rfl, U61, gu61⟩, -⟩ := q61
  show Goes _ _ _ _ T61 (mkF m 16 #[.val (.ref t), .val (.int (1 : Int32)), .val (.int (4 : Int32))] [(.ref u61)])
  refine Goes.outN X61 (fun q => by rw [hret] at q; cases q) hlk (X61.rA hret rfl rfl (hb hby d_jdk_65_method_132_16)) ?_ (by decide) (by decide)
  exact ⟨Ext.oKeepOf X61.ext [], u61, ku61, rfl, U61, gu61⟩
set_option maxRecDepth 65536 in
set_option maxHeartbeats 40000000 in
theorem own_nst41 (l : Launch) (Z : State) (a0 : Array Value) (hw : ∀ d ∈ tables_1, d.before a0 Z = true) (hEL : EW Z a0 consts_1) (h0 : Heap) (hO : Ext Z.heap h0) (t : Addr) (kb : ClassId) (d0 : Int32) (d1 : Int32) (d2 : Int32) (d3 : Int32) (V_t : Arv Z h0 t kb .byte (4 : Int32) [(.int (d0.toInt8.toInt32)), (.int (d1.toInt8.toInt32)), (.int (d2.toInt8.toInt32)), (.int (d3.toInt8.toInt32))] (.int (0 : Int32))) (b0 : ¬ d0 < 0 ∧ ¬ (255 : Int32) < d0) (b1 : ¬ d1 < 0 ∧ ¬ (255 : Int32) < d1) (b2 : ¬ d2 < 0 ∧ ¬ (255 : Int32) < d2) (b3 : ¬ d3 < 0 ∧ ¬ (255 : Int32) < d3) :
    CtrS l Z consts_1 (⟨"java/lang/StringLatin1", "newString", "([BII)Ljava/lang/String;"⟩ : MethodName) jdk_43_method_47_code 3 (some (.object "java/lang/String")) ({ frames := 3, cells := 2, slots := 7, locals := 50 } : Room) #[(.ref t), (.int (1 : Int32)), (.int (3 : Int32))] h0 (fun v h' => Keep h0 h' [] ∧ ∃ a, v = some (.ref a) ∧ LStr Z h' a ([d1, d2, d3] : List Int32)) := by
  refine CtrS.of (plainFor_of_name pn_1) hO ?_
  intro p e s m below meth c T0 X0 hsh hby hml hret hlk hnm
  refine Goes.cast (ef_own_nst41 m t) ?_
  show Goes _ _ _ _ T0 (mkF m 0 #[.val (.ref t), .val (.int (1 : Int32)), .val (.int (3 : Int32))] [])
  refine Goes.go (fun _ kS_ => XS.iloadN X0.here X0.ex rfl (hb hby d_jdk_43_method_47_0) rfl (XS.ifYes X0.here X0.ex rfl (pc0 := 1) (pc' := 7) rfl (hb hby d_jdk_43_method_47_1) rfl ((if0 _ _).trans (cd_t (cd := .ne) (x := (3 : Int32)) (y := (0 : Int32)) (by decide))) (by decide) (by decide) kS_)) ?_
  show Goes _ _ _ _ T0 (mkF m 7 #[.val (.ref t), .val (.int (1 : Int32)), .val (.int (3 : Int32))] [])
  refine Wk.new X0 (w_110 hw) (w_6 hw) (w_7 hw) rfl (hb hby d_jdk_43_method_47_7) (by decide) (by decide) ?_
  intro T65 h65 a65 g65 X65 E65 A65 D65
  have gz_a65 : Z.heap.size ≤ a65 := g65 ▸ X0.old.1
  have gm_a65 : h0.size ≤ a65 := g65 ▸ X0.ext.1
  have F_a65_value : Fld Z h65 a65 "java/lang/String" "value" "[B" .null := D65 (Or.inr (w_21 hw)) (ty := (.array .byte)) (by decide)
  have F_a65_coder : Fld Z h65 a65 "java/lang/String" "coder" "B" (.int (0 : Int32)) := D65 (Or.inr (w_22 hw)) (ty := .byte) (by decide)
  clear D65
  show Goes _ _ _ _ T65 (mkF m 10 #[.val (.ref t), .val (.int (1 : Int32)), .val (.int (3 : Int32))] [(.ref a65)])
  refine Goes.go (fun _ kS_ => XS.dup X65.here X65.ex rfl (hb hby d_jdk_43_method_47_10) rfl rfl (XS.aloadN X65.here X65.ex rfl (hb hby d_jdk_43_method_47_11) rfl rfl (XS.iloadN X65.here X65.ex rfl (hb hby d_jdk_43_method_47_12) rfl (XS.iloadN X65.here X65.ex rfl (hb hby d_jdk_43_method_47_13) rfl (XS.iloadN X65.here X65.ex rfl (hb hby d_jdk_43_method_47_14) rfl (XS.iadd X65.here X65.ex rfl (hb hby d_jdk_43_method_47_15) rfl kS_)))))) ?_
  show Goes _ _ _ _ T65 (mkF m 16 #[.val (.ref t), .val (.int (1 : Int32)), .val (.int (3 : Int32))] [(.int ((1 : Int32) + (3 : Int32))), (.int (1 : Int32)), (.ref t), (.ref a65), (.ref a65)])
  refine Goes.cast (congrArg (fun zq_ => (mkF m 16 #[.val (.ref t), .val (.int (1 : Int32)), .val (.int (3 : Int32))] [(.int zq_), (.int (1 : Int32)), (.ref t), (.ref a65), (.ref a65)])) (show (((1 : Int32) + (3 : Int32)) : Int32) = (4 : Int32) from by decide)) ?_
  show Goes _ _ _ _ T65 (mkF m 16 #[.val (.ref t), .val (.int (1 : Int32)), .val (.int (3 : Int32))] [(.int (4 : Int32)), (.int (1 : Int32)), (.ref t), (.ref a65), (.ref a65)])
  refine Wk.static (hm' := fun _ => h0) (y := (⟨"java/util/Arrays", "copyOfRange", "([BII)[B"⟩ : MethodName)) (W := 2) (kc := 1) (ks := 3) (argsL := [(.ref t), (.int (1 : Int32)), (.int (4 : Int32))]) (rest := [(.ref a65), (.ref a65)]) (as' := #[(.ref t), (.int (1 : Int32)), (.int (4 : Int32))]) (ws := []) X65 (w_111 hw) (w_112 hw) (w_113 hw) (w_114 hw) (by decide) (CtrN.pays (own_cor41 l Z a0 hw h65 X65.old t kb d0 d1 d2 d3 (V_t.ext X65.ext)) (w_114 hw) (w_113 hw) (by decide) (by decide)) (fun v h' L q => ⟨q.2, q.1.1⟩) all0 (fun _ => Mark.stay all0) rfl (by rw [hml]; rfl) (lenOf pd_8 rfl) rfl rfl (by show 2 * 0 + _ ≤ _; exact Nat.le_of_eq rfl) (hb hby d_jdk_43_method_47_16) (by decide) (by decide) ?_
  intro T66 h66 v66 L66 X66 q66 K66
  obtain ⟨⟨-, u66, ku66, rfl, U66, gu66⟩, -⟩ := q66
  replace A65 := A65.ext K66.oExt
  replace F_a65_value := F_a65_value.ext K66.oExt
  replace F_a65_coder := F_a65_coder.ext K66.oExt
  show Goes _ _ _ _ T66 (mkF m 19 #[.val (.ref t), .val (.int (1 : Int32)), .val (.int (3 : Int32))] [(.ref u66), (.ref a65), (.ref a65)])
  refine Goes.go (fun _ kS_ => XS.iconst X66.here X66.ex rfl (hb hby d_jdk_43_method_47_19) kS_) ?_
  show Goes _ _ _ _ T66 (mkF m 20 #[.val (.ref t), .val (.int (1 : Int32)), .val (.int (3 : Int32))] [(.int (0 : Int32)), (.ref u66), (.ref a65), (.ref a65)])
  refine Wk.special (hm' := fun _ => h0) (y := (⟨"java/lang/String", "<init>", "([BB)V"⟩ : MethodName)) (W := 1) (kc := 0) (ks := 0) (argsL := [(.ref u66), (.int (0 : Int32))]) (rest := [(.ref a65)]) (as' := #[(.ref a65), (.ref u66), (.int (0 : Int32))]) (ws := [a65]) X66 rfl (w_126 hw) (w_127 hw) (w_128 hw) (by decide) (CtrN.pays (own_newB l Z a0 hw h66 X66.old a65 u66 A65 F_a65_value F_a65_coder gz_a65) (w_128 hw) (w_7 hw) (by decide) (by decide)) (fun v h' L q => ⟨q.2, q.1.1⟩) (allS gz_a65 all0) (fun _ => Mark.stay (allS gm_a65 all0)) rfl (by rw [hml]; rfl) (lenOf pd_9 rfl) rfl rfl (by show 2 * 0 + _ ≤ _; exact Nat.le_of_eq rfl) (hb hby d_jdk_43_method_47_20) (by decide) (by decide) ?_
  intro T67 h67 v67 L67 X67 q67 K67
  obtain ⟨⟨-, rfl, Es67, Vs67, Cs67⟩, -⟩ := q67
  show Goes _ _ _ _ T67 (mkF m 23 #[.val (.ref t), .val (.int (1 : Int32)), .val (.int (3 : Int32))] [(.ref a65)])
  have nt : u66 ∉ [a65] := ninS (Exa.neArv A65 U66 (w_6 hw)).symm nin0
  replace U66 := U66.keep K67 nt
  have hpp : ∀ c ∈ ([d1, d2, d3] : List Int32), ¬ c < 0 ∧ ¬ (255 : Int32) < c := by
      intro c hc
      simp only [List.mem_cons, List.not_mem_nil, or_false] at hc
      rcases hc with rfl | rfl | rfl
      · exact b1
      · exact b2
      · exact b3
  refine Goes.outS X67 hEL (fun q => by rw [hret] at q; cases q) hlk (X67.rA hret rfl rfl (hb hby d_jdk_43_method_47_23)) ?_ (by decide) (by decide)
  exact ⟨Ext.oKeepOf X67.ext [], a65, rfl, Es67, Cs67, ⟨_, _, Vs67, U66⟩, hpp, Nat.le_of_ble_eq_true rfl⟩
set_option maxRecDepth 65536 in
set_option maxHeartbeats 40000000 in
theorem own_crb42 (l : Launch) (Z : State) (a0 : Array Value) (hw : ∀ d ∈ tables_1, d.before a0 Z = true) (h0 : Heap) (hO : Ext Z.heap h0) (t : Addr) (kb : ClassId) (d0 : Int32) (d1 : Int32) (d2 : Int32) (d3 : Int32) (V_t : Arv Z h0 t kb .byte (4 : Int32) [(.int (d0.toInt8.toInt32)), (.int (d1.toInt8.toInt32)), (.int (d2.toInt8.toInt32)), (.int (d3.toInt8.toInt32))] (.int (0 : Int32))) :
    CtrN l Z (⟨"java/util/Arrays", "copyOfRangeByte", "([BII)[B"⟩ : MethodName) jdk_65_method_133_code 5 (some (.array .byte)) ({ frames := 1, cells := 1, slots := 2, locals := 18 } : Room) #[(.ref t), (.int (2 : Int32)), (.int (4 : Int32))] h0 (fun v h' => Keep h0 h' [] ∧ ∃ u ku, v = some (.ref u) ∧ Arv Z h' u ku .byte (2 : Int32) [(.int (d2.toInt8.toInt32)), (.int (d3.toInt8.toInt32))] (.int (0 : Int32)) ∧ h0.size ≤ u) := by
  refine CtrN.of (plainFor_of_name pn_3) hO ?_
  intro p e s m below meth c T0 X0 hsh hby hml hret hlk hnm
  refine Goes.cast (ef_own_crb42 m t) ?_
  show Goes _ _ _ _ T0 (mkF m 0 #[.val (.ref t), .val (.int (2 : Int32)), .val (.int (4 : Int32)), .unset, .unset] [])
  refine Goes.go (fun _ kS_ => XS.iloadN X0.here X0.ex rfl (hb hby d_jdk_65_method_133_0) rfl (XS.iloadN X0.here X0.ex rfl (hb hby d_jdk_65_method_133_1) rfl kS_)) ?_
  show Goes _ _ _ _ T0 (mkF m 2 #[.val (.ref t), .val (.int (2 : Int32)), .val (.int (4 : Int32)), .unset, .unset] [(.int (4 : Int32)), (.int (2 : Int32))])
  refine Wk.static (hm' := fun _ => h0) (y := (⟨"java/util/Arrays", "checkLength", "(II)V"⟩ : MethodName)) (W := 0) (kc := 0) (ks := 0) (argsL := [(.int (2 : Int32)), (.int (4 : Int32))]) (rest := []) (as' := #[(.int (2 : Int32)), (.int (4 : Int32))]) (ws := []) X0 (w_118 hw) (w_119 hw) (w_113 hw) (w_120 hw) (by decide) (CtrN.pays (own_chl l Z a0 hw h0 X0.old (2 : Int32) (4 : Int32) (by decide)) (w_120 hw) (w_113 hw) (by decide) (by decide)) (fun v h' L q => ⟨q.2, q.1.1⟩) all0 (fun _ => Mark.stay all0) rfl (by rw [hml]; rfl) (lenOf pd_7 rfl) rfl rfl (by show 2 * 0 + _ ≤ _; exact Nat.le_of_eq rfl) (hb hby d_jdk_65_method_133_2) (by decide) (by decide) ?_
  intro T72 h72 v72 L72 X72 q72 K72
  obtain ⟨⟨-, rfl⟩, -⟩ := q72
  replace V_t := V_t.ext K72.oExt
  show Goes _ _ _ _ T72 (mkF m 5 #[.val (.ref t), .val (.int (2 : Int32)), .val (.int (4 : Int32)), .unset, .unset] [])
  refine Goes.go (fun _ kS_ => XS.iloadN X72.here X72.ex rfl (hb hby d_jdk_65_method_133_5) rfl (XS.iloadN X72.here X72.ex rfl (hb hby d_jdk_65_method_133_6) rfl (XS.isub X72.here X72.ex rfl (hb hby d_jdk_65_method_133_7) rfl kS_))) ?_
  show Goes _ _ _ _ T72 (mkF m 8 #[.val (.ref t), .val (.int (2 : Int32)), .val (.int (4 : Int32)), .unset, .unset] [(.int ((4 : Int32) - (2 : Int32)))])
  refine Goes.cast (congrArg (fun zq_ => (mkF m 8 #[.val (.ref t), .val (.int (2 : Int32)), .val (.int (4 : Int32)), .unset, .unset] [(.int zq_)])) (show (((4 : Int32) - (2 : Int32)) : Int32) = (2 : Int32) from by decide)) ?_
  show Goes _ _ _ _ T72 (mkF m 8 #[.val (.ref t), .val (.int (2 : Int32)), .val (.int (4 : Int32)), .unset, .unset] [(.int (2 : Int32))])
  refine Goes.go (fun _ kS_ => XS.istoreN X72.here X72.ex rfl (hb hby d_jdk_65_method_133_8) rfl (l' := #[.val (.ref t), .val (.int (2 : Int32)), .val (.int (4 : Int32)), .val (.int (2 : Int32)), .unset]) rfl (XS.iloadN X72.here X72.ex rfl (hb hby d_jdk_65_method_133_9) rfl kS_)) ?_
  show Goes _ _ _ _ T72 (mkF m 10 #[.val (.ref t), .val (.int (2 : Int32)), .val (.int (4 : Int32)), .val (.int (2 : Int32)), .unset] [(.int (2 : Int32))])
  refine Wk.newA (aty := .byte) X72 (w_20 hw) rfl (hb hby d_jdk_65_method_133_10) rfl (by decide) (cap := 2) (by decide) (by decide) (by decide) (by decide) ?_
  intro T73 h73 b73 k73 g73 X73 E73 A73 B_b73
  have lt_t_b73 : t < b73 := by rw [g73]; exact V_t.lt
  replace V_t := V_t.ext E73
  have V_b73 : Arv Z h73 b73 k73 .byte (2 : Int32) [(.int (0 : Int32)), (.int (0 : Int32))] (.int (0 : Int32)) := A73.pad (pad_rep [] (.int (0 : Int32)) 2)
  have gz_b73 : Z.heap.size ≤ b73 := g73 ▸ X72.old.1
  have gm_b73 : h0.size ≤ b73 := g73 ▸ X72.ext.1
  show Goes _ _ _ _ T73 (mkF m 12 #[.val (.ref t), .val (.int (2 : Int32)), .val (.int (4 : Int32)), .val (.int (2 : Int32)), .unset] [(.ref b73)])
  refine Goes.go (fun _ kS_ => XS.astore X73.here X73.ex rfl (hb hby d_jdk_65_method_133_12) rfl rfl (l' := #[.val (.ref t), .val (.int (2 : Int32)), .val (.int (4 : Int32)), .val (.int (2 : Int32)), .val (.ref b73)]) rfl (XS.aloadN X73.here X73.ex rfl (hb hby d_jdk_65_method_133_14) rfl rfl (XS.iloadN X73.here X73.ex rfl (hb hby d_jdk_65_method_133_15) rfl (XS.aload X73.here X73.ex rfl (hb hby d_jdk_65_method_133_16) rfl rfl (XS.iconst X73.here X73.ex rfl (hb hby d_jdk_65_method_133_18) (XS.aloadN X73.here X73.ex rfl (hb hby d_jdk_65_method_133_19) rfl rfl kS_)))))) ?_
  show Goes _ _ _ _ T73 (mkF m 20 #[.val (.ref t), .val (.int (2 : Int32)), .val (.int (4 : Int32)), .val (.int (2 : Int32)), .val (.ref b73)] [(.ref t), (.int (0 : Int32)), (.ref b73), (.int (2 : Int32)), (.ref t)])
  refine Goes.go (X73.alen V_t rfl rfl (hb hby d_jdk_65_method_133_20)) ?_
  show Goes _ _ _ _ T73 (mkF m 21 #[.val (.ref t), .val (.int (2 : Int32)), .val (.int (4 : Int32)), .val (.int (2 : Int32)), .val (.ref b73)] [(.int (4 : Int32)), (.int (0 : Int32)), (.ref b73), (.int (2 : Int32)), (.ref t)])
  refine Goes.go (fun _ kS_ => XS.iloadN X73.here X73.ex rfl (hb hby d_jdk_65_method_133_21) rfl (XS.isub X73.here X73.ex rfl (hb hby d_jdk_65_method_133_22) rfl kS_)) ?_
  show Goes _ _ _ _ T73 (mkF m 23 #[.val (.ref t), .val (.int (2 : Int32)), .val (.int (4 : Int32)), .val (.int (2 : Int32)), .val (.ref b73)] [(.int ((4 : Int32) - (2 : Int32))), (.int (0 : Int32)), (.ref b73), (.int (2 : Int32)), (.ref t)])
  refine Goes.cast (congrArg (fun zq_ => (mkF m 23 #[.val (.ref t), .val (.int (2 : Int32)), .val (.int (4 : Int32)), .val (.int (2 : Int32)), .val (.ref b73)] [(.int zq_), (.int (0 : Int32)), (.ref b73), (.int (2 : Int32)), (.ref t)])) (show (((4 : Int32) - (2 : Int32)) : Int32) = (2 : Int32) from by decide)) ?_
  show Goes _ _ _ _ T73 (mkF m 23 #[.val (.ref t), .val (.int (2 : Int32)), .val (.int (4 : Int32)), .val (.int (2 : Int32)), .val (.ref b73)] [(.int (2 : Int32)), (.int (0 : Int32)), (.ref b73), (.int (2 : Int32)), (.ref t)])
  refine Goes.go (fun _ kS_ => XS.iloadN X73.here X73.ex rfl (hb hby d_jdk_65_method_133_23) rfl kS_) ?_
  show Goes _ _ _ _ T73 (mkF m 24 #[.val (.ref t), .val (.int (2 : Int32)), .val (.int (4 : Int32)), .val (.int (2 : Int32)), .val (.ref b73)] [(.int (2 : Int32)), (.int (2 : Int32)), (.int (0 : Int32)), (.ref b73), (.int (2 : Int32)), (.ref t)])
  refine Wk.static (hm' := fun _ => h0) (y := (⟨"java/lang/Math", "min", "(II)I"⟩ : MethodName)) (W := 4) (kc := 0) (ks := 0) (argsL := [(.int (2 : Int32)), (.int (2 : Int32))]) (rest := [(.int (0 : Int32)), (.ref b73), (.int (2 : Int32)), (.ref t)]) (as' := #[(.int (2 : Int32)), (.int (2 : Int32))]) (ws := []) X73 (w_121 hw) (w_68 hw) (w_69 hw) (w_70 hw) (by decide) (CtrN.pays (own_min l Z a0 hw h73 X73.old (2 : Int32)) (w_70 hw) (w_69 hw) (by decide) (by decide)) (fun v h' L q => ⟨q.2, q.1.1⟩) all0 (fun _ => Mark.stay all0) rfl (by rw [hml]; rfl) (lenOf pd_2 rfl) rfl rfl (by show 2 * 0 + _ ≤ _; exact Nat.le_of_eq rfl) (hb hby d_jdk_65_method_133_24) (by decide) (by decide) ?_
  intro T74 h74 v74 L74 X74 q74 K74
  obtain ⟨⟨-, rfl⟩, -⟩ := q74
  replace V_t := V_t.ext K74.oExt
  replace V_b73 := V_b73.ext K74.oExt
  show Goes _ _ _ _ T74 (mkF m 27 #[.val (.ref t), .val (.int (2 : Int32)), .val (.int (4 : Int32)), .val (.int (2 : Int32)), .val (.ref b73)] [(.int (2 : Int32)), (.int (0 : Int32)), (.ref b73), (.int (2 : Int32)), (.ref t)])
  refine Wk.acopy (hm' := fun _ => h0) X74 (w_122 hw) (w_125 hw) (w_123 hw) (w_124 hw) V_t V_b73 ⟨rfl, rfl⟩ (by decide) (by decide) (by decide) (by decide) (by decide) (us := [(.int (d2.toInt8.toInt32)), (.int (d3.toInt8.toInt32))]) rfl (Nat.le_of_ble_eq_true rfl) gz_b73 (fun _ => Mark.stay (allS gm_b73 all0)) rfl (by rw [hml]; rfl) rfl (hb hby d_jdk_65_method_133_27) (by decide) (W := 0) (by show 2 * 0 + _ ≤ _; exact Nat.le_of_eq rfl) (by decide) ?_
  intro T75 h75 X75 K75 V75
  have V_b73 : Arv Z h75 b73 _ .byte (2 : Int32) [(.int (d2.toInt8.toInt32)), (.int (d3.toInt8.toInt32))] (.int (0 : Int32)) := V75
  show Goes _ _ _ _ T75 (mkF m 30 #[.val (.ref t), .val (.int (2 : Int32)), .val (.int (4 : Int32)), .val (.int (2 : Int32)), .val (.ref b73)] [])
  refine Goes.go (fun _ kS_ => XS.aload X75.here X75.ex rfl (hb hby d_jdk_65_method_133_30) rfl rfl kS_) ?_
  show Goes _ _ _ _ T75 (mkF m 32 #[.val (.ref t), .val (.int (2 : Int32)), .val (.int (4 : Int32)), .val (.int (2 : Int32)), .val (.ref b73)] [(.ref b73)])
  refine Goes.outN X75 (fun q => by rw [hret] at q; cases q) hlk (X75.rA hret rfl rfl (hb hby d_jdk_65_method_133_32)) ?_ (by decide) (by decide)
  exact ⟨Ext.oKeepOf X75.ext [], b73, _, rfl, V_b73, gm_b73⟩
set_option maxRecDepth 65536 in
set_option maxHeartbeats 40000000 in
theorem own_cor42 (l : Launch) (Z : State) (a0 : Array Value) (hw : ∀ d ∈ tables_1, d.before a0 Z = true) (h0 : Heap) (hO : Ext Z.heap h0) (t : Addr) (kb : ClassId) (d0 : Int32) (d1 : Int32) (d2 : Int32) (d3 : Int32) (V_t : Arv Z h0 t kb .byte (4 : Int32) [(.int (d0.toInt8.toInt32)), (.int (d1.toInt8.toInt32)), (.int (d2.toInt8.toInt32)), (.int (d3.toInt8.toInt32))] (.int (0 : Int32))) :
    CtrN l Z (⟨"java/util/Arrays", "copyOfRange", "([BII)[B"⟩ : MethodName) jdk_65_method_132_code 3 (some (.array .byte)) ({ frames := 2, cells := 1, slots := 2, locals := 34 } : Room) #[(.ref t), (.int (2 : Int32)), (.int (4 : Int32))] h0 (fun v h' => Keep h0 h' [] ∧ ∃ u ku, v = some (.ref u) ∧ Arv Z h' u ku .byte (2 : Int32) [(.int (d2.toInt8.toInt32)), (.int (d3.toInt8.toInt32))] (.int (0 : Int32)) ∧ h0.size ≤ u) := by
  refine CtrN.of (plainFor_of_name pn_3) hO ?_
  intro p e s m below meth c T0 X0 hsh hby hml hret hlk hnm
  refine Goes.cast (ef_own_cor42 m t) ?_
  show Goes _ _ _ _ T0 (mkF m 0 #[.val (.ref t), .val (.int (2 : Int32)), .val (.int (4 : Int32))] [])
  refine Goes.go (fun _ kS_ => XS.iloadN X0.here X0.ex rfl (hb hby d_jdk_65_method_132_0) rfl (XS.ifYes X0.here X0.ex rfl (pc0 := 1) (pc' := 10) rfl (hb hby d_jdk_65_method_132_1) rfl ((if0 _ _).trans (cd_t (cd := .ne) (x := (2 : Int32)) (y := (0 : Int32)) (by decide))) (by decide) (by decide) (XS.aloadN X0.here X0.ex rfl (hb hby d_jdk_65_method_132_10) rfl rfl (XS.iloadN X0.here X0.ex rfl (hb hby d_jdk_65_method_132_11) rfl (XS.iloadN X0.here X0.ex rfl (hb hby d_jdk_65_method_132_12) rfl kS_))))) ?_
  show Goes _ _ _ _ T0 (mkF m 13 #[.val (.ref t), .val (.int (2 : Int32)), .val (.int (4 : Int32))] [(.int (4 : Int32)), (.int (2 : Int32)), (.ref t)])
  refine Wk.static (hm' := fun _ => h0) (y := (⟨"java/util/Arrays", "copyOfRangeByte", "([BII)[B"⟩ : MethodName)) (W := 0) (kc := 1) (ks := 2) (argsL := [(.ref t), (.int (2 : Int32)), (.int (4 : Int32))]) (rest := []) (as' := #[(.ref t), (.int (2 : Int32)), (.int (4 : Int32))]) (ws := []) X0 (w_115 hw) (w_116 hw) (w_113 hw) (w_117 hw) (by decide) (CtrN.pays (own_crb42 l Z a0 hw h0 X0.old t kb d0 d1 d2 d3 V_t) (w_117 hw) (w_113 hw) (by decide) (by decide)) (fun v h' L q => ⟨q.2, q.1.1⟩) all0 (fun _ => Mark.stay all0) rfl (by rw [hml]; rfl) (lenOf pd_8 rfl) rfl rfl (by show 2 * 0 + _ ≤ _; exact Nat.le_of_eq rfl) (hb hby d_jdk_65_method_132_13) (by decide) (by decide) ?_
  intro T77 h77 v77 L77 X77 q77 K77
  obtain ⟨⟨-, u77, ku77, rfl, U77, gu77⟩, -⟩ := q77
  show Goes _ _ _ _ T77 (mkF m 16 #[.val (.ref t), .val (.int (2 : Int32)), .val (.int (4 : Int32))] [(.ref u77)])
  refine Goes.outN X77 (fun q => by rw [hret] at q; cases q) hlk (X77.rA hret rfl rfl (hb hby d_jdk_65_method_132_16)) ?_ (by decide) (by decide)
  exact ⟨Ext.oKeepOf X77.ext [], u77, ku77, rfl, U77, gu77⟩
set_option maxRecDepth 65536 in
set_option maxHeartbeats 40000000 in
theorem own_nst42 (l : Launch) (Z : State) (a0 : Array Value) (hw : ∀ d ∈ tables_1, d.before a0 Z = true) (hEL : EW Z a0 consts_1) (h0 : Heap) (hO : Ext Z.heap h0) (t : Addr) (kb : ClassId) (d0 : Int32) (d1 : Int32) (d2 : Int32) (d3 : Int32) (V_t : Arv Z h0 t kb .byte (4 : Int32) [(.int (d0.toInt8.toInt32)), (.int (d1.toInt8.toInt32)), (.int (d2.toInt8.toInt32)), (.int (d3.toInt8.toInt32))] (.int (0 : Int32))) (b0 : ¬ d0 < 0 ∧ ¬ (255 : Int32) < d0) (b1 : ¬ d1 < 0 ∧ ¬ (255 : Int32) < d1) (b2 : ¬ d2 < 0 ∧ ¬ (255 : Int32) < d2) (b3 : ¬ d3 < 0 ∧ ¬ (255 : Int32) < d3) :
    CtrS l Z consts_1 (⟨"java/lang/StringLatin1", "newString", "([BII)Ljava/lang/String;"⟩ : MethodName) jdk_43_method_47_code 3 (some (.object "java/lang/String")) ({ frames := 3, cells := 2, slots := 7, locals := 50 } : Room) #[(.ref t), (.int (2 : Int32)), (.int (2 : Int32))] h0 (fun v h' => Keep h0 h' [] ∧ ∃ a, v = some (.ref a) ∧ LStr Z h' a ([d2, d3] : List Int32)) := by
  refine CtrS.of (plainFor_of_name pn_1) hO ?_
  intro p e s m below meth c T0 X0 hsh hby hml hret hlk hnm
  refine Goes.cast (ef_own_nst42 m t) ?_
  show Goes _ _ _ _ T0 (mkF m 0 #[.val (.ref t), .val (.int (2 : Int32)), .val (.int (2 : Int32))] [])
  refine Goes.go (fun _ kS_ => XS.iloadN X0.here X0.ex rfl (hb hby d_jdk_43_method_47_0) rfl (XS.ifYes X0.here X0.ex rfl (pc0 := 1) (pc' := 7) rfl (hb hby d_jdk_43_method_47_1) rfl ((if0 _ _).trans (cd_t (cd := .ne) (x := (2 : Int32)) (y := (0 : Int32)) (by decide))) (by decide) (by decide) kS_)) ?_
  show Goes _ _ _ _ T0 (mkF m 7 #[.val (.ref t), .val (.int (2 : Int32)), .val (.int (2 : Int32))] [])
  refine Wk.new X0 (w_110 hw) (w_6 hw) (w_7 hw) rfl (hb hby d_jdk_43_method_47_7) (by decide) (by decide) ?_
  intro T81 h81 a81 g81 X81 E81 A81 D81
  have gz_a81 : Z.heap.size ≤ a81 := g81 ▸ X0.old.1
  have gm_a81 : h0.size ≤ a81 := g81 ▸ X0.ext.1
  have F_a81_value : Fld Z h81 a81 "java/lang/String" "value" "[B" .null := D81 (Or.inr (w_21 hw)) (ty := (.array .byte)) (by decide)
  have F_a81_coder : Fld Z h81 a81 "java/lang/String" "coder" "B" (.int (0 : Int32)) := D81 (Or.inr (w_22 hw)) (ty := .byte) (by decide)
  clear D81
  show Goes _ _ _ _ T81 (mkF m 10 #[.val (.ref t), .val (.int (2 : Int32)), .val (.int (2 : Int32))] [(.ref a81)])
  refine Goes.go (fun _ kS_ => XS.dup X81.here X81.ex rfl (hb hby d_jdk_43_method_47_10) rfl rfl (XS.aloadN X81.here X81.ex rfl (hb hby d_jdk_43_method_47_11) rfl rfl (XS.iloadN X81.here X81.ex rfl (hb hby d_jdk_43_method_47_12) rfl (XS.iloadN X81.here X81.ex rfl (hb hby d_jdk_43_method_47_13) rfl (XS.iloadN X81.here X81.ex rfl (hb hby d_jdk_43_method_47_14) rfl (XS.iadd X81.here X81.ex rfl (hb hby d_jdk_43_method_47_15) rfl kS_)))))) ?_
  show Goes _ _ _ _ T81 (mkF m 16 #[.val (.ref t), .val (.int (2 : Int32)), .val (.int (2 : Int32))] [(.int ((2 : Int32) + (2 : Int32))), (.int (2 : Int32)), (.ref t), (.ref a81), (.ref a81)])
  refine Goes.cast (congrArg (fun zq_ => (mkF m 16 #[.val (.ref t), .val (.int (2 : Int32)), .val (.int (2 : Int32))] [(.int zq_), (.int (2 : Int32)), (.ref t), (.ref a81), (.ref a81)])) (show (((2 : Int32) + (2 : Int32)) : Int32) = (4 : Int32) from by decide)) ?_
  show Goes _ _ _ _ T81 (mkF m 16 #[.val (.ref t), .val (.int (2 : Int32)), .val (.int (2 : Int32))] [(.int (4 : Int32)), (.int (2 : Int32)), (.ref t), (.ref a81), (.ref a81)])
  refine Wk.static (hm' := fun _ => h0) (y := (⟨"java/util/Arrays", "copyOfRange", "([BII)[B"⟩ : MethodName)) (W := 2) (kc := 1) (ks := 2) (argsL := [(.ref t), (.int (2 : Int32)), (.int (4 : Int32))]) (rest := [(.ref a81), (.ref a81)]) (as' := #[(.ref t), (.int (2 : Int32)), (.int (4 : Int32))]) (ws := []) X81 (w_111 hw) (w_112 hw) (w_113 hw) (w_114 hw) (by decide) (CtrN.pays (own_cor42 l Z a0 hw h81 X81.old t kb d0 d1 d2 d3 (V_t.ext X81.ext)) (w_114 hw) (w_113 hw) (by decide) (by decide)) (fun v h' L q => ⟨q.2, q.1.1⟩) all0 (fun _ => Mark.stay all0) rfl (by rw [hml]; rfl) (lenOf pd_8 rfl) rfl rfl (by show 2 * 0 + _ ≤ _; exact Nat.le_of_eq rfl) (hb hby d_jdk_43_method_47_16) (by decide) (by decide) ?_
  intro T82 h82 v82 L82 X82 q82 K82
  obtain ⟨⟨-, u82, ku82, rfl, U82, gu82⟩, -⟩ := q82
  replace A81 := A81.ext K82.oExt
  replace F_a81_value := F_a81_value.ext K82.oExt
  replace F_a81_coder := F_a81_coder.ext K82.oExt
  show Goes _ _ _ _ T82 (mkF m 19 #[.val (.ref t), .val (.int (2 : Int32)), .val (.int (2 : Int32))] [(.ref u82), (.ref a81), (.ref a81)])
  refine Goes.go (fun _ kS_ => XS.iconst X82.here X82.ex rfl (hb hby d_jdk_43_method_47_19) kS_) ?_
  show Goes _ _ _ _ T82 (mkF m 20 #[.val (.ref t), .val (.int (2 : Int32)), .val (.int (2 : Int32))] [(.int (0 : Int32)), (.ref u82), (.ref a81), (.ref a81)])
  refine Wk.special (hm' := fun _ => h0) (y := (⟨"java/lang/String", "<init>", "([BB)V"⟩ : MethodName)) (W := 1) (kc := 0) (ks := 0) (argsL := [(.ref u82), (.int (0 : Int32))]) (rest := [(.ref a81)]) (as' := #[(.ref a81), (.ref u82), (.int (0 : Int32))]) (ws := [a81]) X82 rfl (w_126 hw) (w_127 hw) (w_128 hw) (by decide) (CtrN.pays (own_newB l Z a0 hw h82 X82.old a81 u82 A81 F_a81_value F_a81_coder gz_a81) (w_128 hw) (w_7 hw) (by decide) (by decide)) (fun v h' L q => ⟨q.2, q.1.1⟩) (allS gz_a81 all0) (fun _ => Mark.stay (allS gm_a81 all0)) rfl (by rw [hml]; rfl) (lenOf pd_9 rfl) rfl rfl (by show 2 * 0 + _ ≤ _; exact Nat.le_of_eq rfl) (hb hby d_jdk_43_method_47_20) (by decide) (by decide) ?_
  intro T83 h83 v83 L83 X83 q83 K83
  obtain ⟨⟨-, rfl, Es83, Vs83, Cs83⟩, -⟩ := q83
  show Goes _ _ _ _ T83 (mkF m 23 #[.val (.ref t), .val (.int (2 : Int32)), .val (.int (2 : Int32))] [(.ref a81)])
  have nt : u82 ∉ [a81] := ninS (Exa.neArv A81 U82 (w_6 hw)).symm nin0
  replace U82 := U82.keep K83 nt
  have hpp : ∀ c ∈ ([d2, d3] : List Int32), ¬ c < 0 ∧ ¬ (255 : Int32) < c := by
      intro c hc
      simp only [List.mem_cons, List.not_mem_nil, or_false] at hc
      rcases hc with rfl | rfl
      · exact b2
      · exact b3
  refine Goes.outS X83 hEL (fun q => by rw [hret] at q; cases q) hlk (X83.rA hret rfl rfl (hb hby d_jdk_43_method_47_23)) ?_ (by decide) (by decide)
  exact ⟨Ext.oKeepOf X83.ext [], a81, rfl, Es83, Cs83, ⟨_, _, Vs83, U82⟩, hpp, Nat.le_of_ble_eq_true rfl⟩
set_option maxRecDepth 65536 in
set_option maxHeartbeats 40000000 in
theorem own_crb43 (l : Launch) (Z : State) (a0 : Array Value) (hw : ∀ d ∈ tables_1, d.before a0 Z = true) (h0 : Heap) (hO : Ext Z.heap h0) (t : Addr) (kb : ClassId) (d0 : Int32) (d1 : Int32) (d2 : Int32) (d3 : Int32) (V_t : Arv Z h0 t kb .byte (4 : Int32) [(.int (d0.toInt8.toInt32)), (.int (d1.toInt8.toInt32)), (.int (d2.toInt8.toInt32)), (.int (d3.toInt8.toInt32))] (.int (0 : Int32))) :
    CtrN l Z (⟨"java/util/Arrays", "copyOfRangeByte", "([BII)[B"⟩ : MethodName) jdk_65_method_133_code 5 (some (.array .byte)) ({ frames := 1, cells := 1, slots := 1, locals := 18 } : Room) #[(.ref t), (.int (3 : Int32)), (.int (4 : Int32))] h0 (fun v h' => Keep h0 h' [] ∧ ∃ u ku, v = some (.ref u) ∧ Arv Z h' u ku .byte (1 : Int32) [(.int (d3.toInt8.toInt32))] (.int (0 : Int32)) ∧ h0.size ≤ u) := by
  refine CtrN.of (plainFor_of_name pn_3) hO ?_
  intro p e s m below meth c T0 X0 hsh hby hml hret hlk hnm
  refine Goes.cast (ef_own_crb43 m t) ?_
  show Goes _ _ _ _ T0 (mkF m 0 #[.val (.ref t), .val (.int (3 : Int32)), .val (.int (4 : Int32)), .unset, .unset] [])
  refine Goes.go (fun _ kS_ => XS.iloadN X0.here X0.ex rfl (hb hby d_jdk_65_method_133_0) rfl (XS.iloadN X0.here X0.ex rfl (hb hby d_jdk_65_method_133_1) rfl kS_)) ?_
  show Goes _ _ _ _ T0 (mkF m 2 #[.val (.ref t), .val (.int (3 : Int32)), .val (.int (4 : Int32)), .unset, .unset] [(.int (4 : Int32)), (.int (3 : Int32))])
  refine Wk.static (hm' := fun _ => h0) (y := (⟨"java/util/Arrays", "checkLength", "(II)V"⟩ : MethodName)) (W := 0) (kc := 0) (ks := 0) (argsL := [(.int (3 : Int32)), (.int (4 : Int32))]) (rest := []) (as' := #[(.int (3 : Int32)), (.int (4 : Int32))]) (ws := []) X0 (w_118 hw) (w_119 hw) (w_113 hw) (w_120 hw) (by decide) (CtrN.pays (own_chl l Z a0 hw h0 X0.old (3 : Int32) (4 : Int32) (by decide)) (w_120 hw) (w_113 hw) (by decide) (by decide)) (fun v h' L q => ⟨q.2, q.1.1⟩) all0 (fun _ => Mark.stay all0) rfl (by rw [hml]; rfl) (lenOf pd_7 rfl) rfl rfl (by show 2 * 0 + _ ≤ _; exact Nat.le_of_eq rfl) (hb hby d_jdk_65_method_133_2) (by decide) (by decide) ?_
  intro T88 h88 v88 L88 X88 q88 K88
  obtain ⟨⟨-, rfl⟩, -⟩ := q88
  replace V_t := V_t.ext K88.oExt
  show Goes _ _ _ _ T88 (mkF m 5 #[.val (.ref t), .val (.int (3 : Int32)), .val (.int (4 : Int32)), .unset, .unset] [])
  refine Goes.go (fun _ kS_ => XS.iloadN X88.here X88.ex rfl (hb hby d_jdk_65_method_133_5) rfl (XS.iloadN X88.here X88.ex rfl (hb hby d_jdk_65_method_133_6) rfl (XS.isub X88.here X88.ex rfl (hb hby d_jdk_65_method_133_7) rfl kS_))) ?_
  show Goes _ _ _ _ T88 (mkF m 8 #[.val (.ref t), .val (.int (3 : Int32)), .val (.int (4 : Int32)), .unset, .unset] [(.int ((4 : Int32) - (3 : Int32)))])
  refine Goes.cast (congrArg (fun zq_ => (mkF m 8 #[.val (.ref t), .val (.int (3 : Int32)), .val (.int (4 : Int32)), .unset, .unset] [(.int zq_)])) (show (((4 : Int32) - (3 : Int32)) : Int32) = (1 : Int32) from by decide)) ?_
  show Goes _ _ _ _ T88 (mkF m 8 #[.val (.ref t), .val (.int (3 : Int32)), .val (.int (4 : Int32)), .unset, .unset] [(.int (1 : Int32))])
  refine Goes.go (fun _ kS_ => XS.istoreN X88.here X88.ex rfl (hb hby d_jdk_65_method_133_8) rfl (l' := #[.val (.ref t), .val (.int (3 : Int32)), .val (.int (4 : Int32)), .val (.int (1 : Int32)), .unset]) rfl (XS.iloadN X88.here X88.ex rfl (hb hby d_jdk_65_method_133_9) rfl kS_)) ?_
  show Goes _ _ _ _ T88 (mkF m 10 #[.val (.ref t), .val (.int (3 : Int32)), .val (.int (4 : Int32)), .val (.int (1 : Int32)), .unset] [(.int (1 : Int32))])
  refine Wk.newA (aty := .byte) X88 (w_20 hw) rfl (hb hby d_jdk_65_method_133_10) rfl (by decide) (cap := 1) (by decide) (by decide) (by decide) (by decide) ?_
  intro T89 h89 b89 k89 g89 X89 E89 A89 B_b89
  have lt_t_b89 : t < b89 := by rw [g89]; exact V_t.lt
  replace V_t := V_t.ext E89
  have V_b89 : Arv Z h89 b89 k89 .byte (1 : Int32) [(.int (0 : Int32))] (.int (0 : Int32)) := A89.pad (pad_rep [] (.int (0 : Int32)) 1)
  have gz_b89 : Z.heap.size ≤ b89 := g89 ▸ X88.old.1
  have gm_b89 : h0.size ≤ b89 := g89 ▸ X88.ext.1
  show Goes _ _ _ _ T89 (mkF m 12 #[.val (.ref t), .val (.int (3 : Int32)), .val (.int (4 : Int32)), .val (.int (1 : Int32)), .unset] [(.ref b89)])
  refine Goes.go (fun _ kS_ => XS.astore X89.here X89.ex rfl (hb hby d_jdk_65_method_133_12) rfl rfl (l' := #[.val (.ref t), .val (.int (3 : Int32)), .val (.int (4 : Int32)), .val (.int (1 : Int32)), .val (.ref b89)]) rfl (XS.aloadN X89.here X89.ex rfl (hb hby d_jdk_65_method_133_14) rfl rfl (XS.iloadN X89.here X89.ex rfl (hb hby d_jdk_65_method_133_15) rfl (XS.aload X89.here X89.ex rfl (hb hby d_jdk_65_method_133_16) rfl rfl (XS.iconst X89.here X89.ex rfl (hb hby d_jdk_65_method_133_18) (XS.aloadN X89.here X89.ex rfl (hb hby d_jdk_65_method_133_19) rfl rfl kS_)))))) ?_
  show Goes _ _ _ _ T89 (mkF m 20 #[.val (.ref t), .val (.int (3 : Int32)), .val (.int (4 : Int32)), .val (.int (1 : Int32)), .val (.ref b89)] [(.ref t), (.int (0 : Int32)), (.ref b89), (.int (3 : Int32)), (.ref t)])
  refine Goes.go (X89.alen V_t rfl rfl (hb hby d_jdk_65_method_133_20)) ?_
  show Goes _ _ _ _ T89 (mkF m 21 #[.val (.ref t), .val (.int (3 : Int32)), .val (.int (4 : Int32)), .val (.int (1 : Int32)), .val (.ref b89)] [(.int (4 : Int32)), (.int (0 : Int32)), (.ref b89), (.int (3 : Int32)), (.ref t)])
  refine Goes.go (fun _ kS_ => XS.iloadN X89.here X89.ex rfl (hb hby d_jdk_65_method_133_21) rfl (XS.isub X89.here X89.ex rfl (hb hby d_jdk_65_method_133_22) rfl kS_)) ?_
  show Goes _ _ _ _ T89 (mkF m 23 #[.val (.ref t), .val (.int (3 : Int32)), .val (.int (4 : Int32)), .val (.int (1 : Int32)), .val (.ref b89)] [(.int ((4 : Int32) - (3 : Int32))), (.int (0 : Int32)), (.ref b89), (.int (3 : Int32)), (.ref t)])
  refine Goes.cast (congrArg (fun zq_ => (mkF m 23 #[.val (.ref t), .val (.int (3 : Int32)), .val (.int (4 : Int32)), .val (.int (1 : Int32)), .val (.ref b89)] [(.int zq_), (.int (0 : Int32)), (.ref b89), (.int (3 : Int32)), (.ref t)])) (show (((4 : Int32) - (3 : Int32)) : Int32) = (1 : Int32) from by decide)) ?_
  show Goes _ _ _ _ T89 (mkF m 23 #[.val (.ref t), .val (.int (3 : Int32)), .val (.int (4 : Int32)), .val (.int (1 : Int32)), .val (.ref b89)] [(.int (1 : Int32)), (.int (0 : Int32)), (.ref b89), (.int (3 : Int32)), (.ref t)])
  refine Goes.go (fun _ kS_ => XS.iloadN X89.here X89.ex rfl (hb hby d_jdk_65_method_133_23) rfl kS_) ?_
  show Goes _ _ _ _ T89 (mkF m 24 #[.val (.ref t), .val (.int (3 : Int32)), .val (.int (4 : Int32)), .val (.int (1 : Int32)), .val (.ref b89)] [(.int (1 : Int32)), (.int (1 : Int32)), (.int (0 : Int32)), (.ref b89), (.int (3 : Int32)), (.ref t)])
  refine Wk.static (hm' := fun _ => h0) (y := (⟨"java/lang/Math", "min", "(II)I"⟩ : MethodName)) (W := 4) (kc := 0) (ks := 0) (argsL := [(.int (1 : Int32)), (.int (1 : Int32))]) (rest := [(.int (0 : Int32)), (.ref b89), (.int (3 : Int32)), (.ref t)]) (as' := #[(.int (1 : Int32)), (.int (1 : Int32))]) (ws := []) X89 (w_121 hw) (w_68 hw) (w_69 hw) (w_70 hw) (by decide) (CtrN.pays (own_min l Z a0 hw h89 X89.old (1 : Int32)) (w_70 hw) (w_69 hw) (by decide) (by decide)) (fun v h' L q => ⟨q.2, q.1.1⟩) all0 (fun _ => Mark.stay all0) rfl (by rw [hml]; rfl) (lenOf pd_2 rfl) rfl rfl (by show 2 * 0 + _ ≤ _; exact Nat.le_of_eq rfl) (hb hby d_jdk_65_method_133_24) (by decide) (by decide) ?_
  intro T90 h90 v90 L90 X90 q90 K90
  obtain ⟨⟨-, rfl⟩, -⟩ := q90
  replace V_t := V_t.ext K90.oExt
  replace V_b89 := V_b89.ext K90.oExt
  show Goes _ _ _ _ T90 (mkF m 27 #[.val (.ref t), .val (.int (3 : Int32)), .val (.int (4 : Int32)), .val (.int (1 : Int32)), .val (.ref b89)] [(.int (1 : Int32)), (.int (0 : Int32)), (.ref b89), (.int (3 : Int32)), (.ref t)])
  refine Wk.acopy (hm' := fun _ => h0) X90 (w_122 hw) (w_125 hw) (w_123 hw) (w_124 hw) V_t V_b89 ⟨rfl, rfl⟩ (by decide) (by decide) (by decide) (by decide) (by decide) (us := [(.int (d3.toInt8.toInt32))]) rfl (Nat.le_of_ble_eq_true rfl) gz_b89 (fun _ => Mark.stay (allS gm_b89 all0)) rfl (by rw [hml]; rfl) rfl (hb hby d_jdk_65_method_133_27) (by decide) (W := 0) (by show 2 * 0 + _ ≤ _; exact Nat.le_of_eq rfl) (by decide) ?_
  intro T91 h91 X91 K91 V91
  have V_b89 : Arv Z h91 b89 _ .byte (1 : Int32) [(.int (d3.toInt8.toInt32))] (.int (0 : Int32)) := V91
  show Goes _ _ _ _ T91 (mkF m 30 #[.val (.ref t), .val (.int (3 : Int32)), .val (.int (4 : Int32)), .val (.int (1 : Int32)), .val (.ref b89)] [])
  refine Goes.go (fun _ kS_ => XS.aload X91.here X91.ex rfl (hb hby d_jdk_65_method_133_30) rfl rfl kS_) ?_
  show Goes _ _ _ _ T91 (mkF m 32 #[.val (.ref t), .val (.int (3 : Int32)), .val (.int (4 : Int32)), .val (.int (1 : Int32)), .val (.ref b89)] [(.ref b89)])
  refine Goes.outN X91 (fun q => by rw [hret] at q; cases q) hlk (X91.rA hret rfl rfl (hb hby d_jdk_65_method_133_32)) ?_ (by decide) (by decide)
  exact ⟨Ext.oKeepOf X91.ext [], b89, _, rfl, V_b89, gm_b89⟩
set_option maxRecDepth 65536 in
set_option maxHeartbeats 40000000 in
theorem own_cor43 (l : Launch) (Z : State) (a0 : Array Value) (hw : ∀ d ∈ tables_1, d.before a0 Z = true) (h0 : Heap) (hO : Ext Z.heap h0) (t : Addr) (kb : ClassId) (d0 : Int32) (d1 : Int32) (d2 : Int32) (d3 : Int32) (V_t : Arv Z h0 t kb .byte (4 : Int32) [(.int (d0.toInt8.toInt32)), (.int (d1.toInt8.toInt32)), (.int (d2.toInt8.toInt32)), (.int (d3.toInt8.toInt32))] (.int (0 : Int32))) :
    CtrN l Z (⟨"java/util/Arrays", "copyOfRange", "([BII)[B"⟩ : MethodName) jdk_65_method_132_code 3 (some (.array .byte)) ({ frames := 2, cells := 1, slots := 1, locals := 34 } : Room) #[(.ref t), (.int (3 : Int32)), (.int (4 : Int32))] h0 (fun v h' => Keep h0 h' [] ∧ ∃ u ku, v = some (.ref u) ∧ Arv Z h' u ku .byte (1 : Int32) [(.int (d3.toInt8.toInt32))] (.int (0 : Int32)) ∧ h0.size ≤ u) := by
  refine CtrN.of (plainFor_of_name pn_3) hO ?_
  intro p e s m below meth c T0 X0 hsh hby hml hret hlk hnm
  refine Goes.cast (ef_own_cor43 m t) ?_
  show Goes _ _ _ _ T0 (mkF m 0 #[.val (.ref t), .val (.int (3 : Int32)), .val (.int (4 : Int32))] [])
  refine Goes.go (fun _ kS_ => XS.iloadN X0.here X0.ex rfl (hb hby d_jdk_65_method_132_0) rfl (XS.ifYes X0.here X0.ex rfl (pc0 := 1) (pc' := 10) rfl (hb hby d_jdk_65_method_132_1) rfl ((if0 _ _).trans (cd_t (cd := .ne) (x := (3 : Int32)) (y := (0 : Int32)) (by decide))) (by decide) (by decide) (XS.aloadN X0.here X0.ex rfl (hb hby d_jdk_65_method_132_10) rfl rfl (XS.iloadN X0.here X0.ex rfl (hb hby d_jdk_65_method_132_11) rfl (XS.iloadN X0.here X0.ex rfl (hb hby d_jdk_65_method_132_12) rfl kS_))))) ?_
  show Goes _ _ _ _ T0 (mkF m 13 #[.val (.ref t), .val (.int (3 : Int32)), .val (.int (4 : Int32))] [(.int (4 : Int32)), (.int (3 : Int32)), (.ref t)])
  refine Wk.static (hm' := fun _ => h0) (y := (⟨"java/util/Arrays", "copyOfRangeByte", "([BII)[B"⟩ : MethodName)) (W := 0) (kc := 1) (ks := 1) (argsL := [(.ref t), (.int (3 : Int32)), (.int (4 : Int32))]) (rest := []) (as' := #[(.ref t), (.int (3 : Int32)), (.int (4 : Int32))]) (ws := []) X0 (w_115 hw) (w_116 hw) (w_113 hw) (w_117 hw) (by decide) (CtrN.pays (own_crb43 l Z a0 hw h0 X0.old t kb d0 d1 d2 d3 V_t) (w_117 hw) (w_113 hw) (by decide) (by decide)) (fun v h' L q => ⟨q.2, q.1.1⟩) all0 (fun _ => Mark.stay all0) rfl (by rw [hml]; rfl) (lenOf pd_8 rfl) rfl rfl (by show 2 * 0 + _ ≤ _; exact Nat.le_of_eq rfl) (hb hby d_jdk_65_method_132_13) (by decide) (by decide) ?_
  intro T93 h93 v93 L93 X93 q93 K93
  obtain ⟨⟨-, u93, ku93, rfl, U93, gu93⟩, -⟩ := q93
  show Goes _ _ _ _ T93 (mkF m 16 #[.val (.ref t), .val (.int (3 : Int32)), .val (.int (4 : Int32))] [(.ref u93)])
  refine Goes.outN X93 (fun q => by rw [hret] at q; cases q) hlk (X93.rA hret rfl rfl (hb hby d_jdk_65_method_132_16)) ?_ (by decide) (by decide)
  exact ⟨Ext.oKeepOf X93.ext [], u93, ku93, rfl, U93, gu93⟩
set_option maxRecDepth 65536 in
set_option maxHeartbeats 40000000 in
theorem own_nst43 (l : Launch) (Z : State) (a0 : Array Value) (hw : ∀ d ∈ tables_1, d.before a0 Z = true) (hEL : EW Z a0 consts_1) (h0 : Heap) (hO : Ext Z.heap h0) (t : Addr) (kb : ClassId) (d0 : Int32) (d1 : Int32) (d2 : Int32) (d3 : Int32) (V_t : Arv Z h0 t kb .byte (4 : Int32) [(.int (d0.toInt8.toInt32)), (.int (d1.toInt8.toInt32)), (.int (d2.toInt8.toInt32)), (.int (d3.toInt8.toInt32))] (.int (0 : Int32))) (b0 : ¬ d0 < 0 ∧ ¬ (255 : Int32) < d0) (b1 : ¬ d1 < 0 ∧ ¬ (255 : Int32) < d1) (b2 : ¬ d2 < 0 ∧ ¬ (255 : Int32) < d2) (b3 : ¬ d3 < 0 ∧ ¬ (255 : Int32) < d3) :
    CtrS l Z consts_1 (⟨"java/lang/StringLatin1", "newString", "([BII)Ljava/lang/String;"⟩ : MethodName) jdk_43_method_47_code 3 (some (.object "java/lang/String")) ({ frames := 3, cells := 2, slots := 7, locals := 50 } : Room) #[(.ref t), (.int (3 : Int32)), (.int (1 : Int32))] h0 (fun v h' => Keep h0 h' [] ∧ ∃ a, v = some (.ref a) ∧ LStr Z h' a ([d3] : List Int32)) := by
  refine CtrS.of (plainFor_of_name pn_1) hO ?_
  intro p e s m below meth c T0 X0 hsh hby hml hret hlk hnm
  refine Goes.cast (ef_own_nst43 m t) ?_
  show Goes _ _ _ _ T0 (mkF m 0 #[.val (.ref t), .val (.int (3 : Int32)), .val (.int (1 : Int32))] [])
  refine Goes.go (fun _ kS_ => XS.iloadN X0.here X0.ex rfl (hb hby d_jdk_43_method_47_0) rfl (XS.ifYes X0.here X0.ex rfl (pc0 := 1) (pc' := 7) rfl (hb hby d_jdk_43_method_47_1) rfl ((if0 _ _).trans (cd_t (cd := .ne) (x := (1 : Int32)) (y := (0 : Int32)) (by decide))) (by decide) (by decide) kS_)) ?_
  show Goes _ _ _ _ T0 (mkF m 7 #[.val (.ref t), .val (.int (3 : Int32)), .val (.int (1 : Int32))] [])
  refine Wk.new X0 (w_110 hw) (w_6 hw) (w_7 hw) rfl (hb hby d_jdk_43_method_47_7) (by decide) (by decide) ?_
  intro T97 h97 a97 g97 X97 E97 A97 D97
  have gz_a97 : Z.heap.size ≤ a97 := g97 ▸ X0.old.1
  have gm_a97 : h0.size ≤ a97 := g97 ▸ X0.ext.1
  have F_a97_value : Fld Z h97 a97 "java/lang/String" "value" "[B" .null := D97 (Or.inr (w_21 hw)) (ty := (.array .byte)) (by decide)
  have F_a97_coder : Fld Z h97 a97 "java/lang/String" "coder" "B" (.int (0 : Int32)) := D97 (Or.inr (w_22 hw)) (ty := .byte) (by decide)
  clear D97
  show Goes _ _ _ _ T97 (mkF m 10 #[.val (.ref t), .val (.int (3 : Int32)), .val (.int (1 : Int32))] [(.ref a97)])
  refine Goes.go (fun _ kS_ => XS.dup X97.here X97.ex rfl (hb hby d_jdk_43_method_47_10) rfl rfl (XS.aloadN X97.here X97.ex rfl (hb hby d_jdk_43_method_47_11) rfl rfl (XS.iloadN X97.here X97.ex rfl (hb hby d_jdk_43_method_47_12) rfl (XS.iloadN X97.here X97.ex rfl (hb hby d_jdk_43_method_47_13) rfl (XS.iloadN X97.here X97.ex rfl (hb hby d_jdk_43_method_47_14) rfl (XS.iadd X97.here X97.ex rfl (hb hby d_jdk_43_method_47_15) rfl kS_)))))) ?_
  show Goes _ _ _ _ T97 (mkF m 16 #[.val (.ref t), .val (.int (3 : Int32)), .val (.int (1 : Int32))] [(.int ((3 : Int32) + (1 : Int32))), (.int (3 : Int32)), (.ref t), (.ref a97), (.ref a97)])
  refine Goes.cast (congrArg (fun zq_ => (mkF m 16 #[.val (.ref t), .val (.int (3 : Int32)), .val (.int (1 : Int32))] [(.int zq_), (.int (3 : Int32)), (.ref t), (.ref a97), (.ref a97)])) (show (((3 : Int32) + (1 : Int32)) : Int32) = (4 : Int32) from by decide)) ?_
  show Goes _ _ _ _ T97 (mkF m 16 #[.val (.ref t), .val (.int (3 : Int32)), .val (.int (1 : Int32))] [(.int (4 : Int32)), (.int (3 : Int32)), (.ref t), (.ref a97), (.ref a97)])
  refine Wk.static (hm' := fun _ => h0) (y := (⟨"java/util/Arrays", "copyOfRange", "([BII)[B"⟩ : MethodName)) (W := 2) (kc := 1) (ks := 1) (argsL := [(.ref t), (.int (3 : Int32)), (.int (4 : Int32))]) (rest := [(.ref a97), (.ref a97)]) (as' := #[(.ref t), (.int (3 : Int32)), (.int (4 : Int32))]) (ws := []) X97 (w_111 hw) (w_112 hw) (w_113 hw) (w_114 hw) (by decide) (CtrN.pays (own_cor43 l Z a0 hw h97 X97.old t kb d0 d1 d2 d3 (V_t.ext X97.ext)) (w_114 hw) (w_113 hw) (by decide) (by decide)) (fun v h' L q => ⟨q.2, q.1.1⟩) all0 (fun _ => Mark.stay all0) rfl (by rw [hml]; rfl) (lenOf pd_8 rfl) rfl rfl (by show 2 * 0 + _ ≤ _; exact Nat.le_of_eq rfl) (hb hby d_jdk_43_method_47_16) (by decide) (by decide) ?_
  intro T98 h98 v98 L98 X98 q98 K98
  obtain ⟨⟨-, u98, ku98, rfl, U98, gu98⟩, -⟩ := q98
  replace A97 := A97.ext K98.oExt
  replace F_a97_value := F_a97_value.ext K98.oExt
  replace F_a97_coder := F_a97_coder.ext K98.oExt
  show Goes _ _ _ _ T98 (mkF m 19 #[.val (.ref t), .val (.int (3 : Int32)), .val (.int (1 : Int32))] [(.ref u98), (.ref a97), (.ref a97)])
  refine Goes.go (fun _ kS_ => XS.iconst X98.here X98.ex rfl (hb hby d_jdk_43_method_47_19) kS_) ?_
  show Goes _ _ _ _ T98 (mkF m 20 #[.val (.ref t), .val (.int (3 : Int32)), .val (.int (1 : Int32))] [(.int (0 : Int32)), (.ref u98), (.ref a97), (.ref a97)])
  refine Wk.special (hm' := fun _ => h0) (y := (⟨"java/lang/String", "<init>", "([BB)V"⟩ : MethodName)) (W := 1) (kc := 0) (ks := 0) (argsL := [(.ref u98), (.int (0 : Int32))]) (rest := [(.ref a97)]) (as' := #[(.ref a97), (.ref u98), (.int (0 : Int32))]) (ws := [a97]) X98 rfl (w_126 hw) (w_127 hw) (w_128 hw) (by decide) (CtrN.pays (own_newB l Z a0 hw h98 X98.old a97 u98 A97 F_a97_value F_a97_coder gz_a97) (w_128 hw) (w_7 hw) (by decide) (by decide)) (fun v h' L q => ⟨q.2, q.1.1⟩) (allS gz_a97 all0) (fun _ => Mark.stay (allS gm_a97 all0)) rfl (by rw [hml]; rfl) (lenOf pd_9 rfl) rfl rfl (by show 2 * 0 + _ ≤ _; exact Nat.le_of_eq rfl) (hb hby d_jdk_43_method_47_20) (by decide) (by decide) ?_
  intro T99 h99 v99 L99 X99 q99 K99
  obtain ⟨⟨-, rfl, Es99, Vs99, Cs99⟩, -⟩ := q99
  show Goes _ _ _ _ T99 (mkF m 23 #[.val (.ref t), .val (.int (3 : Int32)), .val (.int (1 : Int32))] [(.ref a97)])
  have nt : u98 ∉ [a97] := ninS (Exa.neArv A97 U98 (w_6 hw)).symm nin0
  replace U98 := U98.keep K99 nt
  have hpp : ∀ c ∈ ([d3] : List Int32), ¬ c < 0 ∧ ¬ (255 : Int32) < c := by
      intro c hc
      simp only [List.mem_cons, List.not_mem_nil, or_false] at hc
      rcases hc with rfl
      · exact b3
  refine Goes.outS X99 hEL (fun q => by rw [hret] at q; cases q) hlk (X99.rA hret rfl rfl (hb hby d_jdk_43_method_47_23)) ?_ (by decide) (by decide)
  exact ⟨Ext.oKeepOf X99.ext [], a97, rfl, Es99, Cs99, ⟨_, _, Vs99, U98⟩, hpp, Nat.le_of_ble_eq_true rfl⟩
set_option maxRecDepth 65536 in
set_option maxHeartbeats 40000000 in
theorem own_nst44 (l : Launch) (Z : State) (a0 : Array Value) (hw : ∀ d ∈ tables_1, d.before a0 Z = true) (hEL : EW Z a0 consts_1) (h0 : Heap) (hO : Ext Z.heap h0) (t : Addr) (kb : ClassId) (d0 : Int32) (d1 : Int32) (d2 : Int32) (d3 : Int32) (V_t : Arv Z h0 t kb .byte (4 : Int32) [(.int (d0.toInt8.toInt32)), (.int (d1.toInt8.toInt32)), (.int (d2.toInt8.toInt32)), (.int (d3.toInt8.toInt32))] (.int (0 : Int32))) (b0 : ¬ d0 < 0 ∧ ¬ (255 : Int32) < d0) (b1 : ¬ d1 < 0 ∧ ¬ (255 : Int32) < d1) (b2 : ¬ d2 < 0 ∧ ¬ (255 : Int32) < d2) (b3 : ¬ d3 < 0 ∧ ¬ (255 : Int32) < d3) :
    CtrS l Z consts_1 (⟨"java/lang/StringLatin1", "newString", "([BII)Ljava/lang/String;"⟩ : MethodName) jdk_43_method_47_code 3 (some (.object "java/lang/String")) ({ frames := 3, cells := 2, slots := 7, locals := 50 } : Room) #[(.ref t), (.int (4 : Int32)), (.int (0 : Int32))] h0 (fun v h' => Keep h0 h' [] ∧ ∃ a, v = some (.ref a) ∧ LStr Z h' a ([] : List Int32)) := by
  refine CtrS.of (plainFor_of_name pn_1) hO ?_
  intro p e s m below meth c T0 X0 hsh hby hml hret hlk hnm
  refine Goes.cast (ef_own_nst44 m t) ?_
  show Goes _ _ _ _ T0 (mkF m 0 #[.val (.ref t), .val (.int (4 : Int32)), .val (.int (0 : Int32))] [])
  refine Goes.go (fun _ kS_ => XS.iloadN X0.here X0.ex rfl (hb hby d_jdk_43_method_47_0) rfl (XS.ifNo X0.here X0.ex rfl (hb hby d_jdk_43_method_47_1) rfl ((if0 _ _).trans (cd_f (cd := .ne) (x := (0 : Int32)) (y := (0 : Int32)) (by decide))) kS_)) ?_
  show Goes _ _ _ _ T0 (mkF m 4 #[.val (.ref t), .val (.int (4 : Int32)), .val (.int (0 : Int32))] [])
  refine Wk.ldcR X0 (w_108 hw) (own_wS hw) hEL (by decide) (vs := []) (z := 0) ⟨by decide, rfl⟩ (by decide) rfl rfl (hb hby d_jdk_43_method_47_4) (n := 0) (by decide) (by decide) (by decide) (by decide) ?_
  intro T101 h101 a101 b101 k101 X101 E101 Ea101 Ca101 Va101 Ab101
  have S_a101 : LStr Z h101 a101 ([] : List Int32) := ⟨Ea101, Ca101, ⟨_, _, Va101, Ab101⟩, (fun _ q => nomatch q), Nat.le_of_ble_eq_true rfl⟩
  show Goes _ _ _ _ T101 (mkF m 6 #[.val (.ref t), .val (.int (4 : Int32)), .val (.int (0 : Int32))] [(.ref a101)])
  refine Goes.outS X101 hEL (fun q => by rw [hret] at q; cases q) hlk (X101.rA hret rfl rfl (hb hby d_jdk_43_method_47_6)) ?_ (by decide) (by decide)
  exact ⟨Ext.oKeepOf E101 [], a101, rfl, S_a101⟩
set_option maxRecDepth 65536 in
set_option maxHeartbeats 40000000 in
theorem own_crb31 (l : Launch) (Z : State) (a0 : Array Value) (hw : ∀ d ∈ tables_1, d.before a0 Z = true) (h0 : Heap) (hO : Ext Z.heap h0) (t : Addr) (kb : ClassId) (d0 : Int32) (d1 : Int32) (d2 : Int32) (V_t : Arv Z h0 t kb .byte (3 : Int32) [(.int (d0.toInt8.toInt32)), (.int (d1.toInt8.toInt32)), (.int (d2.toInt8.toInt32))] (.int (0 : Int32))) :
    CtrN l Z (⟨"java/util/Arrays", "copyOfRangeByte", "([BII)[B"⟩ : MethodName) jdk_65_method_133_code 5 (some (.array .byte)) ({ frames := 1, cells := 1, slots := 2, locals := 18 } : Room) #[(.ref t), (.int (1 : Int32)), (.int (3 : Int32))] h0 (fun v h' => Keep h0 h' [] ∧ ∃ u ku, v = some (.ref u) ∧ Arv Z h' u ku .byte (2 : Int32) [(.int (d1.toInt8.toInt32)), (.int (d2.toInt8.toInt32))] (.int (0 : Int32)) ∧ h0.size ≤ u) := by
  refine CtrN.of (plainFor_of_name pn_3) hO ?_
  intro p e s m below meth c T0 X0 hsh hby hml hret hlk hnm
  refine Goes.cast (ef_own_crb31 m t) ?_
  show Goes _ _ _ _ T0 (mkF m 0 #[.val (.ref t), .val (.int (1 : Int32)), .val (.int (3 : Int32)), .unset, .unset] [])
  refine Goes.go (fun _ kS_ => XS.iloadN X0.here X0.ex rfl (hb hby d_jdk_65_method_133_0) rfl (XS.iloadN X0.here X0.ex rfl (hb hby d_jdk_65_method_133_1) rfl kS_)) ?_
  show Goes _ _ _ _ T0 (mkF m 2 #[.val (.ref t), .val (.int (1 : Int32)), .val (.int (3 : Int32)), .unset, .unset] [(.int (3 : Int32)), (.int (1 : Int32))])
  refine Wk.static (hm' := fun _ => h0) (y := (⟨"java/util/Arrays", "checkLength", "(II)V"⟩ : MethodName)) (W := 0) (kc := 0) (ks := 0) (argsL := [(.int (1 : Int32)), (.int (3 : Int32))]) (rest := []) (as' := #[(.int (1 : Int32)), (.int (3 : Int32))]) (ws := []) X0 (w_118 hw) (w_119 hw) (w_113 hw) (w_120 hw) (by decide) (CtrN.pays (own_chl l Z a0 hw h0 X0.old (1 : Int32) (3 : Int32) (by decide)) (w_120 hw) (w_113 hw) (by decide) (by decide)) (fun v h' L q => ⟨q.2, q.1.1⟩) all0 (fun _ => Mark.stay all0) rfl (by rw [hml]; rfl) (lenOf pd_7 rfl) rfl rfl (by show 2 * 0 + _ ≤ _; exact Nat.le_of_eq rfl) (hb hby d_jdk_65_method_133_2) (by decide) (by decide) ?_
  intro T106 h106 v106 L106 X106 q106 K106
  obtain ⟨⟨-, rfl⟩, -⟩ := q106
  replace V_t := V_t.ext K106.oExt
  show Goes _ _ _ _ T106 (mkF m 5 #[.val (.ref t), .val (.int (1 : Int32)), .val (.int (3 : Int32)), .unset, .unset] [])
  refine Goes.go (fun _ kS_ => XS.iloadN X106.here X106.ex rfl (hb hby d_jdk_65_method_133_5) rfl (XS.iloadN X106.here X106.ex rfl (hb hby d_jdk_65_method_133_6) rfl (XS.isub X106.here X106.ex rfl (hb hby d_jdk_65_method_133_7) rfl kS_))) ?_
  show Goes _ _ _ _ T106 (mkF m 8 #[.val (.ref t), .val (.int (1 : Int32)), .val (.int (3 : Int32)), .unset, .unset] [(.int ((3 : Int32) - (1 : Int32)))])
  refine Goes.cast (congrArg (fun zq_ => (mkF m 8 #[.val (.ref t), .val (.int (1 : Int32)), .val (.int (3 : Int32)), .unset, .unset] [(.int zq_)])) (show (((3 : Int32) - (1 : Int32)) : Int32) = (2 : Int32) from by decide)) ?_
  show Goes _ _ _ _ T106 (mkF m 8 #[.val (.ref t), .val (.int (1 : Int32)), .val (.int (3 : Int32)), .unset, .unset] [(.int (2 : Int32))])
  refine Goes.go (fun _ kS_ => XS.istoreN X106.here X106.ex rfl (hb hby d_jdk_65_method_133_8) rfl (l' := #[.val (.ref t), .val (.int (1 : Int32)), .val (.int (3 : Int32)), .val (.int (2 : Int32)), .unset]) rfl (XS.iloadN X106.here X106.ex rfl (hb hby d_jdk_65_method_133_9) rfl kS_)) ?_
  show Goes _ _ _ _ T106 (mkF m 10 #[.val (.ref t), .val (.int (1 : Int32)), .val (.int (3 : Int32)), .val (.int (2 : Int32)), .unset] [(.int (2 : Int32))])
  refine Wk.newA (aty := .byte) X106 (w_20 hw) rfl (hb hby d_jdk_65_method_133_10) rfl (by decide) (cap := 2) (by decide) (by decide) (by decide) (by decide) ?_
  intro T107 h107 b107 k107 g107 X107 E107 A107 B_b107
  have lt_t_b107 : t < b107 := by rw [g107]; exact V_t.lt
  replace V_t := V_t.ext E107
  have V_b107 : Arv Z h107 b107 k107 .byte (2 : Int32) [(.int (0 : Int32)), (.int (0 : Int32))] (.int (0 : Int32)) := A107.pad (pad_rep [] (.int (0 : Int32)) 2)
  have gz_b107 : Z.heap.size ≤ b107 := g107 ▸ X106.old.1
  have gm_b107 : h0.size ≤ b107 := g107 ▸ X106.ext.1
  show Goes _ _ _ _ T107 (mkF m 12 #[.val (.ref t), .val (.int (1 : Int32)), .val (.int (3 : Int32)), .val (.int (2 : Int32)), .unset] [(.ref b107)])
  refine Goes.go (fun _ kS_ => XS.astore X107.here X107.ex rfl (hb hby d_jdk_65_method_133_12) rfl rfl (l' := #[.val (.ref t), .val (.int (1 : Int32)), .val (.int (3 : Int32)), .val (.int (2 : Int32)), .val (.ref b107)]) rfl (XS.aloadN X107.here X107.ex rfl (hb hby d_jdk_65_method_133_14) rfl rfl (XS.iloadN X107.here X107.ex rfl (hb hby d_jdk_65_method_133_15) rfl (XS.aload X107.here X107.ex rfl (hb hby d_jdk_65_method_133_16) rfl rfl (XS.iconst X107.here X107.ex rfl (hb hby d_jdk_65_method_133_18) (XS.aloadN X107.here X107.ex rfl (hb hby d_jdk_65_method_133_19) rfl rfl kS_)))))) ?_
  show Goes _ _ _ _ T107 (mkF m 20 #[.val (.ref t), .val (.int (1 : Int32)), .val (.int (3 : Int32)), .val (.int (2 : Int32)), .val (.ref b107)] [(.ref t), (.int (0 : Int32)), (.ref b107), (.int (1 : Int32)), (.ref t)])
  refine Goes.go (X107.alen V_t rfl rfl (hb hby d_jdk_65_method_133_20)) ?_
  show Goes _ _ _ _ T107 (mkF m 21 #[.val (.ref t), .val (.int (1 : Int32)), .val (.int (3 : Int32)), .val (.int (2 : Int32)), .val (.ref b107)] [(.int (3 : Int32)), (.int (0 : Int32)), (.ref b107), (.int (1 : Int32)), (.ref t)])
  refine Goes.go (fun _ kS_ => XS.iloadN X107.here X107.ex rfl (hb hby d_jdk_65_method_133_21) rfl (XS.isub X107.here X107.ex rfl (hb hby d_jdk_65_method_133_22) rfl kS_)) ?_
  show Goes _ _ _ _ T107 (mkF m 23 #[.val (.ref t), .val (.int (1 : Int32)), .val (.int (3 : Int32)), .val (.int (2 : Int32)), .val (.ref b107)] [(.int ((3 : Int32) - (1 : Int32))), (.int (0 : Int32)), (.ref b107), (.int (1 : Int32)), (.ref t)])
  refine Goes.cast (congrArg (fun zq_ => (mkF m 23 #[.val (.ref t), .val (.int (1 : Int32)), .val (.int (3 : Int32)), .val (.int (2 : Int32)), .val (.ref b107)] [(.int zq_), (.int (0 : Int32)), (.ref b107), (.int (1 : Int32)), (.ref t)])) (show (((3 : Int32) - (1 : Int32)) : Int32) = (2 : Int32) from by decide)) ?_
  show Goes _ _ _ _ T107 (mkF m 23 #[.val (.ref t), .val (.int (1 : Int32)), .val (.int (3 : Int32)), .val (.int (2 : Int32)), .val (.ref b107)] [(.int (2 : Int32)), (.int (0 : Int32)), (.ref b107), (.int (1 : Int32)), (.ref t)])
  refine Goes.go (fun _ kS_ => XS.iloadN X107.here X107.ex rfl (hb hby d_jdk_65_method_133_23) rfl kS_) ?_
  show Goes _ _ _ _ T107 (mkF m 24 #[.val (.ref t), .val (.int (1 : Int32)), .val (.int (3 : Int32)), .val (.int (2 : Int32)), .val (.ref b107)] [(.int (2 : Int32)), (.int (2 : Int32)), (.int (0 : Int32)), (.ref b107), (.int (1 : Int32)), (.ref t)])
  refine Wk.static (hm' := fun _ => h0) (y := (⟨"java/lang/Math", "min", "(II)I"⟩ : MethodName)) (W := 4) (kc := 0) (ks := 0) (argsL := [(.int (2 : Int32)), (.int (2 : Int32))]) (rest := [(.int (0 : Int32)), (.ref b107), (.int (1 : Int32)), (.ref t)]) (as' := #[(.int (2 : Int32)), (.int (2 : Int32))]) (ws := []) X107 (w_121 hw) (w_68 hw) (w_69 hw) (w_70 hw) (by decide) (CtrN.pays (own_min l Z a0 hw h107 X107.old (2 : Int32)) (w_70 hw) (w_69 hw) (by decide) (by decide)) (fun v h' L q => ⟨q.2, q.1.1⟩) all0 (fun _ => Mark.stay all0) rfl (by rw [hml]; rfl) (lenOf pd_2 rfl) rfl rfl (by show 2 * 0 + _ ≤ _; exact Nat.le_of_eq rfl) (hb hby d_jdk_65_method_133_24) (by decide) (by decide) ?_
  intro T108 h108 v108 L108 X108 q108 K108
  obtain ⟨⟨-, rfl⟩, -⟩ := q108
  replace V_t := V_t.ext K108.oExt
  replace V_b107 := V_b107.ext K108.oExt
  show Goes _ _ _ _ T108 (mkF m 27 #[.val (.ref t), .val (.int (1 : Int32)), .val (.int (3 : Int32)), .val (.int (2 : Int32)), .val (.ref b107)] [(.int (2 : Int32)), (.int (0 : Int32)), (.ref b107), (.int (1 : Int32)), (.ref t)])
  refine Wk.acopy (hm' := fun _ => h0) X108 (w_122 hw) (w_125 hw) (w_123 hw) (w_124 hw) V_t V_b107 ⟨rfl, rfl⟩ (by decide) (by decide) (by decide) (by decide) (by decide) (us := [(.int (d1.toInt8.toInt32)), (.int (d2.toInt8.toInt32))]) rfl (Nat.le_of_ble_eq_true rfl) gz_b107 (fun _ => Mark.stay (allS gm_b107 all0)) rfl (by rw [hml]; rfl) rfl (hb hby d_jdk_65_method_133_27) (by decide) (W := 0) (by show 2 * 0 + _ ≤ _; exact Nat.le_of_eq rfl) (by decide) ?_
  intro T109 h109 X109 K109 V109
  have V_b107 : Arv Z h109 b107 _ .byte (2 : Int32) [(.int (d1.toInt8.toInt32)), (.int (d2.toInt8.toInt32))] (.int (0 : Int32)) := V109
  show Goes _ _ _ _ T109 (mkF m 30 #[.val (.ref t), .val (.int (1 : Int32)), .val (.int (3 : Int32)), .val (.int (2 : Int32)), .val (.ref b107)] [])
  refine Goes.go (fun _ kS_ => XS.aload X109.here X109.ex rfl (hb hby d_jdk_65_method_133_30) rfl rfl kS_) ?_
  show Goes _ _ _ _ T109 (mkF m 32 #[.val (.ref t), .val (.int (1 : Int32)), .val (.int (3 : Int32)), .val (.int (2 : Int32)), .val (.ref b107)] [(.ref b107)])
  refine Goes.outN X109 (fun q => by rw [hret] at q; cases q) hlk (X109.rA hret rfl rfl (hb hby d_jdk_65_method_133_32)) ?_ (by decide) (by decide)
  exact ⟨Ext.oKeepOf X109.ext [], b107, _, rfl, V_b107, gm_b107⟩
set_option maxRecDepth 65536 in
set_option maxHeartbeats 40000000 in
theorem own_cor31 (l : Launch) (Z : State) (a0 : Array Value) (hw : ∀ d ∈ tables_1, d.before a0 Z = true) (h0 : Heap) (hO : Ext Z.heap h0) (t : Addr) (kb : ClassId) (d0 : Int32) (d1 : Int32) (d2 : Int32) (V_t : Arv Z h0 t kb .byte (3 : Int32) [(.int (d0.toInt8.toInt32)), (.int (d1.toInt8.toInt32)), (.int (d2.toInt8.toInt32))] (.int (0 : Int32))) :
    CtrN l Z (⟨"java/util/Arrays", "copyOfRange", "([BII)[B"⟩ : MethodName) jdk_65_method_132_code 3 (some (.array .byte)) ({ frames := 2, cells := 1, slots := 2, locals := 34 } : Room) #[(.ref t), (.int (1 : Int32)), (.int (3 : Int32))] h0 (fun v h' => Keep h0 h' [] ∧ ∃ u ku, v = some (.ref u) ∧ Arv Z h' u ku .byte (2 : Int32) [(.int (d1.toInt8.toInt32)), (.int (d2.toInt8.toInt32))] (.int (0 : Int32)) ∧ h0.size ≤ u) := by
  refine CtrN.of (plainFor_of_name pn_3) hO ?_
  intro p e s m below meth c T0 X0 hsh hby hml hret hlk hnm
  refine Goes.cast (ef_own_cor31 m t) ?_
  show Goes _ _ _ _ T0 (mkF m 0 #[.val (.ref t), .val (.int (1 : Int32)), .val (.int (3 : Int32))] [])
  refine Goes.go (fun _ kS_ => XS.iloadN X0.here X0.ex rfl (hb hby d_jdk_65_method_132_0) rfl (XS.ifYes X0.here X0.ex rfl (pc0 := 1) (pc' := 10) rfl (hb hby d_jdk_65_method_132_1) rfl ((if0 _ _).trans (cd_t (cd := .ne) (x := (1 : Int32)) (y := (0 : Int32)) (by decide))) (by decide) (by decide) (XS.aloadN X0.here X0.ex rfl (hb hby d_jdk_65_method_132_10) rfl rfl (XS.iloadN X0.here X0.ex rfl (hb hby d_jdk_65_method_132_11) rfl (XS.iloadN X0.here X0.ex rfl (hb hby d_jdk_65_method_132_12) rfl kS_))))) ?_
  show Goes _ _ _ _ T0 (mkF m 13 #[.val (.ref t), .val (.int (1 : Int32)), .val (.int (3 : Int32))] [(.int (3 : Int32)), (.int (1 : Int32)), (.ref t)])
  refine Wk.static (hm' := fun _ => h0) (y := (⟨"java/util/Arrays", "copyOfRangeByte", "([BII)[B"⟩ : MethodName)) (W := 0) (kc := 1) (ks := 2) (argsL := [(.ref t), (.int (1 : Int32)), (.int (3 : Int32))]) (rest := []) (as' := #[(.ref t), (.int (1 : Int32)), (.int (3 : Int32))]) (ws := []) X0 (w_115 hw) (w_116 hw) (w_113 hw) (w_117 hw) (by decide) (CtrN.pays (own_crb31 l Z a0 hw h0 X0.old t kb d0 d1 d2 V_t) (w_117 hw) (w_113 hw) (by decide) (by decide)) (fun v h' L q => ⟨q.2, q.1.1⟩) all0 (fun _ => Mark.stay all0) rfl (by rw [hml]; rfl) (lenOf pd_8 rfl) rfl rfl (by show 2 * 0 + _ ≤ _; exact Nat.le_of_eq rfl) (hb hby d_jdk_65_method_132_13) (by decide) (by decide) ?_
  intro T111 h111 v111 L111 X111 q111 K111
  obtain ⟨⟨-, u111, ku111, rfl, U111, gu111⟩, -⟩ := q111
  show Goes _ _ _ _ T111 (mkF m 16 #[.val (.ref t), .val (.int (1 : Int32)), .val (.int (3 : Int32))] [(.ref u111)])
  refine Goes.outN X111 (fun q => by rw [hret] at q; cases q) hlk (X111.rA hret rfl rfl (hb hby d_jdk_65_method_132_16)) ?_ (by decide) (by decide)
  exact ⟨Ext.oKeepOf X111.ext [], u111, ku111, rfl, U111, gu111⟩
set_option maxRecDepth 65536 in
set_option maxHeartbeats 40000000 in
theorem own_nst31 (l : Launch) (Z : State) (a0 : Array Value) (hw : ∀ d ∈ tables_1, d.before a0 Z = true) (hEL : EW Z a0 consts_1) (h0 : Heap) (hO : Ext Z.heap h0) (t : Addr) (kb : ClassId) (d0 : Int32) (d1 : Int32) (d2 : Int32) (V_t : Arv Z h0 t kb .byte (3 : Int32) [(.int (d0.toInt8.toInt32)), (.int (d1.toInt8.toInt32)), (.int (d2.toInt8.toInt32))] (.int (0 : Int32))) (b0 : ¬ d0 < 0 ∧ ¬ (255 : Int32) < d0) (b1 : ¬ d1 < 0 ∧ ¬ (255 : Int32) < d1) (b2 : ¬ d2 < 0 ∧ ¬ (255 : Int32) < d2) :
    CtrS l Z consts_1 (⟨"java/lang/StringLatin1", "newString", "([BII)Ljava/lang/String;"⟩ : MethodName) jdk_43_method_47_code 3 (some (.object "java/lang/String")) ({ frames := 3, cells := 2, slots := 7, locals := 50 } : Room) #[(.ref t), (.int (1 : Int32)), (.int (2 : Int32))] h0 (fun v h' => Keep h0 h' [] ∧ ∃ a, v = some (.ref a) ∧ LStr Z h' a ([d1, d2] : List Int32)) := by
  refine CtrS.of (plainFor_of_name pn_1) hO ?_
  intro p e s m below meth c T0 X0 hsh hby hml hret hlk hnm
  refine Goes.cast (ef_own_nst31 m t) ?_
  show Goes _ _ _ _ T0 (mkF m 0 #[.val (.ref t), .val (.int (1 : Int32)), .val (.int (2 : Int32))] [])
  refine Goes.go (fun _ kS_ => XS.iloadN X0.here X0.ex rfl (hb hby d_jdk_43_method_47_0) rfl (XS.ifYes X0.here X0.ex rfl (pc0 := 1) (pc' := 7) rfl (hb hby d_jdk_43_method_47_1) rfl ((if0 _ _).trans (cd_t (cd := .ne) (x := (2 : Int32)) (y := (0 : Int32)) (by decide))) (by decide) (by decide) kS_)) ?_
  show Goes _ _ _ _ T0 (mkF m 7 #[.val (.ref t), .val (.int (1 : Int32)), .val (.int (2 : Int32))] [])
  refine Wk.new X0 (w_110 hw) (w_6 hw) (w_7 hw) rfl (hb hby d_jdk_43_method_47_7) (by decide) (by decide) ?_
  intro T115 h115 a115 g115 X115 E115 A115 D115
  have gz_a115 : Z.heap.size ≤ a115 := g115 ▸ X0.old.1
  have gm_a115 : h0.size ≤ a115 := g115 ▸ X0.ext.1
  have F_a115_value : Fld Z h115 a115 "java/lang/String" "value" "[B" .null := D115 (Or.inr (w_21 hw)) (ty := (.array .byte)) (by decide)
  have F_a115_coder : Fld Z h115 a115 "java/lang/String" "coder" "B" (.int (0 : Int32)) := D115 (Or.inr (w_22 hw)) (ty := .byte) (by decide)
  clear D115
  show Goes _ _ _ _ T115 (mkF m 10 #[.val (.ref t), .val (.int (1 : Int32)), .val (.int (2 : Int32))] [(.ref a115)])
  refine Goes.go (fun _ kS_ => XS.dup X115.here X115.ex rfl (hb hby d_jdk_43_method_47_10) rfl rfl (XS.aloadN X115.here X115.ex rfl (hb hby d_jdk_43_method_47_11) rfl rfl (XS.iloadN X115.here X115.ex rfl (hb hby d_jdk_43_method_47_12) rfl (XS.iloadN X115.here X115.ex rfl (hb hby d_jdk_43_method_47_13) rfl (XS.iloadN X115.here X115.ex rfl (hb hby d_jdk_43_method_47_14) rfl (XS.iadd X115.here X115.ex rfl (hb hby d_jdk_43_method_47_15) rfl kS_)))))) ?_
  show Goes _ _ _ _ T115 (mkF m 16 #[.val (.ref t), .val (.int (1 : Int32)), .val (.int (2 : Int32))] [(.int ((1 : Int32) + (2 : Int32))), (.int (1 : Int32)), (.ref t), (.ref a115), (.ref a115)])
  refine Goes.cast (congrArg (fun zq_ => (mkF m 16 #[.val (.ref t), .val (.int (1 : Int32)), .val (.int (2 : Int32))] [(.int zq_), (.int (1 : Int32)), (.ref t), (.ref a115), (.ref a115)])) (show (((1 : Int32) + (2 : Int32)) : Int32) = (3 : Int32) from by decide)) ?_
  show Goes _ _ _ _ T115 (mkF m 16 #[.val (.ref t), .val (.int (1 : Int32)), .val (.int (2 : Int32))] [(.int (3 : Int32)), (.int (1 : Int32)), (.ref t), (.ref a115), (.ref a115)])
  refine Wk.static (hm' := fun _ => h0) (y := (⟨"java/util/Arrays", "copyOfRange", "([BII)[B"⟩ : MethodName)) (W := 2) (kc := 1) (ks := 2) (argsL := [(.ref t), (.int (1 : Int32)), (.int (3 : Int32))]) (rest := [(.ref a115), (.ref a115)]) (as' := #[(.ref t), (.int (1 : Int32)), (.int (3 : Int32))]) (ws := []) X115 (w_111 hw) (w_112 hw) (w_113 hw) (w_114 hw) (by decide) (CtrN.pays (own_cor31 l Z a0 hw h115 X115.old t kb d0 d1 d2 (V_t.ext X115.ext)) (w_114 hw) (w_113 hw) (by decide) (by decide)) (fun v h' L q => ⟨q.2, q.1.1⟩) all0 (fun _ => Mark.stay all0) rfl (by rw [hml]; rfl) (lenOf pd_8 rfl) rfl rfl (by show 2 * 0 + _ ≤ _; exact Nat.le_of_eq rfl) (hb hby d_jdk_43_method_47_16) (by decide) (by decide) ?_
  intro T116 h116 v116 L116 X116 q116 K116
  obtain ⟨⟨-, u116, ku116, rfl, U116, gu116⟩, -⟩ := q116
  replace A115 := A115.ext K116.oExt
  replace F_a115_value := F_a115_value.ext K116.oExt
  replace F_a115_coder := F_a115_coder.ext K116.oExt
  show Goes _ _ _ _ T116 (mkF m 19 #[.val (.ref t), .val (.int (1 : Int32)), .val (.int (2 : Int32))] [(.ref u116), (.ref a115), (.ref a115)])
  refine Goes.go (fun _ kS_ => XS.iconst X116.here X116.ex rfl (hb hby d_jdk_43_method_47_19) kS_) ?_
  show Goes _ _ _ _ T116 (mkF m 20 #[.val (.ref t), .val (.int (1 : Int32)), .val (.int (2 : Int32))] [(.int (0 : Int32)), (.ref u116), (.ref a115), (.ref a115)])
  refine Wk.special (hm' := fun _ => h0) (y := (⟨"java/lang/String", "<init>", "([BB)V"⟩ : MethodName)) (W := 1) (kc := 0) (ks := 0) (argsL := [(.ref u116), (.int (0 : Int32))]) (rest := [(.ref a115)]) (as' := #[(.ref a115), (.ref u116), (.int (0 : Int32))]) (ws := [a115]) X116 rfl (w_126 hw) (w_127 hw) (w_128 hw) (by decide) (CtrN.pays (own_newB l Z a0 hw h116 X116.old a115 u116 A115 F_a115_value F_a115_coder gz_a115) (w_128 hw) (w_7 hw) (by decide) (by decide)) (fun v h' L q => ⟨q.2, q.1.1⟩) (allS gz_a115 all0) (fun _ => Mark.stay (allS gm_a115 all0)) rfl (by rw [hml]; rfl) (lenOf pd_9 rfl) rfl rfl (by show 2 * 0 + _ ≤ _; exact Nat.le_of_eq rfl) (hb hby d_jdk_43_method_47_20) (by decide) (by decide) ?_
  intro T117 h117 v117 L117 X117 q117 K117
  obtain ⟨⟨-, rfl, Es117, Vs117, Cs117⟩, -⟩ := q117
  show Goes _ _ _ _ T117 (mkF m 23 #[.val (.ref t), .val (.int (1 : Int32)), .val (.int (2 : Int32))] [(.ref a115)])
  have nt : u116 ∉ [a115] := ninS (Exa.neArv A115 U116 (w_6 hw)).symm nin0
  replace U116 := U116.keep K117 nt
  have hpp : ∀ c ∈ ([d1, d2] : List Int32), ¬ c < 0 ∧ ¬ (255 : Int32) < c := by
      intro c hc
      simp only [List.mem_cons, List.not_mem_nil, or_false] at hc
      rcases hc with rfl | rfl
      · exact b1
      · exact b2
  refine Goes.outS X117 hEL (fun q => by rw [hret] at q; cases q) hlk (X117.rA hret rfl rfl (hb hby d_jdk_43_method_47_23)) ?_ (by decide) (by decide)
  exact ⟨Ext.oKeepOf X117.ext [], a115, rfl, Es117, Cs117, ⟨_, _, Vs117, U116⟩, hpp, Nat.le_of_ble_eq_true rfl⟩
set_option maxRecDepth 65536 in
set_option maxHeartbeats 40000000 in
theorem own_crb32 (l : Launch) (Z : State) (a0 : Array Value) (hw : ∀ d ∈ tables_1, d.before a0 Z = true) (h0 : Heap) (hO : Ext Z.heap h0) (t : Addr) (kb : ClassId) (d0 : Int32) (d1 : Int32) (d2 : Int32) (V_t : Arv Z h0 t kb .byte (3 : Int32) [(.int (d0.toInt8.toInt32)), (.int (d1.toInt8.toInt32)), (.int (d2.toInt8.toInt32))] (.int (0 : Int32))) :
    CtrN l Z (⟨"java/util/Arrays", "copyOfRangeByte", "([BII)[B"⟩ : MethodName) jdk_65_method_133_code 5 (some (.array .byte)) ({ frames := 1, cells := 1, slots := 1, locals := 18 } : Room) #[(.ref t), (.int (2 : Int32)), (.int (3 : Int32))] h0 (fun v h' => Keep h0 h' [] ∧ ∃ u ku, v = some (.ref u) ∧ Arv Z h' u ku .byte (1 : Int32) [(.int (d2.toInt8.toInt32))] (.int (0 : Int32)) ∧ h0.size ≤ u) := by
  refine CtrN.of (plainFor_of_name pn_3) hO ?_
  intro p e s m below meth c T0 X0 hsh hby hml hret hlk hnm
  refine Goes.cast (ef_own_crb32 m t) ?_
  show Goes _ _ _ _ T0 (mkF m 0 #[.val (.ref t), .val (.int (2 : Int32)), .val (.int (3 : Int32)), .unset, .unset] [])
  refine Goes.go (fun _ kS_ => XS.iloadN X0.here X0.ex rfl (hb hby d_jdk_65_method_133_0) rfl (XS.iloadN X0.here X0.ex rfl (hb hby d_jdk_65_method_133_1) rfl kS_)) ?_
  show Goes _ _ _ _ T0 (mkF m 2 #[.val (.ref t), .val (.int (2 : Int32)), .val (.int (3 : Int32)), .unset, .unset] [(.int (3 : Int32)), (.int (2 : Int32))])
  refine Wk.static (hm' := fun _ => h0) (y := (⟨"java/util/Arrays", "checkLength", "(II)V"⟩ : MethodName)) (W := 0) (kc := 0) (ks := 0) (argsL := [(.int (2 : Int32)), (.int (3 : Int32))]) (rest := []) (as' := #[(.int (2 : Int32)), (.int (3 : Int32))]) (ws := []) X0 (w_118 hw) (w_119 hw) (w_113 hw) (w_120 hw) (by decide) (CtrN.pays (own_chl l Z a0 hw h0 X0.old (2 : Int32) (3 : Int32) (by decide)) (w_120 hw) (w_113 hw) (by decide) (by decide)) (fun v h' L q => ⟨q.2, q.1.1⟩) all0 (fun _ => Mark.stay all0) rfl (by rw [hml]; rfl) (lenOf pd_7 rfl) rfl rfl (by show 2 * 0 + _ ≤ _; exact Nat.le_of_eq rfl) (hb hby d_jdk_65_method_133_2) (by decide) (by decide) ?_
  intro T122 h122 v122 L122 X122 q122 K122
  obtain ⟨⟨-, rfl⟩, -⟩ := q122
  replace V_t := V_t.ext K122.oExt
  show Goes _ _ _ _ T122 (mkF m 5 #[.val (.ref t), .val (.int (2 : Int32)), .val (.int (3 : Int32)), .unset, .unset] [])
  refine Goes.go (fun _ kS_ => XS.iloadN X122.here X122.ex rfl (hb hby d_jdk_65_method_133_5) rfl (XS.iloadN X122.here X122.ex rfl (hb hby d_jdk_65_method_133_6) rfl (XS.isub X122.here X122.ex rfl (hb hby d_jdk_65_method_133_7) rfl kS_))) ?_
  show Goes _ _ _ _ T122 (mkF m 8 #[.val (.ref t), .val (.int (2 : Int32)), .val (.int (3 : Int32)), .unset, .unset] [(.int ((3 : Int32) - (2 : Int32)))])
  refine Goes.cast (congrArg (fun zq_ => (mkF m 8 #[.val (.ref t), .val (.int (2 : Int32)), .val (.int (3 : Int32)), .unset, .unset] [(.int zq_)])) (show (((3 : Int32) - (2 : Int32)) : Int32) = (1 : Int32) from by decide)) ?_
  show Goes _ _ _ _ T122 (mkF m 8 #[.val (.ref t), .val (.int (2 : Int32)), .val (.int (3 : Int32)), .unset, .unset] [(.int (1 : Int32))])
  refine Goes.go (fun _ kS_ => XS.istoreN X122.here X122.ex rfl (hb hby d_jdk_65_method_133_8) rfl (l' := #[.val (.ref t), .val (.int (2 : Int32)), .val (.int (3 : Int32)), .val (.int (1 : Int32)), .unset]) rfl (XS.iloadN X122.here X122.ex rfl (hb hby d_jdk_65_method_133_9) rfl kS_)) ?_
  show Goes _ _ _ _ T122 (mkF m 10 #[.val (.ref t), .val (.int (2 : Int32)), .val (.int (3 : Int32)), .val (.int (1 : Int32)), .unset] [(.int (1 : Int32))])
  refine Wk.newA (aty := .byte) X122 (w_20 hw) rfl (hb hby d_jdk_65_method_133_10) rfl (by decide) (cap := 1) (by decide) (by decide) (by decide) (by decide) ?_
  intro T123 h123 b123 k123 g123 X123 E123 A123 B_b123
  have lt_t_b123 : t < b123 := by rw [g123]; exact V_t.lt
  replace V_t := V_t.ext E123
  have V_b123 : Arv Z h123 b123 k123 .byte (1 : Int32) [(.int (0 : Int32))] (.int (0 : Int32)) := A123.pad (pad_rep [] (.int (0 : Int32)) 1)
  have gz_b123 : Z.heap.size ≤ b123 := g123 ▸ X122.old.1
  have gm_b123 : h0.size ≤ b123 := g123 ▸ X122.ext.1
  show Goes _ _ _ _ T123 (mkF m 12 #[.val (.ref t), .val (.int (2 : Int32)), .val (.int (3 : Int32)), .val (.int (1 : Int32)), .unset] [(.ref b123)])
  refine Goes.go (fun _ kS_ => XS.astore X123.here X123.ex rfl (hb hby d_jdk_65_method_133_12) rfl rfl (l' := #[.val (.ref t), .val (.int (2 : Int32)), .val (.int (3 : Int32)), .val (.int (1 : Int32)), .val (.ref b123)]) rfl (XS.aloadN X123.here X123.ex rfl (hb hby d_jdk_65_method_133_14) rfl rfl (XS.iloadN X123.here X123.ex rfl (hb hby d_jdk_65_method_133_15) rfl (XS.aload X123.here X123.ex rfl (hb hby d_jdk_65_method_133_16) rfl rfl (XS.iconst X123.here X123.ex rfl (hb hby d_jdk_65_method_133_18) (XS.aloadN X123.here X123.ex rfl (hb hby d_jdk_65_method_133_19) rfl rfl kS_)))))) ?_
  show Goes _ _ _ _ T123 (mkF m 20 #[.val (.ref t), .val (.int (2 : Int32)), .val (.int (3 : Int32)), .val (.int (1 : Int32)), .val (.ref b123)] [(.ref t), (.int (0 : Int32)), (.ref b123), (.int (2 : Int32)), (.ref t)])
  refine Goes.go (X123.alen V_t rfl rfl (hb hby d_jdk_65_method_133_20)) ?_
  show Goes _ _ _ _ T123 (mkF m 21 #[.val (.ref t), .val (.int (2 : Int32)), .val (.int (3 : Int32)), .val (.int (1 : Int32)), .val (.ref b123)] [(.int (3 : Int32)), (.int (0 : Int32)), (.ref b123), (.int (2 : Int32)), (.ref t)])
  refine Goes.go (fun _ kS_ => XS.iloadN X123.here X123.ex rfl (hb hby d_jdk_65_method_133_21) rfl (XS.isub X123.here X123.ex rfl (hb hby d_jdk_65_method_133_22) rfl kS_)) ?_
  show Goes _ _ _ _ T123 (mkF m 23 #[.val (.ref t), .val (.int (2 : Int32)), .val (.int (3 : Int32)), .val (.int (1 : Int32)), .val (.ref b123)] [(.int ((3 : Int32) - (2 : Int32))), (.int (0 : Int32)), (.ref b123), (.int (2 : Int32)), (.ref t)])
  refine Goes.cast (congrArg (fun zq_ => (mkF m 23 #[.val (.ref t), .val (.int (2 : Int32)), .val (.int (3 : Int32)), .val (.int (1 : Int32)), .val (.ref b123)] [(.int zq_), (.int (0 : Int32)), (.ref b123), (.int (2 : Int32)), (.ref t)])) (show (((3 : Int32) - (2 : Int32)) : Int32) = (1 : Int32) from by decide)) ?_
  show Goes _ _ _ _ T123 (mkF m 23 #[.val (.ref t), .val (.int (2 : Int32)), .val (.int (3 : Int32)), .val (.int (1 : Int32)), .val (.ref b123)] [(.int (1 : Int32)), (.int (0 : Int32)), (.ref b123), (.int (2 : Int32)), (.ref t)])
  refine Goes.go (fun _ kS_ => XS.iloadN X123.here X123.ex rfl (hb hby d_jdk_65_method_133_23) rfl kS_) ?_
  show Goes _ _ _ _ T123 (mkF m 24 #[.val (.ref t), .val (.int (2 : Int32)), .val (.int (3 : Int32)), .val (.int (1 : Int32)), .val (.ref b123)] [(.int (1 : Int32)), (.int (1 : Int32)), (.int (0 : Int32)), (.ref b123), (.int (2 : Int32)), (.ref t)])
  refine Wk.static (hm' := fun _ => h0) (y := (⟨"java/lang/Math", "min", "(II)I"⟩ : MethodName)) (W := 4) (kc := 0) (ks := 0) (argsL := [(.int (1 : Int32)), (.int (1 : Int32))]) (rest := [(.int (0 : Int32)), (.ref b123), (.int (2 : Int32)), (.ref t)]) (as' := #[(.int (1 : Int32)), (.int (1 : Int32))]) (ws := []) X123 (w_121 hw) (w_68 hw) (w_69 hw) (w_70 hw) (by decide) (CtrN.pays (own_min l Z a0 hw h123 X123.old (1 : Int32)) (w_70 hw) (w_69 hw) (by decide) (by decide)) (fun v h' L q => ⟨q.2, q.1.1⟩) all0 (fun _ => Mark.stay all0) rfl (by rw [hml]; rfl) (lenOf pd_2 rfl) rfl rfl (by show 2 * 0 + _ ≤ _; exact Nat.le_of_eq rfl) (hb hby d_jdk_65_method_133_24) (by decide) (by decide) ?_
  intro T124 h124 v124 L124 X124 q124 K124
  obtain ⟨⟨-, rfl⟩, -⟩ := q124
  replace V_t := V_t.ext K124.oExt
  replace V_b123 := V_b123.ext K124.oExt
  show Goes _ _ _ _ T124 (mkF m 27 #[.val (.ref t), .val (.int (2 : Int32)), .val (.int (3 : Int32)), .val (.int (1 : Int32)), .val (.ref b123)] [(.int (1 : Int32)), (.int (0 : Int32)), (.ref b123), (.int (2 : Int32)), (.ref t)])
  refine Wk.acopy (hm' := fun _ => h0) X124 (w_122 hw) (w_125 hw) (w_123 hw) (w_124 hw) V_t V_b123 ⟨rfl, rfl⟩ (by decide) (by decide) (by decide) (by decide) (by decide) (us := [(.int (d2.toInt8.toInt32))]) rfl (Nat.le_of_ble_eq_true rfl) gz_b123 (fun _ => Mark.stay (allS gm_b123 all0)) rfl (by rw [hml]; rfl) rfl (hb hby d_jdk_65_method_133_27) (by decide) (W := 0) (by show 2 * 0 + _ ≤ _; exact Nat.le_of_eq rfl) (by decide) ?_
  intro T125 h125 X125 K125 V125
  have V_b123 : Arv Z h125 b123 _ .byte (1 : Int32) [(.int (d2.toInt8.toInt32))] (.int (0 : Int32)) := V125
  show Goes _ _ _ _ T125 (mkF m 30 #[.val (.ref t), .val (.int (2 : Int32)), .val (.int (3 : Int32)), .val (.int (1 : Int32)), .val (.ref b123)] [])
  refine Goes.go (fun _ kS_ => XS.aload X125.here X125.ex rfl (hb hby d_jdk_65_method_133_30) rfl rfl kS_) ?_
  show Goes _ _ _ _ T125 (mkF m 32 #[.val (.ref t), .val (.int (2 : Int32)), .val (.int (3 : Int32)), .val (.int (1 : Int32)), .val (.ref b123)] [(.ref b123)])
  refine Goes.outN X125 (fun q => by rw [hret] at q; cases q) hlk (X125.rA hret rfl rfl (hb hby d_jdk_65_method_133_32)) ?_ (by decide) (by decide)
  exact ⟨Ext.oKeepOf X125.ext [], b123, _, rfl, V_b123, gm_b123⟩
set_option maxRecDepth 65536 in
set_option maxHeartbeats 40000000 in
theorem own_cor32 (l : Launch) (Z : State) (a0 : Array Value) (hw : ∀ d ∈ tables_1, d.before a0 Z = true) (h0 : Heap) (hO : Ext Z.heap h0) (t : Addr) (kb : ClassId) (d0 : Int32) (d1 : Int32) (d2 : Int32) (V_t : Arv Z h0 t kb .byte (3 : Int32) [(.int (d0.toInt8.toInt32)), (.int (d1.toInt8.toInt32)), (.int (d2.toInt8.toInt32))] (.int (0 : Int32))) :
    CtrN l Z (⟨"java/util/Arrays", "copyOfRange", "([BII)[B"⟩ : MethodName) jdk_65_method_132_code 3 (some (.array .byte)) ({ frames := 2, cells := 1, slots := 1, locals := 34 } : Room) #[(.ref t), (.int (2 : Int32)), (.int (3 : Int32))] h0 (fun v h' => Keep h0 h' [] ∧ ∃ u ku, v = some (.ref u) ∧ Arv Z h' u ku .byte (1 : Int32) [(.int (d2.toInt8.toInt32))] (.int (0 : Int32)) ∧ h0.size ≤ u) := by
  refine CtrN.of (plainFor_of_name pn_3) hO ?_
  intro p e s m below meth c T0 X0 hsh hby hml hret hlk hnm
  refine Goes.cast (ef_own_cor32 m t) ?_
  show Goes _ _ _ _ T0 (mkF m 0 #[.val (.ref t), .val (.int (2 : Int32)), .val (.int (3 : Int32))] [])
  refine Goes.go (fun _ kS_ => XS.iloadN X0.here X0.ex rfl (hb hby d_jdk_65_method_132_0) rfl (XS.ifYes X0.here X0.ex rfl (pc0 := 1) (pc' := 10) rfl (hb hby d_jdk_65_method_132_1) rfl ((if0 _ _).trans (cd_t (cd := .ne) (x := (2 : Int32)) (y := (0 : Int32)) (by decide))) (by decide) (by decide) (XS.aloadN X0.here X0.ex rfl (hb hby d_jdk_65_method_132_10) rfl rfl (XS.iloadN X0.here X0.ex rfl (hb hby d_jdk_65_method_132_11) rfl (XS.iloadN X0.here X0.ex rfl (hb hby d_jdk_65_method_132_12) rfl kS_))))) ?_
  show Goes _ _ _ _ T0 (mkF m 13 #[.val (.ref t), .val (.int (2 : Int32)), .val (.int (3 : Int32))] [(.int (3 : Int32)), (.int (2 : Int32)), (.ref t)])
  refine Wk.static (hm' := fun _ => h0) (y := (⟨"java/util/Arrays", "copyOfRangeByte", "([BII)[B"⟩ : MethodName)) (W := 0) (kc := 1) (ks := 1) (argsL := [(.ref t), (.int (2 : Int32)), (.int (3 : Int32))]) (rest := []) (as' := #[(.ref t), (.int (2 : Int32)), (.int (3 : Int32))]) (ws := []) X0 (w_115 hw) (w_116 hw) (w_113 hw) (w_117 hw) (by decide) (CtrN.pays (own_crb32 l Z a0 hw h0 X0.old t kb d0 d1 d2 V_t) (w_117 hw) (w_113 hw) (by decide) (by decide)) (fun v h' L q => ⟨q.2, q.1.1⟩) all0 (fun _ => Mark.stay all0) rfl (by rw [hml]; rfl) (lenOf pd_8 rfl) rfl rfl (by show 2 * 0 + _ ≤ _; exact Nat.le_of_eq rfl) (hb hby d_jdk_65_method_132_13) (by decide) (by decide) ?_
  intro T127 h127 v127 L127 X127 q127 K127
  obtain ⟨⟨-, u127, ku127, rfl, U127, gu127⟩, -⟩ := q127
  show Goes _ _ _ _ T127 (mkF m 16 #[.val (.ref t), .val (.int (2 : Int32)), .val (.int (3 : Int32))] [(.ref u127)])
  refine Goes.outN X127 (fun q => by rw [hret] at q; cases q) hlk (X127.rA hret rfl rfl (hb hby d_jdk_65_method_132_16)) ?_ (by decide) (by decide)
  exact ⟨Ext.oKeepOf X127.ext [], u127, ku127, rfl, U127, gu127⟩
set_option maxRecDepth 65536 in
set_option maxHeartbeats 40000000 in
theorem own_nst32 (l : Launch) (Z : State) (a0 : Array Value) (hw : ∀ d ∈ tables_1, d.before a0 Z = true) (hEL : EW Z a0 consts_1) (h0 : Heap) (hO : Ext Z.heap h0) (t : Addr) (kb : ClassId) (d0 : Int32) (d1 : Int32) (d2 : Int32) (V_t : Arv Z h0 t kb .byte (3 : Int32) [(.int (d0.toInt8.toInt32)), (.int (d1.toInt8.toInt32)), (.int (d2.toInt8.toInt32))] (.int (0 : Int32))) (b0 : ¬ d0 < 0 ∧ ¬ (255 : Int32) < d0) (b1 : ¬ d1 < 0 ∧ ¬ (255 : Int32) < d1) (b2 : ¬ d2 < 0 ∧ ¬ (255 : Int32) < d2) :
    CtrS l Z consts_1 (⟨"java/lang/StringLatin1", "newString", "([BII)Ljava/lang/String;"⟩ : MethodName) jdk_43_method_47_code 3 (some (.object "java/lang/String")) ({ frames := 3, cells := 2, slots := 7, locals := 50 } : Room) #[(.ref t), (.int (2 : Int32)), (.int (1 : Int32))] h0 (fun v h' => Keep h0 h' [] ∧ ∃ a, v = some (.ref a) ∧ LStr Z h' a ([d2] : List Int32)) := by
  refine CtrS.of (plainFor_of_name pn_1) hO ?_
  intro p e s m below meth c T0 X0 hsh hby hml hret hlk hnm
  refine Goes.cast (ef_own_nst32 m t) ?_
  show Goes _ _ _ _ T0 (mkF m 0 #[.val (.ref t), .val (.int (2 : Int32)), .val (.int (1 : Int32))] [])
  refine Goes.go (fun _ kS_ => XS.iloadN X0.here X0.ex rfl (hb hby d_jdk_43_method_47_0) rfl (XS.ifYes X0.here X0.ex rfl (pc0 := 1) (pc' := 7) rfl (hb hby d_jdk_43_method_47_1) rfl ((if0 _ _).trans (cd_t (cd := .ne) (x := (1 : Int32)) (y := (0 : Int32)) (by decide))) (by decide) (by decide) kS_)) ?_
  show Goes _ _ _ _ T0 (mkF m 7 #[.val (.ref t), .val (.int (2 : Int32)), .val (.int (1 : Int32))] [])
  refine Wk.new X0 (w_110 hw) (w_6 hw) (w_7 hw) rfl (hb hby d_jdk_43_method_47_7) (by decide) (by decide) ?_
  intro T131 h131 a131 g131 X131 E131 A131 D131
  have gz_a131 : Z.heap.size ≤ a131 := g131 ▸ X0.old.1
  have gm_a131 : h0.size ≤ a131 := g131 ▸ X0.ext.1
  have F_a131_value : Fld Z h131 a131 "java/lang/String" "value" "[B" .null := D131 (Or.inr (w_21 hw)) (ty := (.array .byte)) (by decide)
  have F_a131_coder : Fld Z h131 a131 "java/lang/String" "coder" "B" (.int (0 : Int32)) := D131 (Or.inr (w_22 hw)) (ty := .byte) (by decide)
  clear D131
  show Goes _ _ _ _ T131 (mkF m 10 #[.val (.ref t), .val (.int (2 : Int32)), .val (.int (1 : Int32))] [(.ref a131)])
  refine Goes.go (fun _ kS_ => XS.dup X131.here X131.ex rfl (hb hby d_jdk_43_method_47_10) rfl rfl (XS.aloadN X131.here X131.ex rfl (hb hby d_jdk_43_method_47_11) rfl rfl (XS.iloadN X131.here X131.ex rfl (hb hby d_jdk_43_method_47_12) rfl (XS.iloadN X131.here X131.ex rfl (hb hby d_jdk_43_method_47_13) rfl (XS.iloadN X131.here X131.ex rfl (hb hby d_jdk_43_method_47_14) rfl (XS.iadd X131.here X131.ex rfl (hb hby d_jdk_43_method_47_15) rfl kS_)))))) ?_
  show Goes _ _ _ _ T131 (mkF m 16 #[.val (.ref t), .val (.int (2 : Int32)), .val (.int (1 : Int32))] [(.int ((2 : Int32) + (1 : Int32))), (.int (2 : Int32)), (.ref t), (.ref a131), (.ref a131)])
  refine Goes.cast (congrArg (fun zq_ => (mkF m 16 #[.val (.ref t), .val (.int (2 : Int32)), .val (.int (1 : Int32))] [(.int zq_), (.int (2 : Int32)), (.ref t), (.ref a131), (.ref a131)])) (show (((2 : Int32) + (1 : Int32)) : Int32) = (3 : Int32) from by decide)) ?_
  show Goes _ _ _ _ T131 (mkF m 16 #[.val (.ref t), .val (.int (2 : Int32)), .val (.int (1 : Int32))] [(.int (3 : Int32)), (.int (2 : Int32)), (.ref t), (.ref a131), (.ref a131)])
  refine Wk.static (hm' := fun _ => h0) (y := (⟨"java/util/Arrays", "copyOfRange", "([BII)[B"⟩ : MethodName)) (W := 2) (kc := 1) (ks := 1) (argsL := [(.ref t), (.int (2 : Int32)), (.int (3 : Int32))]) (rest := [(.ref a131), (.ref a131)]) (as' := #[(.ref t), (.int (2 : Int32)), (.int (3 : Int32))]) (ws := []) X131 (w_111 hw) (w_112 hw) (w_113 hw) (w_114 hw) (by decide) (CtrN.pays (own_cor32 l Z a0 hw h131 X131.old t kb d0 d1 d2 (V_t.ext X131.ext)) (w_114 hw) (w_113 hw) (by decide) (by decide)) (fun v h' L q => ⟨q.2, q.1.1⟩) all0 (fun _ => Mark.stay all0) rfl (by rw [hml]; rfl) (lenOf pd_8 rfl) rfl rfl (by show 2 * 0 + _ ≤ _; exact Nat.le_of_eq rfl) (hb hby d_jdk_43_method_47_16) (by decide) (by decide) ?_
  intro T132 h132 v132 L132 X132 q132 K132
  obtain ⟨⟨-, u132, ku132, rfl, U132, gu132⟩, -⟩ := q132
  replace A131 := A131.ext K132.oExt
  replace F_a131_value := F_a131_value.ext K132.oExt
  replace F_a131_coder := F_a131_coder.ext K132.oExt
  show Goes _ _ _ _ T132 (mkF m 19 #[.val (.ref t), .val (.int (2 : Int32)), .val (.int (1 : Int32))] [(.ref u132), (.ref a131), (.ref a131)])
  refine Goes.go (fun _ kS_ => XS.iconst X132.here X132.ex rfl (hb hby d_jdk_43_method_47_19) kS_) ?_
  show Goes _ _ _ _ T132 (mkF m 20 #[.val (.ref t), .val (.int (2 : Int32)), .val (.int (1 : Int32))] [(.int (0 : Int32)), (.ref u132), (.ref a131), (.ref a131)])
  refine Wk.special (hm' := fun _ => h0) (y := (⟨"java/lang/String", "<init>", "([BB)V"⟩ : MethodName)) (W := 1) (kc := 0) (ks := 0) (argsL := [(.ref u132), (.int (0 : Int32))]) (rest := [(.ref a131)]) (as' := #[(.ref a131), (.ref u132), (.int (0 : Int32))]) (ws := [a131]) X132 rfl (w_126 hw) (w_127 hw) (w_128 hw) (by decide) (CtrN.pays (own_newB l Z a0 hw h132 X132.old a131 u132 A131 F_a131_value F_a131_coder gz_a131) (w_128 hw) (w_7 hw) (by decide) (by decide)) (fun v h' L q => ⟨q.2, q.1.1⟩) (allS gz_a131 all0) (fun _ => Mark.stay (allS gm_a131 all0)) rfl (by rw [hml]; rfl) (lenOf pd_9 rfl) rfl rfl (by show 2 * 0 + _ ≤ _; exact Nat.le_of_eq rfl) (hb hby d_jdk_43_method_47_20) (by decide) (by decide) ?_
  intro T133 h133 v133 L133 X133 q133 K133
  obtain ⟨⟨-, rfl, Es133, Vs133, Cs133⟩, -⟩ := q133
  show Goes _ _ _ _ T133 (mkF m 23 #[.val (.ref t), .val (.int (2 : Int32)), .val (.int (1 : Int32))] [(.ref a131)])
  have nt : u132 ∉ [a131] := ninS (Exa.neArv A131 U132 (w_6 hw)).symm nin0
  replace U132 := U132.keep K133 nt
  have hpp : ∀ c ∈ ([d2] : List Int32), ¬ c < 0 ∧ ¬ (255 : Int32) < c := by
      intro c hc
      simp only [List.mem_cons, List.not_mem_nil, or_false] at hc
      rcases hc with rfl
      · exact b2
  refine Goes.outS X133 hEL (fun q => by rw [hret] at q; cases q) hlk (X133.rA hret rfl rfl (hb hby d_jdk_43_method_47_23)) ?_ (by decide) (by decide)
  exact ⟨Ext.oKeepOf X133.ext [], a131, rfl, Es133, Cs133, ⟨_, _, Vs133, U132⟩, hpp, Nat.le_of_ble_eq_true rfl⟩
set_option maxRecDepth 65536 in
set_option maxHeartbeats 40000000 in
theorem own_nst33 (l : Launch) (Z : State) (a0 : Array Value) (hw : ∀ d ∈ tables_1, d.before a0 Z = true) (hEL : EW Z a0 consts_1) (h0 : Heap) (hO : Ext Z.heap h0) (t : Addr) (kb : ClassId) (d0 : Int32) (d1 : Int32) (d2 : Int32) (V_t : Arv Z h0 t kb .byte (3 : Int32) [(.int (d0.toInt8.toInt32)), (.int (d1.toInt8.toInt32)), (.int (d2.toInt8.toInt32))] (.int (0 : Int32))) (b0 : ¬ d0 < 0 ∧ ¬ (255 : Int32) < d0) (b1 : ¬ d1 < 0 ∧ ¬ (255 : Int32) < d1) (b2 : ¬ d2 < 0 ∧ ¬ (255 : Int32) < d2) :
    CtrS l Z consts_1 (⟨"java/lang/StringLatin1", "newString", "([BII)Ljava/lang/String;"⟩ : MethodName) jdk_43_method_47_code 3 (some (.object "java/lang/String")) ({ frames := 3, cells := 2, slots := 7, locals := 50 } : Room) #[(.ref t), (.int (3 : Int32)), (.int (0 : Int32))] h0 (fun v h' => Keep h0 h' [] ∧ ∃ a, v = some (.ref a) ∧ LStr Z h' a ([] : List Int32)) := by
  refine CtrS.of (plainFor_of_name pn_1) hO ?_
  intro p e s m below meth c T0 X0 hsh hby hml hret hlk hnm
  refine Goes.cast (ef_own_nst33 m t) ?_
  show Goes _ _ _ _ T0 (mkF m 0 #[.val (.ref t), .val (.int (3 : Int32)), .val (.int (0 : Int32))] [])
  refine Goes.go (fun _ kS_ => XS.iloadN X0.here X0.ex rfl (hb hby d_jdk_43_method_47_0) rfl (XS.ifNo X0.here X0.ex rfl (hb hby d_jdk_43_method_47_1) rfl ((if0 _ _).trans (cd_f (cd := .ne) (x := (0 : Int32)) (y := (0 : Int32)) (by decide))) kS_)) ?_
  show Goes _ _ _ _ T0 (mkF m 4 #[.val (.ref t), .val (.int (3 : Int32)), .val (.int (0 : Int32))] [])
  refine Wk.ldcR X0 (w_108 hw) (own_wS hw) hEL (by decide) (vs := []) (z := 0) ⟨by decide, rfl⟩ (by decide) rfl rfl (hb hby d_jdk_43_method_47_4) (n := 0) (by decide) (by decide) (by decide) (by decide) ?_
  intro T135 h135 a135 b135 k135 X135 E135 Ea135 Ca135 Va135 Ab135
  have S_a135 : LStr Z h135 a135 ([] : List Int32) := ⟨Ea135, Ca135, ⟨_, _, Va135, Ab135⟩, (fun _ q => nomatch q), Nat.le_of_ble_eq_true rfl⟩
  show Goes _ _ _ _ T135 (mkF m 6 #[.val (.ref t), .val (.int (3 : Int32)), .val (.int (0 : Int32))] [(.ref a135)])
  refine Goes.outS X135 hEL (fun q => by rw [hret] at q; cases q) hlk (X135.rA hret rfl rfl (hb hby d_jdk_43_method_47_6)) ?_ (by decide) (by decide)
  exact ⟨Ext.oKeepOf E135 [], a135, rfl, S_a135⟩
set_option maxRecDepth 65536 in
set_option maxHeartbeats 40000000 in
theorem own_crb21 (l : Launch) (Z : State) (a0 : Array Value) (hw : ∀ d ∈ tables_1, d.before a0 Z = true) (h0 : Heap) (hO : Ext Z.heap h0) (t : Addr) (kb : ClassId) (d0 : Int32) (d1 : Int32) (V_t : Arv Z h0 t kb .byte (2 : Int32) [(.int (d0.toInt8.toInt32)), (.int (d1.toInt8.toInt32))] (.int (0 : Int32))) :
    CtrN l Z (⟨"java/util/Arrays", "copyOfRangeByte", "([BII)[B"⟩ : MethodName) jdk_65_method_133_code 5 (some (.array .byte)) ({ frames := 1, cells := 1, slots := 1, locals := 18 } : Room) #[(.ref t), (.int (1 : Int32)), (.int (2 : Int32))] h0 (fun v h' => Keep h0 h' [] ∧ ∃ u ku, v = some (.ref u) ∧ Arv Z h' u ku .byte (1 : Int32) [(.int (d1.toInt8.toInt32))] (.int (0 : Int32)) ∧ h0.size ≤ u) := by
  refine CtrN.of (plainFor_of_name pn_3) hO ?_
  intro p e s m below meth c T0 X0 hsh hby hml hret hlk hnm
  refine Goes.cast (ef_own_crb21 m t) ?_
  show Goes _ _ _ _ T0 (mkF m 0 #[.val (.ref t), .val (.int (1 : Int32)), .val (.int (2 : Int32)), .unset, .unset] [])
  refine Goes.go (fun _ kS_ => XS.iloadN X0.here X0.ex rfl (hb hby d_jdk_65_method_133_0) rfl (XS.iloadN X0.here X0.ex rfl (hb hby d_jdk_65_method_133_1) rfl kS_)) ?_
  show Goes _ _ _ _ T0 (mkF m 2 #[.val (.ref t), .val (.int (1 : Int32)), .val (.int (2 : Int32)), .unset, .unset] [(.int (2 : Int32)), (.int (1 : Int32))])
  refine Wk.static (hm' := fun _ => h0) (y := (⟨"java/util/Arrays", "checkLength", "(II)V"⟩ : MethodName)) (W := 0) (kc := 0) (ks := 0) (argsL := [(.int (1 : Int32)), (.int (2 : Int32))]) (rest := []) (as' := #[(.int (1 : Int32)), (.int (2 : Int32))]) (ws := []) X0 (w_118 hw) (w_119 hw) (w_113 hw) (w_120 hw) (by decide) (CtrN.pays (own_chl l Z a0 hw h0 X0.old (1 : Int32) (2 : Int32) (by decide)) (w_120 hw) (w_113 hw) (by decide) (by decide)) (fun v h' L q => ⟨q.2, q.1.1⟩) all0 (fun _ => Mark.stay all0) rfl (by rw [hml]; rfl) (lenOf pd_7 rfl) rfl rfl (by show 2 * 0 + _ ≤ _; exact Nat.le_of_eq rfl) (hb hby d_jdk_65_method_133_2) (by decide) (by decide) ?_
  intro T140 h140 v140 L140 X140 q140 K140
  obtain ⟨⟨-, rfl⟩, -⟩ := q140
  replace V_t := V_t.ext K140.oExt
  show Goes _ _ _ _ T140 (mkF m 5 #[.val (.ref t), .val (.int (1 : Int32)), .val (.int (2 : Int32)), .unset, .unset] [])
  refine Goes.go (fun _ kS_ => XS.iloadN X140.here X140.ex rfl (hb hby d_jdk_65_method_133_5) rfl (XS.iloadN X140.here X140.ex rfl (hb hby d_jdk_65_method_133_6) rfl (XS.isub X140.here X140.ex rfl (hb hby d_jdk_65_method_133_7) rfl kS_))) ?_
  show Goes _ _ _ _ T140 (mkF m 8 #[.val (.ref t), .val (.int (1 : Int32)), .val (.int (2 : Int32)), .unset, .unset] [(.int ((2 : Int32) - (1 : Int32)))])
  refine Goes.cast (congrArg (fun zq_ => (mkF m 8 #[.val (.ref t), .val (.int (1 : Int32)), .val (.int (2 : Int32)), .unset, .unset] [(.int zq_)])) (show (((2 : Int32) - (1 : Int32)) : Int32) = (1 : Int32) from by decide)) ?_
  show Goes _ _ _ _ T140 (mkF m 8 #[.val (.ref t), .val (.int (1 : Int32)), .val (.int (2 : Int32)), .unset, .unset] [(.int (1 : Int32))])
  refine Goes.go (fun _ kS_ => XS.istoreN X140.here X140.ex rfl (hb hby d_jdk_65_method_133_8) rfl (l' := #[.val (.ref t), .val (.int (1 : Int32)), .val (.int (2 : Int32)), .val (.int (1 : Int32)), .unset]) rfl (XS.iloadN X140.here X140.ex rfl (hb hby d_jdk_65_method_133_9) rfl kS_)) ?_
  show Goes _ _ _ _ T140 (mkF m 10 #[.val (.ref t), .val (.int (1 : Int32)), .val (.int (2 : Int32)), .val (.int (1 : Int32)), .unset] [(.int (1 : Int32))])
  refine Wk.newA (aty := .byte) X140 (w_20 hw) rfl (hb hby d_jdk_65_method_133_10) rfl (by decide) (cap := 1) (by decide) (by decide) (by decide) (by decide) ?_
  intro T141 h141 b141 k141 g141 X141 E141 A141 B_b141
  have lt_t_b141 : t < b141 := by rw [g141]; exact V_t.lt
  replace V_t := V_t.ext E141
  have V_b141 : Arv Z h141 b141 k141 .byte (1 : Int32) [(.int (0 : Int32))] (.int (0 : Int32)) := A141.pad (pad_rep [] (.int (0 : Int32)) 1)
  have gz_b141 : Z.heap.size ≤ b141 := g141 ▸ X140.old.1
  have gm_b141 : h0.size ≤ b141 := g141 ▸ X140.ext.1
  show Goes _ _ _ _ T141 (mkF m 12 #[.val (.ref t), .val (.int (1 : Int32)), .val (.int (2 : Int32)), .val (.int (1 : Int32)), .unset] [(.ref b141)])
  refine Goes.go (fun _ kS_ => XS.astore X141.here X141.ex rfl (hb hby d_jdk_65_method_133_12) rfl rfl (l' := #[.val (.ref t), .val (.int (1 : Int32)), .val (.int (2 : Int32)), .val (.int (1 : Int32)), .val (.ref b141)]) rfl (XS.aloadN X141.here X141.ex rfl (hb hby d_jdk_65_method_133_14) rfl rfl (XS.iloadN X141.here X141.ex rfl (hb hby d_jdk_65_method_133_15) rfl (XS.aload X141.here X141.ex rfl (hb hby d_jdk_65_method_133_16) rfl rfl (XS.iconst X141.here X141.ex rfl (hb hby d_jdk_65_method_133_18) (XS.aloadN X141.here X141.ex rfl (hb hby d_jdk_65_method_133_19) rfl rfl kS_)))))) ?_
  show Goes _ _ _ _ T141 (mkF m 20 #[.val (.ref t), .val (.int (1 : Int32)), .val (.int (2 : Int32)), .val (.int (1 : Int32)), .val (.ref b141)] [(.ref t), (.int (0 : Int32)), (.ref b141), (.int (1 : Int32)), (.ref t)])
  refine Goes.go (X141.alen V_t rfl rfl (hb hby d_jdk_65_method_133_20)) ?_
  show Goes _ _ _ _ T141 (mkF m 21 #[.val (.ref t), .val (.int (1 : Int32)), .val (.int (2 : Int32)), .val (.int (1 : Int32)), .val (.ref b141)] [(.int (2 : Int32)), (.int (0 : Int32)), (.ref b141), (.int (1 : Int32)), (.ref t)])
  refine Goes.go (fun _ kS_ => XS.iloadN X141.here X141.ex rfl (hb hby d_jdk_65_method_133_21) rfl (XS.isub X141.here X141.ex rfl (hb hby d_jdk_65_method_133_22) rfl kS_)) ?_
  show Goes _ _ _ _ T141 (mkF m 23 #[.val (.ref t), .val (.int (1 : Int32)), .val (.int (2 : Int32)), .val (.int (1 : Int32)), .val (.ref b141)] [(.int ((2 : Int32) - (1 : Int32))), (.int (0 : Int32)), (.ref b141), (.int (1 : Int32)), (.ref t)])
  refine Goes.cast (congrArg (fun zq_ => (mkF m 23 #[.val (.ref t), .val (.int (1 : Int32)), .val (.int (2 : Int32)), .val (.int (1 : Int32)), .val (.ref b141)] [(.int zq_), (.int (0 : Int32)), (.ref b141), (.int (1 : Int32)), (.ref t)])) (show (((2 : Int32) - (1 : Int32)) : Int32) = (1 : Int32) from by decide)) ?_
  show Goes _ _ _ _ T141 (mkF m 23 #[.val (.ref t), .val (.int (1 : Int32)), .val (.int (2 : Int32)), .val (.int (1 : Int32)), .val (.ref b141)] [(.int (1 : Int32)), (.int (0 : Int32)), (.ref b141), (.int (1 : Int32)), (.ref t)])
  refine Goes.go (fun _ kS_ => XS.iloadN X141.here X141.ex rfl (hb hby d_jdk_65_method_133_23) rfl kS_) ?_
  show Goes _ _ _ _ T141 (mkF m 24 #[.val (.ref t), .val (.int (1 : Int32)), .val (.int (2 : Int32)), .val (.int (1 : Int32)), .val (.ref b141)] [(.int (1 : Int32)), (.int (1 : Int32)), (.int (0 : Int32)), (.ref b141), (.int (1 : Int32)), (.ref t)])
  refine Wk.static (hm' := fun _ => h0) (y := (⟨"java/lang/Math", "min", "(II)I"⟩ : MethodName)) (W := 4) (kc := 0) (ks := 0) (argsL := [(.int (1 : Int32)), (.int (1 : Int32))]) (rest := [(.int (0 : Int32)), (.ref b141), (.int (1 : Int32)), (.ref t)]) (as' := #[(.int (1 : Int32)), (.int (1 : Int32))]) (ws := []) X141 (w_121 hw) (w_68 hw) (w_69 hw) (w_70 hw) (by decide) (CtrN.pays (own_min l Z a0 hw h141 X141.old (1 : Int32)) (w_70 hw) (w_69 hw) (by decide) (by decide)) (fun v h' L q => ⟨q.2, q.1.1⟩) all0 (fun _ => Mark.stay all0) rfl (by rw [hml]; rfl) (lenOf pd_2 rfl) rfl rfl (by show 2 * 0 + _ ≤ _; exact Nat.le_of_eq rfl) (hb hby d_jdk_65_method_133_24) (by decide) (by decide) ?_
  intro T142 h142 v142 L142 X142 q142 K142
  obtain ⟨⟨-, rfl⟩, -⟩ := q142
  replace V_t := V_t.ext K142.oExt
  replace V_b141 := V_b141.ext K142.oExt
  show Goes _ _ _ _ T142 (mkF m 27 #[.val (.ref t), .val (.int (1 : Int32)), .val (.int (2 : Int32)), .val (.int (1 : Int32)), .val (.ref b141)] [(.int (1 : Int32)), (.int (0 : Int32)), (.ref b141), (.int (1 : Int32)), (.ref t)])
  refine Wk.acopy (hm' := fun _ => h0) X142 (w_122 hw) (w_125 hw) (w_123 hw) (w_124 hw) V_t V_b141 ⟨rfl, rfl⟩ (by decide) (by decide) (by decide) (by decide) (by decide) (us := [(.int (d1.toInt8.toInt32))]) rfl (Nat.le_of_ble_eq_true rfl) gz_b141 (fun _ => Mark.stay (allS gm_b141 all0)) rfl (by rw [hml]; rfl) rfl (hb hby d_jdk_65_method_133_27) (by decide) (W := 0) (by show 2 * 0 + _ ≤ _; exact Nat.le_of_eq rfl) (by decide) ?_
  intro T143 h143 X143 K143 V143
  have V_b141 : Arv Z h143 b141 _ .byte (1 : Int32) [(.int (d1.toInt8.toInt32))] (.int (0 : Int32)) := V143
  show Goes _ _ _ _ T143 (mkF m 30 #[.val (.ref t), .val (.int (1 : Int32)), .val (.int (2 : Int32)), .val (.int (1 : Int32)), .val (.ref b141)] [])
  refine Goes.go (fun _ kS_ => XS.aload X143.here X143.ex rfl (hb hby d_jdk_65_method_133_30) rfl rfl kS_) ?_
  show Goes _ _ _ _ T143 (mkF m 32 #[.val (.ref t), .val (.int (1 : Int32)), .val (.int (2 : Int32)), .val (.int (1 : Int32)), .val (.ref b141)] [(.ref b141)])
  refine Goes.outN X143 (fun q => by rw [hret] at q; cases q) hlk (X143.rA hret rfl rfl (hb hby d_jdk_65_method_133_32)) ?_ (by decide) (by decide)
  exact ⟨Ext.oKeepOf X143.ext [], b141, _, rfl, V_b141, gm_b141⟩
set_option maxRecDepth 65536 in
set_option maxHeartbeats 40000000 in
theorem own_cor21 (l : Launch) (Z : State) (a0 : Array Value) (hw : ∀ d ∈ tables_1, d.before a0 Z = true) (h0 : Heap) (hO : Ext Z.heap h0) (t : Addr) (kb : ClassId) (d0 : Int32) (d1 : Int32) (V_t : Arv Z h0 t kb .byte (2 : Int32) [(.int (d0.toInt8.toInt32)), (.int (d1.toInt8.toInt32))] (.int (0 : Int32))) :
    CtrN l Z (⟨"java/util/Arrays", "copyOfRange", "([BII)[B"⟩ : MethodName) jdk_65_method_132_code 3 (some (.array .byte)) ({ frames := 2, cells := 1, slots := 1, locals := 34 } : Room) #[(.ref t), (.int (1 : Int32)), (.int (2 : Int32))] h0 (fun v h' => Keep h0 h' [] ∧ ∃ u ku, v = some (.ref u) ∧ Arv Z h' u ku .byte (1 : Int32) [(.int (d1.toInt8.toInt32))] (.int (0 : Int32)) ∧ h0.size ≤ u) := by
  refine CtrN.of (plainFor_of_name pn_3) hO ?_
  intro p e s m below meth c T0 X0 hsh hby hml hret hlk hnm
  refine Goes.cast (ef_own_cor21 m t) ?_
  show Goes _ _ _ _ T0 (mkF m 0 #[.val (.ref t), .val (.int (1 : Int32)), .val (.int (2 : Int32))] [])
  refine Goes.go (fun _ kS_ => XS.iloadN X0.here X0.ex rfl (hb hby d_jdk_65_method_132_0) rfl (XS.ifYes X0.here X0.ex rfl (pc0 := 1) (pc' := 10) rfl (hb hby d_jdk_65_method_132_1) rfl ((if0 _ _).trans (cd_t (cd := .ne) (x := (1 : Int32)) (y := (0 : Int32)) (by decide))) (by decide) (by decide) (XS.aloadN X0.here X0.ex rfl (hb hby d_jdk_65_method_132_10) rfl rfl (XS.iloadN X0.here X0.ex rfl (hb hby d_jdk_65_method_132_11) rfl (XS.iloadN X0.here X0.ex rfl (hb hby d_jdk_65_method_132_12) rfl kS_))))) ?_
  show Goes _ _ _ _ T0 (mkF m 13 #[.val (.ref t), .val (.int (1 : Int32)), .val (.int (2 : Int32))] [(.int (2 : Int32)), (.int (1 : Int32)), (.ref t)])
  refine Wk.static (hm' := fun _ => h0) (y := (⟨"java/util/Arrays", "copyOfRangeByte", "([BII)[B"⟩ : MethodName)) (W := 0) (kc := 1) (ks := 1) (argsL := [(.ref t), (.int (1 : Int32)), (.int (2 : Int32))]) (rest := []) (as' := #[(.ref t), (.int (1 : Int32)), (.int (2 : Int32))]) (ws := []) X0 (w_115 hw) (w_116 hw) (w_113 hw) (w_117 hw) (by decide) (CtrN.pays (own_crb21 l Z a0 hw h0 X0.old t kb d0 d1 V_t) (w_117 hw) (w_113 hw) (by decide) (by decide)) (fun v h' L q => ⟨q.2, q.1.1⟩) all0 (fun _ => Mark.stay all0) rfl (by rw [hml]; rfl) (lenOf pd_8 rfl) rfl rfl (by show 2 * 0 + _ ≤ _; exact Nat.le_of_eq rfl) (hb hby d_jdk_65_method_132_13) (by decide) (by decide) ?_
  intro T145 h145 v145 L145 X145 q145 K145
  obtain ⟨⟨-, u145, ku145, rfl, U145, gu145⟩, -⟩ := q145
  show Goes _ _ _ _ T145 (mkF m 16 #[.val (.ref t), .val (.int (1 : Int32)), .val (.int (2 : Int32))] [(.ref u145)])
  refine Goes.outN X145 (fun q => by rw [hret] at q; cases q) hlk (X145.rA hret rfl rfl (hb hby d_jdk_65_method_132_16)) ?_ (by decide) (by decide)
  exact ⟨Ext.oKeepOf X145.ext [], u145, ku145, rfl, U145, gu145⟩
set_option maxRecDepth 65536 in
set_option maxHeartbeats 40000000 in
theorem own_nst21 (l : Launch) (Z : State) (a0 : Array Value) (hw : ∀ d ∈ tables_1, d.before a0 Z = true) (hEL : EW Z a0 consts_1) (h0 : Heap) (hO : Ext Z.heap h0) (t : Addr) (kb : ClassId) (d0 : Int32) (d1 : Int32) (V_t : Arv Z h0 t kb .byte (2 : Int32) [(.int (d0.toInt8.toInt32)), (.int (d1.toInt8.toInt32))] (.int (0 : Int32))) (b0 : ¬ d0 < 0 ∧ ¬ (255 : Int32) < d0) (b1 : ¬ d1 < 0 ∧ ¬ (255 : Int32) < d1) :
    CtrS l Z consts_1 (⟨"java/lang/StringLatin1", "newString", "([BII)Ljava/lang/String;"⟩ : MethodName) jdk_43_method_47_code 3 (some (.object "java/lang/String")) ({ frames := 3, cells := 2, slots := 7, locals := 50 } : Room) #[(.ref t), (.int (1 : Int32)), (.int (1 : Int32))] h0 (fun v h' => Keep h0 h' [] ∧ ∃ a, v = some (.ref a) ∧ LStr Z h' a ([d1] : List Int32)) := by
  refine CtrS.of (plainFor_of_name pn_1) hO ?_
  intro p e s m below meth c T0 X0 hsh hby hml hret hlk hnm
  refine Goes.cast (ef_own_nst21 m t) ?_
  show Goes _ _ _ _ T0 (mkF m 0 #[.val (.ref t), .val (.int (1 : Int32)), .val (.int (1 : Int32))] [])
  refine Goes.go (fun _ kS_ => XS.iloadN X0.here X0.ex rfl (hb hby d_jdk_43_method_47_0) rfl (XS.ifYes X0.here X0.ex rfl (pc0 := 1) (pc' := 7) rfl (hb hby d_jdk_43_method_47_1) rfl ((if0 _ _).trans (cd_t (cd := .ne) (x := (1 : Int32)) (y := (0 : Int32)) (by decide))) (by decide) (by decide) kS_)) ?_
  show Goes _ _ _ _ T0 (mkF m 7 #[.val (.ref t), .val (.int (1 : Int32)), .val (.int (1 : Int32))] [])
  refine Wk.new X0 (w_110 hw) (w_6 hw) (w_7 hw) rfl (hb hby d_jdk_43_method_47_7) (by decide) (by decide) ?_
  intro T149 h149 a149 g149 X149 E149 A149 D149
  have gz_a149 : Z.heap.size ≤ a149 := g149 ▸ X0.old.1
  have gm_a149 : h0.size ≤ a149 := g149 ▸ X0.ext.1
  have F_a149_value : Fld Z h149 a149 "java/lang/String" "value" "[B" .null := D149 (Or.inr (w_21 hw)) (ty := (.array .byte)) (by decide)
  have F_a149_coder : Fld Z h149 a149 "java/lang/String" "coder" "B" (.int (0 : Int32)) := D149 (Or.inr (w_22 hw)) (ty := .byte) (by decide)
  clear D149
  show Goes _ _ _ _ T149 (mkF m 10 #[.val (.ref t), .val (.int (1 : Int32)), .val (.int (1 : Int32))] [(.ref a149)])
  refine Goes.go (fun _ kS_ => XS.dup X149.here X149.ex rfl (hb hby d_jdk_43_method_47_10) rfl rfl (XS.aloadN X149.here X149.ex rfl (hb hby d_jdk_43_method_47_11) rfl rfl (XS.iloadN X149.here X149.ex rfl (hb hby d_jdk_43_method_47_12) rfl (XS.iloadN X149.here X149.ex rfl (hb hby d_jdk_43_method_47_13) rfl (XS.iloadN X149.here X149.ex rfl (hb hby d_jdk_43_method_47_14) rfl (XS.iadd X149.here X149.ex rfl (hb hby d_jdk_43_method_47_15) rfl kS_)))))) ?_
  show Goes _ _ _ _ T149 (mkF m 16 #[.val (.ref t), .val (.int (1 : Int32)), .val (.int (1 : Int32))] [(.int ((1 : Int32) + (1 : Int32))), (.int (1 : Int32)), (.ref t), (.ref a149), (.ref a149)])
  refine Goes.cast (congrArg (fun zq_ => (mkF m 16 #[.val (.ref t), .val (.int (1 : Int32)), .val (.int (1 : Int32))] [(.int zq_), (.int (1 : Int32)), (.ref t), (.ref a149), (.ref a149)])) (show (((1 : Int32) + (1 : Int32)) : Int32) = (2 : Int32) from by decide)) ?_
  show Goes _ _ _ _ T149 (mkF m 16 #[.val (.ref t), .val (.int (1 : Int32)), .val (.int (1 : Int32))] [(.int (2 : Int32)), (.int (1 : Int32)), (.ref t), (.ref a149), (.ref a149)])
  refine Wk.static (hm' := fun _ => h0) (y := (⟨"java/util/Arrays", "copyOfRange", "([BII)[B"⟩ : MethodName)) (W := 2) (kc := 1) (ks := 1) (argsL := [(.ref t), (.int (1 : Int32)), (.int (2 : Int32))]) (rest := [(.ref a149), (.ref a149)]) (as' := #[(.ref t), (.int (1 : Int32)), (.int (2 : Int32))]) (ws := []) X149 (w_111 hw) (w_112 hw) (w_113 hw) (w_114 hw) (by decide) (CtrN.pays (own_cor21 l Z a0 hw h149 X149.old t kb d0 d1 (V_t.ext X149.ext)) (w_114 hw) (w_113 hw) (by decide) (by decide)) (fun v h' L q => ⟨q.2, q.1.1⟩) all0 (fun _ => Mark.stay all0) rfl (by rw [hml]; rfl) (lenOf pd_8 rfl) rfl rfl (by show 2 * 0 + _ ≤ _; exact Nat.le_of_eq rfl) (hb hby d_jdk_43_method_47_16) (by decide) (by decide) ?_
  intro T150 h150 v150 L150 X150 q150 K150
  obtain ⟨⟨-, u150, ku150, rfl, U150, gu150⟩, -⟩ := q150
  replace A149 := A149.ext K150.oExt
  replace F_a149_value := F_a149_value.ext K150.oExt
  replace F_a149_coder := F_a149_coder.ext K150.oExt
  show Goes _ _ _ _ T150 (mkF m 19 #[.val (.ref t), .val (.int (1 : Int32)), .val (.int (1 : Int32))] [(.ref u150), (.ref a149), (.ref a149)])
  refine Goes.go (fun _ kS_ => XS.iconst X150.here X150.ex rfl (hb hby d_jdk_43_method_47_19) kS_) ?_
  show Goes _ _ _ _ T150 (mkF m 20 #[.val (.ref t), .val (.int (1 : Int32)), .val (.int (1 : Int32))] [(.int (0 : Int32)), (.ref u150), (.ref a149), (.ref a149)])
  refine Wk.special (hm' := fun _ => h0) (y := (⟨"java/lang/String", "<init>", "([BB)V"⟩ : MethodName)) (W := 1) (kc := 0) (ks := 0) (argsL := [(.ref u150), (.int (0 : Int32))]) (rest := [(.ref a149)]) (as' := #[(.ref a149), (.ref u150), (.int (0 : Int32))]) (ws := [a149]) X150 rfl (w_126 hw) (w_127 hw) (w_128 hw) (by decide) (CtrN.pays (own_newB l Z a0 hw h150 X150.old a149 u150 A149 F_a149_value F_a149_coder gz_a149) (w_128 hw) (w_7 hw) (by decide) (by decide)) (fun v h' L q => ⟨q.2, q.1.1⟩) (allS gz_a149 all0) (fun _ => Mark.stay (allS gm_a149 all0)) rfl (by rw [hml]; rfl) (lenOf pd_9 rfl) rfl rfl (by show 2 * 0 + _ ≤ _; exact Nat.le_of_eq rfl) (hb hby d_jdk_43_method_47_20) (by decide) (by decide) ?_
  intro T151 h151 v151 L151 X151 q151 K151
  obtain ⟨⟨-, rfl, Es151, Vs151, Cs151⟩, -⟩ := q151
  show Goes _ _ _ _ T151 (mkF m 23 #[.val (.ref t), .val (.int (1 : Int32)), .val (.int (1 : Int32))] [(.ref a149)])
  have nt : u150 ∉ [a149] := ninS (Exa.neArv A149 U150 (w_6 hw)).symm nin0
  replace U150 := U150.keep K151 nt
  have hpp : ∀ c ∈ ([d1] : List Int32), ¬ c < 0 ∧ ¬ (255 : Int32) < c := by
      intro c hc
      simp only [List.mem_cons, List.not_mem_nil, or_false] at hc
      rcases hc with rfl
      · exact b1
  refine Goes.outS X151 hEL (fun q => by rw [hret] at q; cases q) hlk (X151.rA hret rfl rfl (hb hby d_jdk_43_method_47_23)) ?_ (by decide) (by decide)
  exact ⟨Ext.oKeepOf X151.ext [], a149, rfl, Es151, Cs151, ⟨_, _, Vs151, U150⟩, hpp, Nat.le_of_ble_eq_true rfl⟩
set_option maxRecDepth 65536 in
set_option maxHeartbeats 40000000 in
theorem own_nst22 (l : Launch) (Z : State) (a0 : Array Value) (hw : ∀ d ∈ tables_1, d.before a0 Z = true) (hEL : EW Z a0 consts_1) (h0 : Heap) (hO : Ext Z.heap h0) (t : Addr) (kb : ClassId) (d0 : Int32) (d1 : Int32) (V_t : Arv Z h0 t kb .byte (2 : Int32) [(.int (d0.toInt8.toInt32)), (.int (d1.toInt8.toInt32))] (.int (0 : Int32))) (b0 : ¬ d0 < 0 ∧ ¬ (255 : Int32) < d0) (b1 : ¬ d1 < 0 ∧ ¬ (255 : Int32) < d1) :
    CtrS l Z consts_1 (⟨"java/lang/StringLatin1", "newString", "([BII)Ljava/lang/String;"⟩ : MethodName) jdk_43_method_47_code 3 (some (.object "java/lang/String")) ({ frames := 3, cells := 2, slots := 7, locals := 50 } : Room) #[(.ref t), (.int (2 : Int32)), (.int (0 : Int32))] h0 (fun v h' => Keep h0 h' [] ∧ ∃ a, v = some (.ref a) ∧ LStr Z h' a ([] : List Int32)) := by
  refine CtrS.of (plainFor_of_name pn_1) hO ?_
  intro p e s m below meth c T0 X0 hsh hby hml hret hlk hnm
  refine Goes.cast (ef_own_nst22 m t) ?_
  show Goes _ _ _ _ T0 (mkF m 0 #[.val (.ref t), .val (.int (2 : Int32)), .val (.int (0 : Int32))] [])
  refine Goes.go (fun _ kS_ => XS.iloadN X0.here X0.ex rfl (hb hby d_jdk_43_method_47_0) rfl (XS.ifNo X0.here X0.ex rfl (hb hby d_jdk_43_method_47_1) rfl ((if0 _ _).trans (cd_f (cd := .ne) (x := (0 : Int32)) (y := (0 : Int32)) (by decide))) kS_)) ?_
  show Goes _ _ _ _ T0 (mkF m 4 #[.val (.ref t), .val (.int (2 : Int32)), .val (.int (0 : Int32))] [])
  refine Wk.ldcR X0 (w_108 hw) (own_wS hw) hEL (by decide) (vs := []) (z := 0) ⟨by decide, rfl⟩ (by decide) rfl rfl (hb hby d_jdk_43_method_47_4) (n := 0) (by decide) (by decide) (by decide) (by decide) ?_
  intro T153 h153 a153 b153 k153 X153 E153 Ea153 Ca153 Va153 Ab153
  have S_a153 : LStr Z h153 a153 ([] : List Int32) := ⟨Ea153, Ca153, ⟨_, _, Va153, Ab153⟩, (fun _ q => nomatch q), Nat.le_of_ble_eq_true rfl⟩
  show Goes _ _ _ _ T153 (mkF m 6 #[.val (.ref t), .val (.int (2 : Int32)), .val (.int (0 : Int32))] [(.ref a153)])
  refine Goes.outS X153 hEL (fun q => by rw [hret] at q; cases q) hlk (X153.rA hret rfl rfl (hb hby d_jdk_43_method_47_6)) ?_ (by decide) (by decide)
  exact ⟨Ext.oKeepOf E153 [], a153, rfl, S_a153⟩
set_option maxRecDepth 65536 in
set_option maxHeartbeats 40000000 in
theorem own_nst11 (l : Launch) (Z : State) (a0 : Array Value) (hw : ∀ d ∈ tables_1, d.before a0 Z = true) (hEL : EW Z a0 consts_1) (h0 : Heap) (hO : Ext Z.heap h0) (t : Addr) (kb : ClassId) (d0 : Int32) (V_t : Arv Z h0 t kb .byte (1 : Int32) [(.int (d0.toInt8.toInt32))] (.int (0 : Int32))) (b0 : ¬ d0 < 0 ∧ ¬ (255 : Int32) < d0) :
    CtrS l Z consts_1 (⟨"java/lang/StringLatin1", "newString", "([BII)Ljava/lang/String;"⟩ : MethodName) jdk_43_method_47_code 3 (some (.object "java/lang/String")) ({ frames := 3, cells := 2, slots := 7, locals := 50 } : Room) #[(.ref t), (.int (1 : Int32)), (.int (0 : Int32))] h0 (fun v h' => Keep h0 h' [] ∧ ∃ a, v = some (.ref a) ∧ LStr Z h' a ([] : List Int32)) := by
  refine CtrS.of (plainFor_of_name pn_1) hO ?_
  intro p e s m below meth c T0 X0 hsh hby hml hret hlk hnm
  refine Goes.cast (ef_own_nst11 m t) ?_
  show Goes _ _ _ _ T0 (mkF m 0 #[.val (.ref t), .val (.int (1 : Int32)), .val (.int (0 : Int32))] [])
  refine Goes.go (fun _ kS_ => XS.iloadN X0.here X0.ex rfl (hb hby d_jdk_43_method_47_0) rfl (XS.ifNo X0.here X0.ex rfl (hb hby d_jdk_43_method_47_1) rfl ((if0 _ _).trans (cd_f (cd := .ne) (x := (0 : Int32)) (y := (0 : Int32)) (by decide))) kS_)) ?_
  show Goes _ _ _ _ T0 (mkF m 4 #[.val (.ref t), .val (.int (1 : Int32)), .val (.int (0 : Int32))] [])
  refine Wk.ldcR X0 (w_108 hw) (own_wS hw) hEL (by decide) (vs := []) (z := 0) ⟨by decide, rfl⟩ (by decide) rfl rfl (hb hby d_jdk_43_method_47_4) (n := 0) (by decide) (by decide) (by decide) (by decide) ?_
  intro T155 h155 a155 b155 k155 X155 E155 Ea155 Ca155 Va155 Ab155
  have S_a155 : LStr Z h155 a155 ([] : List Int32) := ⟨Ea155, Ca155, ⟨_, _, Va155, Ab155⟩, (fun _ q => nomatch q), Nat.le_of_ble_eq_true rfl⟩
  show Goes _ _ _ _ T155 (mkF m 6 #[.val (.ref t), .val (.int (1 : Int32)), .val (.int (0 : Int32))] [(.ref a155)])
  refine Goes.outS X155 hEL (fun q => by rw [hret] at q; cases q) hlk (X155.rA hret rfl rfl (hb hby d_jdk_43_method_47_6)) ?_ (by decide) (by decide)
  exact ⟨Ext.oKeepOf E155 [], a155, rfl, S_a155⟩
theorem own_nst (l : Launch) (Z : State) (a0 : Array Value) (hw : ∀ d ∈ tables_1, d.before a0 Z = true) (hEL : EW Z a0 consts_1) (h0 : Heap) (hO : Ext Z.heap h0) (t : Addr) (kb : ClassId) (cs : List Int32) (sN : Nat) (s0 : Int32) (m0 : Int32) (hs0 : s0 = Int32.ofNat sN) (hm0 : m0 = (Int32.ofNat cs.length) - Int32.ofNat sN) (hs : 0 < sN) (hs1 : sN ≤ cs.length) (V_t : Arv Z h0 t kb .byte (Int32.ofNat cs.length) ((cs.map fun c => c.toInt8.toInt32).map Value.int) (.int (0 : Int32))) (hp : ∀ c ∈ cs, ¬ c < 0 ∧ ¬ (255 : Int32) < c) (h4 : cs.length ≤ 4) :
    CtrS l Z consts_1 (⟨"java/lang/StringLatin1", "newString", "([BII)Ljava/lang/String;"⟩ : MethodName) jdk_43_method_47_code 3 (some (.object "java/lang/String")) ({ frames := 3, cells := 2, slots := 7, locals := 50 } : Room) #[(.ref t), (.int s0), (.int m0)] h0 (fun v h' => Keep h0 h' [] ∧ ∃ a, v = some (.ref a) ∧ LStr Z h' a (cs.drop sN)) := by
  subst hs0
  match cs, sN, h4, hs, hs1, hp, V_t, hm0 with
  | [d0], 1, _, _, _, hp, V_t, hm0 =>
    obtain rfl : m0 = (0 : Int32) := hm0.trans (by simp only [List.length_cons, List.length_nil]; decide)
    exact own_nst11 l Z a0 hw hEL h0 hO t kb d0 V_t (hp d0 (by simp))
  | [d0, d1], 1, _, _, _, hp, V_t, hm0 =>
    obtain rfl : m0 = (1 : Int32) := hm0.trans (by simp only [List.length_cons, List.length_nil]; decide)
    exact own_nst21 l Z a0 hw hEL h0 hO t kb d0 d1 V_t (hp d0 (by simp)) (hp d1 (by simp))
  | [d0, d1], 2, _, _, _, hp, V_t, hm0 =>
    obtain rfl : m0 = (0 : Int32) := hm0.trans (by simp only [List.length_cons, List.length_nil]; decide)
    exact own_nst22 l Z a0 hw hEL h0 hO t kb d0 d1 V_t (hp d0 (by simp)) (hp d1 (by simp))
  | [d0, d1, d2], 1, _, _, _, hp, V_t, hm0 =>
    obtain rfl : m0 = (2 : Int32) := hm0.trans (by simp only [List.length_cons, List.length_nil]; decide)
    exact own_nst31 l Z a0 hw hEL h0 hO t kb d0 d1 d2 V_t (hp d0 (by simp)) (hp d1 (by simp)) (hp d2 (by simp))
  | [d0, d1, d2], 2, _, _, _, hp, V_t, hm0 =>
    obtain rfl : m0 = (1 : Int32) := hm0.trans (by simp only [List.length_cons, List.length_nil]; decide)
    exact own_nst32 l Z a0 hw hEL h0 hO t kb d0 d1 d2 V_t (hp d0 (by simp)) (hp d1 (by simp)) (hp d2 (by simp))
  | [d0, d1, d2], 3, _, _, _, hp, V_t, hm0 =>
    obtain rfl : m0 = (0 : Int32) := hm0.trans (by simp only [List.length_cons, List.length_nil]; decide)
    exact own_nst33 l Z a0 hw hEL h0 hO t kb d0 d1 d2 V_t (hp d0 (by simp)) (hp d1 (by simp)) (hp d2 (by simp))
  | [d0, d1, d2, d3], 1, _, _, _, hp, V_t, hm0 =>
    obtain rfl : m0 = (3 : Int32) := hm0.trans (by simp only [List.length_cons, List.length_nil]; decide)
    exact own_nst41 l Z a0 hw hEL h0 hO t kb d0 d1 d2 d3 V_t (hp d0 (by simp)) (hp d1 (by simp)) (hp d2 (by simp)) (hp d3 (by simp))
  | [d0, d1, d2, d3], 2, _, _, _, hp, V_t, hm0 =>
    obtain rfl : m0 = (2 : Int32) := hm0.trans (by simp only [List.length_cons, List.length_nil]; decide)
    exact own_nst42 l Z a0 hw hEL h0 hO t kb d0 d1 d2 d3 V_t (hp d0 (by simp)) (hp d1 (by simp)) (hp d2 (by simp)) (hp d3 (by simp))
  | [d0, d1, d2, d3], 3, _, _, _, hp, V_t, hm0 =>
    obtain rfl : m0 = (1 : Int32) := hm0.trans (by simp only [List.length_cons, List.length_nil]; decide)
    exact own_nst43 l Z a0 hw hEL h0 hO t kb d0 d1 d2 d3 V_t (hp d0 (by simp)) (hp d1 (by simp)) (hp d2 (by simp)) (hp d3 (by simp))
  | [d0, d1, d2, d3], 4, _, _, _, hp, V_t, hm0 =>
    obtain rfl : m0 = (0 : Int32) := hm0.trans (by simp only [List.length_cons, List.length_nil]; decide)
    exact own_nst44 l Z a0 hw hEL h0 hO t kb d0 d1 d2 d3 V_t (hp d0 (by simp)) (hp d1 (by simp)) (hp d2 (by simp)) (hp d3 (by simp))
  | _, 0, _, h, _, _, _, _ => exact absurd h (by omega)
  | [], sN + 1, _, _, h, _, _, _ => exact absurd h (by simp only [List.length_cons, List.length_nil]; omega)
  | [_], sN + 2, _, _, h, _, _, _ => exact absurd h (by simp only [List.length_cons, List.length_nil]; omega)
  | [_, _], sN + 3, _, _, h, _, _, _ => exact absurd h (by simp only [List.length_cons, List.length_nil]; omega)
  | [_, _, _], sN + 4, _, _, h, _, _, _ => exact absurd h (by simp only [List.length_cons, List.length_nil]; omega)
  | [_, _, _, _], sN + 5, _, _, h, _, _, _ => exact absurd h (by simp only [List.length_cons, List.length_nil]; omega)
  | _ :: _ :: _ :: _ :: _ :: _, _, h, _, _, _, _, _ => exact absurd h (by simp only [List.length_cons, List.length_nil]; omega)
set_option maxRecDepth 65536 in
set_option maxHeartbeats 40000000 in
theorem own_sbB (l : Launch) (Z : State) (a0 : Array Value) (hw : ∀ d ∈ tables_1, d.before a0 Z = true) (hEL : EW Z a0 consts_1) (h0 : Heap) (hO : Ext Z.heap h0) (x : Addr) (G1 : Int32) (G3 : Value) (cs : List Int32) (sN : Nat) (s0 : Int32) (n0 : Int32) (O2 : Sta Z Z.heap "java/lang/String" "COMPACT_STRINGS" "Z" (.int G1)) (P5 : ¬ (G1 = (0 : Int32))) (O4 : Sta Z Z.heap "jdk/internal/util/Preconditions" "SIOOBE_FORMATTER" "Ljava/util/function/BiFunction;" G3) (r_G3 : G3.isRef = true) (S_x : LStr Z h0 x cs) (h4 : cs.length ≤ 4) (hs1 : sN ≤ cs.length) (hs0 : s0 = Int32.ofNat sN) (hn0 : n0 = (Int32.ofNat cs.length)) :
    CtrS l Z consts_1 (⟨"java/lang/String", "substring", "(II)Ljava/lang/String;"⟩ : MethodName) jdk_42_method_92_code 5 (some (.object "java/lang/String")) ({ frames := 4, cells := 2, slots := 7, locals := 64 } : Room) #[(.ref x), (.int s0), (.int n0)] h0 (fun v h' => Keep h0 h' [] ∧ ∃ a, v = some (.ref a) ∧ LStr Z h' a (cs.drop sN)) := by
  refine CtrS.of (plainFor_of_name pn_0) hO ?_
  intro p e s m below meth c T0 X0 hsh hby hml hret hlk hnm
  refine Goes.cast (ef_own_sbB m x s0 n0) ?_
  show Goes _ _ _ _ T0 (mkF m 0 #[.val (.ref x), .val (.int s0), .val (.int n0), .unset, .unset] [])
  subst hs0 hn0
  show Goes _ _ _ _ T0 (mkF m 0 #[.val (.ref x), .val (.int (Int32.ofNat sN)), .val (.int (Int32.ofNat cs.length)), .unset, .unset] [])
  obtain ⟨Es162, Cs162, ⟨t162, kb162, Vs162, Ks162⟩, hp162, hl162⟩ := id S_x
  have KK : Keep h0 h0 [] := Keep.refl _ _
  refine Goes.go (fun _ kS_ => XS.aloadN X0.here X0.ex rfl (hb hby d_jdk_42_method_92_0) rfl rfl kS_) ?_
  show Goes _ _ _ _ T0 (mkF m 1 #[.val (.ref x), .val (.int (Int32.ofNat sN)), .val (.int (Int32.ofNat cs.length)), .unset, .unset] [(.ref x)])
  refine Wk.virtual (hm' := fun _ => h0) (C := "java/lang/String") (y := (⟨"java/lang/String", "length", "()I"⟩ : MethodName)) (z := (⟨"java/lang/String", "length", "()I"⟩ : MethodName)) (W := 0) (kc := 0) (ks := 0) (argsL := []) (rest := []) (as' := #[(.ref x)]) (ws := []) X0 (w_39 hw) (w_40 hw) (w_42 hw) (w_41 hw) (by decide) S_x.1 (nf_sel (w_42 hw)) (own_lenP (own_wsLen hw) (kI := 4) (w_6 hw) S_x O2 P5 X0.old (by decide) (by decide)) (fun v h' L q => ⟨by rw [q.2.1]; exact Fr.nil _, by rw [q.2.2]; exact Keep.refl _ _⟩) all0 (fun _ => Mark.stay all0) rfl (by rw [hml]; rfl) (lenOf pd_5 rfl) rfl rfl (by show 2 * 0 + _ ≤ _; exact Nat.le_of_eq rfl) (hb hby d_jdk_42_method_92_1) (by decide) (by decide) ?_
  intro T163 h163 v163 L163 X163 q163 K163
  obtain ⟨rfl, -, -⟩ := q163
  replace S_x := S_x.ext K163.oExt
  replace Es162 := Es162.ext K163.oExt
  replace Cs162 := Cs162.ext K163.oExt
  replace Vs162 := Vs162.ext K163.oExt
  replace Ks162 := Ks162.ext K163.oExt
  replace KK := KK.ext K163.oExt
  show Goes _ _ _ _ T163 (mkF m 4 #[.val (.ref x), .val (.int (Int32.ofNat sN)), .val (.int (Int32.ofNat cs.length)), .unset, .unset] [(.int (Int32.ofNat cs.length))])
  refine Goes.go (fun _ kS_ => XS.istoreN X163.here X163.ex rfl (hb hby d_jdk_42_method_92_4) rfl (l' := #[.val (.ref x), .val (.int (Int32.ofNat sN)), .val (.int (Int32.ofNat cs.length)), .val (.int (Int32.ofNat cs.length)), .unset]) rfl (XS.iloadN X163.here X163.ex rfl (hb hby d_jdk_42_method_92_5) rfl (XS.iloadN X163.here X163.ex rfl (hb hby d_jdk_42_method_92_6) rfl (XS.iloadN X163.here X163.ex rfl (hb hby d_jdk_42_method_92_7) rfl kS_)))) ?_
  show Goes _ _ _ _ T163 (mkF m 8 #[.val (.ref x), .val (.int (Int32.ofNat sN)), .val (.int (Int32.ofNat cs.length)), .val (.int (Int32.ofNat cs.length)), .unset] [(.int (Int32.ofNat cs.length)), (.int (Int32.ofNat cs.length)), (.int (Int32.ofNat sN))])
  refine Wk.static (hm' := fun _ => h0) (y := (⟨"java/lang/String", "checkBoundsBeginEnd", "(III)V"⟩ : MethodName)) (W := 0) (kc := 0) (ks := 0) (argsL := [(.int (Int32.ofNat sN)), (.int (Int32.ofNat cs.length)), (.int (Int32.ofNat cs.length))]) (rest := []) (as' := #[(.int (Int32.ofNat sN)), (.int (Int32.ofNat cs.length)), (.int (Int32.ofNat cs.length))]) (ws := []) X163 (w_97 hw) (w_98 hw) (w_7 hw) (w_99 hw) (by decide) (CtrN.pays (own_cbe l Z a0 hw h163 X163.old (Int32.ofNat sN) (Int32.ofNat cs.length) G3 O4 r_G3 (own_f1 (Nat.le_trans hs1 h4)) (own_f2 hs1 h4)) (w_99 hw) (w_7 hw) (by decide) (by decide)) (fun v h' L q => ⟨q.2, q.1.1⟩) all0 (fun _ => Mark.stay all0) rfl (by rw [hml]; rfl) (lenOf pd_10 rfl) rfl rfl (by show 2 * 0 + _ ≤ _; exact Nat.le_of_eq rfl) (hb hby d_jdk_42_method_92_8) (by decide) (by decide) ?_
  intro T164 h164 v164 L164 X164 q164 K164
  obtain ⟨⟨-, rfl⟩, -⟩ := q164
  replace S_x := S_x.ext K164.oExt
  replace Es162 := Es162.ext K164.oExt
  replace Cs162 := Cs162.ext K164.oExt
  replace Vs162 := Vs162.ext K164.oExt
  replace Ks162 := Ks162.ext K164.oExt
  replace KK := KK.ext K164.oExt
  show Goes _ _ _ _ T164 (mkF m 11 #[.val (.ref x), .val (.int (Int32.ofNat sN)), .val (.int (Int32.ofNat cs.length)), .val (.int (Int32.ofNat cs.length)), .unset] [])
  refine Goes.go (fun _ kS_ => XS.iloadN X164.here X164.ex rfl (hb hby d_jdk_42_method_92_11) rfl kS_) ?_
  show Goes _ _ _ _ T164 (mkF m 12 #[.val (.ref x), .val (.int (Int32.ofNat sN)), .val (.int (Int32.ofNat cs.length)), .val (.int (Int32.ofNat cs.length)), .unset] [(.int (Int32.ofNat sN))])
  refine Goes.ifc (pc' := 22) X164.here X164.ex (hb hby d_jdk_42_method_92_12) (by decide) (by decide) (fun hc12 => ?_) (fun hc12 => ?_)
  · have hc12 : ¬ ((Int32.ofNat sN) = (0 : Int32)) := hc12
    show Goes _ _ _ _ T164 (mkF m 22 #[.val (.ref x), .val (.int (Int32.ofNat sN)), .val (.int (Int32.ofNat cs.length)), .val (.int (Int32.ofNat cs.length)), .unset] [])
    refine Goes.go (fun _ kS_ => XS.iloadN X164.here X164.ex rfl (hb hby d_jdk_42_method_92_22) rfl (XS.iloadN X164.here X164.ex rfl (hb hby d_jdk_42_method_92_23) rfl (XS.isub X164.here X164.ex rfl (hb hby d_jdk_42_method_92_24) rfl (XS.istore X164.here X164.ex rfl (hb hby d_jdk_42_method_92_25) rfl (l' := #[.val (.ref x), .val (.int (Int32.ofNat sN)), .val (.int (Int32.ofNat cs.length)), .val (.int (Int32.ofNat cs.length)), .val (.int ((Int32.ofNat cs.length) - (Int32.ofNat sN)))]) rfl (XS.aloadN X164.here X164.ex rfl (hb hby d_jdk_42_method_92_27) rfl rfl kS_))))) ?_
    show Goes _ _ _ _ T164 (mkF m 28 #[.val (.ref x), .val (.int (Int32.ofNat sN)), .val (.int (Int32.ofNat cs.length)), .val (.int (Int32.ofNat cs.length)), .val (.int ((Int32.ofNat cs.length) - (Int32.ofNat sN)))] [(.ref x)])
    refine Wk.virtual (hm' := fun _ => h0) (C := "java/lang/String") (y := (⟨"java/lang/String", "isLatin1", "()Z"⟩ : MethodName)) (z := (⟨"java/lang/String", "isLatin1", "()Z"⟩ : MethodName)) (W := 0) (kc := 0) (ks := 0) (argsL := []) (rest := []) (as' := #[(.ref x)]) (ws := []) X164 (w_55 hw) (w_56 hw) (w_58 hw) (w_57 hw) (by decide) Es162 (nf_sel (w_58 hw)) (CtrN.pays (own_isL1 l Z a0 hw h164 X164.old x G1 O2 P5 Cs162) (w_59 hw) (w_7 hw) (by decide) (by decide)) (fun v h' L q => ⟨q.2, q.1.1⟩) all0 (fun _ => Mark.stay all0) rfl (by rw [hml]; rfl) (lenOf pd_3 rfl) rfl rfl (by show 2 * 0 + _ ≤ _; exact Nat.le_of_eq rfl) (hb hby d_jdk_42_method_92_28) (by decide) (by decide) ?_
    intro T165 h165 v165 L165 X165 q165 K165
    obtain ⟨⟨-, rfl⟩, -⟩ := q165
    replace S_x := S_x.ext K165.oExt
    replace Es162 := Es162.ext K165.oExt
    replace Cs162 := Cs162.ext K165.oExt
    replace Vs162 := Vs162.ext K165.oExt
    replace Ks162 := Ks162.ext K165.oExt
    replace KK := KK.ext K165.oExt
    show Goes _ _ _ _ T165 (mkF m 31 #[.val (.ref x), .val (.int (Int32.ofNat sN)), .val (.int (Int32.ofNat cs.length)), .val (.int (Int32.ofNat cs.length)), .val (.int ((Int32.ofNat cs.length) - (Int32.ofNat sN)))] [(.int (1 : Int32))])
    refine Goes.go (fun _ kS_ => XS.ifNo X165.here X165.ex rfl (hb hby d_jdk_42_method_92_31) rfl ((if0 _ _).trans (cd_f (cd := .eq) (x := (1 : Int32)) (y := (0 : Int32)) (by decide))) (XS.aloadN X165.here X165.ex rfl (hb hby d_jdk_42_method_92_34) rfl rfl kS_)) ?_
    show Goes _ _ _ _ T165 (mkF m 35 #[.val (.ref x), .val (.int (Int32.ofNat sN)), .val (.int (Int32.ofNat cs.length)), .val (.int (Int32.ofNat cs.length)), .val (.int ((Int32.ofNat cs.length) - (Int32.ofNat sN)))] [(.ref x)])
    refine Wk.getF X165 (host := "") (Or.inl (w_25 hw)) Via.refl Vs162 rfl rfl (hb hby d_jdk_42_method_92_35) ?_
    intro T166 X166
    show Goes _ _ _ _ T166 (mkF m 38 #[.val (.ref x), .val (.int (Int32.ofNat sN)), .val (.int (Int32.ofNat cs.length)), .val (.int (Int32.ofNat cs.length)), .val (.int ((Int32.ofNat cs.length) - (Int32.ofNat sN)))] [(.ref t162)])
    refine Goes.go (fun _ kS_ => XS.iloadN X166.here X166.ex rfl (hb hby d_jdk_42_method_92_38) rfl (XS.iload X166.here X166.ex rfl (hb hby d_jdk_42_method_92_39) rfl kS_)) ?_
    show Goes _ _ _ _ T166 (mkF m 41 #[.val (.ref x), .val (.int (Int32.ofNat sN)), .val (.int (Int32.ofNat cs.length)), .val (.int (Int32.ofNat cs.length)), .val (.int ((Int32.ofNat cs.length) - (Int32.ofNat sN)))] [(.int ((Int32.ofNat cs.length) - (Int32.ofNat sN))), (.int (Int32.ofNat sN)), (.ref t162)])
    refine Wk.staticS (y := (⟨"java/lang/StringLatin1", "newString", "([BII)Ljava/lang/String;"⟩ : MethodName)) (W := 0) (kc := 2) (ks := 7) (argsL := [(.ref t162), (.int (Int32.ofNat sN)), (.int ((Int32.ofNat cs.length) - (Int32.ofNat sN)))]) (rest := []) (as' := #[(.ref t162), (.int (Int32.ofNat sN)), (.int ((Int32.ofNat cs.length) - (Int32.ofNat sN)))]) (ws := []) X166 (w_105 hw) (w_106 hw) (w_62 hw) (w_107 hw) (by decide) (CtrS.pays (own_nst l Z a0 hw hEL h165 X166.old t162 kb162 cs sN (Int32.ofNat sN) ((Int32.ofNat cs.length) - (Int32.ofNat sN)) rfl rfl (Nat.pos_of_ne_zero fun q => hc12 (by rw [q]; rfl)) hs1 Ks162 hp162 h4) (w_107 hw) (w_62 hw) (by decide) (by decide) hEL) (fun v h' L q => ⟨q.2, q.1.1⟩) all0 rfl (by rw [hml]; rfl) (lenOf pd_11 rfl) rfl rfl (by show 2 * 0 + _ ≤ _; exact Nat.le_of_eq rfl) (hb hby d_jdk_42_method_92_41) (by decide) (by decide) ?_
    intro T167 h167 v167 L167 X167 q167 K167
    obtain ⟨⟨-, a167, rfl, Sa167⟩, -⟩ := q167
    replace S_x := S_x.ext K167.oExt
    replace Es162 := Es162.ext K167.oExt
    replace Cs162 := Cs162.ext K167.oExt
    replace Vs162 := Vs162.ext K167.oExt
    replace Ks162 := Ks162.ext K167.oExt
    replace KK := KK.ext K167.oExt
    show Goes _ _ _ _ T167 (mkF m 44 #[.val (.ref x), .val (.int (Int32.ofNat sN)), .val (.int (Int32.ofNat cs.length)), .val (.int (Int32.ofNat cs.length)), .val (.int ((Int32.ofNat cs.length) - (Int32.ofNat sN)))] [(.ref a167)])
    refine Goes.go (fun _ kS_ => XS.goto X167.here X167.ex rfl (pc0 := 44) (pc' := 57) rfl (hb hby d_jdk_42_method_92_44) (by decide) (by decide) kS_) ?_
    show Goes _ _ _ _ T167 (mkF m 57 #[.val (.ref x), .val (.int (Int32.ofNat sN)), .val (.int (Int32.ofNat cs.length)), .val (.int (Int32.ofNat cs.length)), .val (.int ((Int32.ofNat cs.length) - (Int32.ofNat sN)))] [(.ref a167)])
    refine Goes.outS X167 hEL (fun q => by rw [hret] at q; cases q) hlk (X167.rA hret rfl rfl (hb hby d_jdk_42_method_92_57)) ?_ (by decide) (by decide)
    exact ⟨KK, a167, rfl, Sa167⟩
  · have hc12 : (Int32.ofNat sN) = (0 : Int32) := Classical.not_not.mp hc12
    show Goes _ _ _ _ T164 (mkF m 15 #[.val (.ref x), .val (.int (Int32.ofNat sN)), .val (.int (Int32.ofNat cs.length)), .val (.int (Int32.ofNat cs.length)), .unset] [])
    refine Goes.go (fun _ kS_ => XS.iloadN X164.here X164.ex rfl (hb hby d_jdk_42_method_92_15) rfl (XS.iloadN X164.here X164.ex rfl (hb hby d_jdk_42_method_92_16) rfl kS_)) ?_
    show Goes _ _ _ _ T164 (mkF m 17 #[.val (.ref x), .val (.int (Int32.ofNat sN)), .val (.int (Int32.ofNat cs.length)), .val (.int (Int32.ofNat cs.length)), .unset] [(.int (Int32.ofNat cs.length)), (.int (Int32.ofNat cs.length))])
    refine Goes.go (fun _ kS_ => XS.icmpNo X164.here X164.ex rfl (hb hby d_jdk_42_method_92_17) rfl (cd_f (cd := .ne) (x := (Int32.ofNat cs.length)) (y := (Int32.ofNat cs.length)) ((fun q => absurd (rfl) q))) kS_) ?_
    show Goes _ _ _ _ T164 (mkF m 20 #[.val (.ref x), .val (.int (Int32.ofNat sN)), .val (.int (Int32.ofNat cs.length)), .val (.int (Int32.ofNat cs.length)), .unset] [])
    refine Goes.go (fun _ kS_ => XS.aloadN X164.here X164.ex rfl (hb hby d_jdk_42_method_92_20) rfl rfl kS_) ?_
    show Goes _ _ _ _ T164 (mkF m 21 #[.val (.ref x), .val (.int (Int32.ofNat sN)), .val (.int (Int32.ofNat cs.length)), .val (.int (Int32.ofNat cs.length)), .unset] [(.ref x)])
    obtain rfl := own_f3 (Nat.le_trans hs1 h4) hc12
    refine Goes.outS X164 hEL (fun q => by rw [hret] at q; cases q) hlk (X164.rA hret rfl rfl (hb hby d_jdk_42_method_92_21)) ?_ (by decide) (by decide)
    exact ⟨KK, x, rfl, S_x⟩
set_option maxRecDepth 65536 in
set_option maxHeartbeats 40000000 in
theorem own_sb (l : Launch) (Z : State) (a0 : Array Value) (hw : ∀ d ∈ tables_1, d.before a0 Z = true) (hEL : EW Z a0 consts_1) (h0 : Heap) (hO : Ext Z.heap h0) (x : Addr) (G1 : Int32) (G3 : Value) (cs : List Int32) (sN : Nat) (s0 : Int32) (O2 : Sta Z Z.heap "java/lang/String" "COMPACT_STRINGS" "Z" (.int G1)) (P5 : ¬ (G1 = (0 : Int32))) (O4 : Sta Z Z.heap "jdk/internal/util/Preconditions" "SIOOBE_FORMATTER" "Ljava/util/function/BiFunction;" G3) (r_G3 : G3.isRef = true) (S_x : LStr Z h0 x cs) (h4 : cs.length ≤ 4) (hs1 : sN ≤ cs.length) (hs0 : s0 = Int32.ofNat sN) :
    CtrS l Z consts_1 (⟨"java/lang/String", "substring", "(I)Ljava/lang/String;"⟩ : MethodName) jdk_42_method_91_code 2 (some (.object "java/lang/String")) ({ frames := 5, cells := 2, slots := 7, locals := 80 } : Room) #[(.ref x), (.int s0)] h0 (fun v h' => Keep h0 h' [] ∧ ∃ a, v = some (.ref a) ∧ LStr Z h' a (cs.drop sN)) := by
  refine CtrS.of (plainFor_of_name pn_0) hO ?_
  intro p e s m below meth c T0 X0 hsh hby hml hret hlk hnm
  refine Goes.cast (ef_own_sb m x s0) ?_
  show Goes _ _ _ _ T0 (mkF m 0 #[.val (.ref x), .val (.int s0)] [])
  have KK : Keep h0 h0 [] := Keep.refl _ _
  refine Goes.go (fun _ kS_ => XS.aloadN X0.here X0.ex rfl (hb hby d_jdk_42_method_91_0) rfl rfl (XS.iloadN X0.here X0.ex rfl (hb hby d_jdk_42_method_91_1) rfl (XS.aloadN X0.here X0.ex rfl (hb hby d_jdk_42_method_91_2) rfl rfl kS_))) ?_
  show Goes _ _ _ _ T0 (mkF m 3 #[.val (.ref x), .val (.int s0)] [(.ref x), (.int s0), (.ref x)])
  refine Wk.virtual (hm' := fun _ => h0) (C := "java/lang/String") (y := (⟨"java/lang/String", "length", "()I"⟩ : MethodName)) (z := (⟨"java/lang/String", "length", "()I"⟩ : MethodName)) (W := 2) (kc := 0) (ks := 0) (argsL := []) (rest := [(.int s0), (.ref x)]) (as' := #[(.ref x)]) (ws := []) X0 (w_39 hw) (w_40 hw) (w_42 hw) (w_41 hw) (by decide) S_x.1 (nf_sel (w_42 hw)) (own_lenP (own_wsLen hw) (kI := 4) (w_6 hw) S_x O2 P5 X0.old (by decide) (by decide)) (fun v h' L q => ⟨by rw [q.2.1]; exact Fr.nil _, by rw [q.2.2]; exact Keep.refl _ _⟩) all0 (fun _ => Mark.stay all0) rfl (by rw [hml]; rfl) (lenOf pd_5 rfl) rfl rfl (by show 2 * 0 + _ ≤ _; exact Nat.le_of_eq rfl) (hb hby d_jdk_42_method_91_3) (by decide) (by decide) ?_
  intro T170 h170 v170 L170 X170 q170 K170
  obtain ⟨rfl, -, -⟩ := q170
  replace S_x := S_x.ext K170.oExt
  replace KK := KK.ext K170.oExt
  show Goes _ _ _ _ T170 (mkF m 6 #[.val (.ref x), .val (.int s0)] [(.int (Int32.ofNat cs.length)), (.int s0), (.ref x)])
  refine Wk.virtualS (C := "java/lang/String") (y := (⟨"java/lang/String", "substring", "(II)Ljava/lang/String;"⟩ : MethodName)) (z := (⟨"java/lang/String", "substring", "(II)Ljava/lang/String;"⟩ : MethodName)) (W := 0) (kc := 2) (ks := 7) (argsL := [(.int s0), (.int (Int32.ofNat cs.length))]) (rest := []) (as' := #[(.ref x), (.int s0), (.int (Int32.ofNat cs.length))]) (ws := []) X170 (w_92 hw) (w_93 hw) (w_95 hw) (w_94 hw) (by decide) S_x.1 (nf_sel (w_95 hw)) (CtrS.pays (own_sbB l Z a0 hw hEL h170 X170.old x G1 G3 cs sN s0 (Int32.ofNat cs.length) O2 P5 O4 r_G3 S_x h4 hs1 hs0 rfl) (w_96 hw) (w_7 hw) (by decide) (by decide) hEL) (fun v h' L q => ⟨q.2, q.1.1⟩) all0 rfl (by rw [hml]; rfl) (lenOf pd_12 rfl) rfl rfl (by show 2 * 0 + _ ≤ _; exact Nat.le_of_eq rfl) (hb hby d_jdk_42_method_91_6) (by decide) (by decide) ?_
  intro T171 h171 v171 L171 X171 q171 K171
  obtain ⟨⟨-, a171, rfl, Sa171⟩, -⟩ := q171
  replace S_x := S_x.ext K171.oExt
  replace KK := KK.ext K171.oExt
  show Goes _ _ _ _ T171 (mkF m 9 #[.val (.ref x), .val (.int s0)] [(.ref a171)])
  refine Goes.outS X171 hEL (fun q => by rw [hret] at q; cases q) hlk (X171.rA hret rfl rfl (hb hby d_jdk_42_method_91_9)) ?_ (by decide) (by decide)
  exact ⟨KK, a171, rfl, Sa171⟩
set_option maxRecDepth 65536 in
set_option maxHeartbeats 40000000 in
theorem own_chc (l : Launch) (Z : State) (a0 : Array Value) (hw : ∀ d ∈ tables_1, d.before a0 Z = true) (h0 : Heap) (hO : Ext Z.heap h0) (x0 : Int32)  :
    CtrN l Z (⟨"com/example/matchmaker/matchmaker/registry/ServiceIdExtensionOfPinLaw", "ch", "(I)C"⟩ : MethodName) method_2_code 2 (some .char) ({ frames := 0, cells := 0, slots := 0, locals := 0 } : Room) #[(.int x0)] h0 (fun v h' => Keep h0 h' [] ∧ ∃ d, v = some (.int d) ∧ (¬ d < 0 ∧ ¬ (255 : Int32) < d)) := by
  refine CtrN.of (plainFor_of_name pn_4) hO ?_
  intro p e s m below meth c T0 X0 hsh hby hml hret hlk hnm
  refine Goes.cast (ef_own_chc m x0) ?_
  show Goes _ _ _ _ T0 (mkF m 0 #[.val (.int x0), .unset] [])
  refine Goes.go (fun _ kS_ => XS.iloadN X0.here X0.ex rfl (hb hby d_method_2_0) rfl (XS.sipush X0.here X0.ex rfl (hb hby d_method_2_1) (XS.iand X0.here X0.ex rfl (hb hby d_method_2_4) rfl (XS.istoreN X0.here X0.ex rfl (hb hby d_method_2_5) rfl (l' := #[.val (.int x0), .val (.int (x0 &&& (511 : Int32)))]) rfl (XS.iloadN X0.here X0.ex rfl (hb hby d_method_2_6) rfl (XS.sipush X0.here X0.ex rfl (hb hby d_method_2_7) kS_)))))) ?_
  show Goes _ _ _ _ T0 (mkF m 10 #[.val (.int x0), .val (.int (x0 &&& (511 : Int32)))] [(.int (256 : Int32)), (.int (x0 &&& (511 : Int32)))])
  refine Goes.icmp (pc' := 16) X0.here X0.ex (hb hby d_method_2_10) (by decide) (by decide) (fun hc10 => ?_) (fun hc10 => ?_)
  · have hc10 : ¬ ((x0 &&& (511 : Int32)) < (256 : Int32)) := hc10
    show Goes _ _ _ _ T0 (mkF m 16 #[.val (.int x0), .val (.int (x0 &&& (511 : Int32)))] [])
    refine Goes.go (fun _ kS_ => XS.bipush X0.here X0.ex rfl (hb hby d_method_2_16) kS_) ?_
    show Goes _ _ _ _ T0 (mkF m 18 #[.val (.int x0), .val (.int (x0 &&& (511 : Int32)))] [(.int (46 : Int32))])
    refine Goes.outN X0 (fun q => by rw [hret] at q; cases q) hlk (X0.rB hret (by simp) (hb hby d_method_2_18)) ?_ (by decide) (by decide)
    exact ⟨Ext.oKeepOf X0.ext [], (46 : Int32), rfl, by decide⟩
  · have hc10 : (x0 &&& (511 : Int32)) < (256 : Int32) := Classical.not_not.mp hc10
    show Goes _ _ _ _ T0 (mkF m 13 #[.val (.int x0), .val (.int (x0 &&& (511 : Int32)))] [])
    have bz := own_511 x0 hc10
    refine Goes.go (fun _ kS_ => XS.iloadN X0.here X0.ex rfl (hb hby d_method_2_13) rfl (XS.i2c X0.here X0.ex rfl (hb hby d_method_2_14) rfl kS_)) ?_
    show Goes _ _ _ _ T0 (mkF m 15 #[.val (.int x0), .val (.int (x0 &&& (511 : Int32)))] [(.int ((x0 &&& (511 : Int32)).toUInt32.toUInt16.toUInt32.toInt32))])
    refine Goes.cast (congrArg (fun zq_ => (mkF m 15 #[.val (.int x0), .val (.int (x0 &&& (511 : Int32)))] [(.int zq_)])) (own_i2c bz)) ?_
    show Goes _ _ _ _ T0 (mkF m 15 #[.val (.int x0), .val (.int (x0 &&& (511 : Int32)))] [(.int (x0 &&& (511 : Int32)))])
    refine Goes.outN X0 (fun q => by rw [hret] at q; cases q) hlk (X0.rB hret (by simp) (hb hby d_method_2_15)) ?_ (by decide) (by decide)
    exact ⟨Ext.oKeepOf X0.ext [], _, rfl, by rw [own_narc bz]; exact bz⟩
set_option maxRecDepth 65536 in
set_option maxHeartbeats 40000000 in
theorem own_pickc (l : Launch) (Z : State) (a0 : Array Value) (hw : ∀ d ∈ tables_1, d.before a0 Z = true) (h0 : Heap) (hO : Ext Z.heap h0) (j : Int32) (d0 : Int32) (d1 : Int32) (d2 : Int32) (d3 : Int32) (b0 : ¬ d0 < 0 ∧ ¬ (255 : Int32) < d0) (b1 : ¬ d1 < 0 ∧ ¬ (255 : Int32) < d1) (b2 : ¬ d2 < 0 ∧ ¬ (255 : Int32) < d2) (b3 : ¬ d3 < 0 ∧ ¬ (255 : Int32) < d3) :
    CtrN l Z (⟨"com/example/matchmaker/matchmaker/registry/ServiceIdExtensionOfPinLaw", "pick", "(ICCCC)C"⟩ : MethodName) method_3_code 5 (some .char) ({ frames := 0, cells := 0, slots := 0, locals := 0 } : Room) #[(.int j), (.int d0), (.int d1), (.int d2), (.int d3)] h0 (fun v h' => Keep h0 h' [] ∧ v = some (.int (own_pick j d0 d1 d2 d3))) := by
  refine CtrN.of (plainFor_of_name pn_4) hO ?_
  intro p e s m below meth c T0 X0 hsh hby hml hret hlk hnm
  refine Goes.cast (ef_own_pickc m j d0 d1 d2 d3) ?_
  show Goes _ _ _ _ T0 (mkF m 0 #[.val (.int j), .val (.int d0), .val (.int d1), .val (.int d2), .val (.int d3)] [])
  refine Goes.go (fun _ kS_ => XS.iloadN X0.here X0.ex rfl (hb hby d_method_3_0) rfl kS_) ?_
  show Goes _ _ _ _ T0 (mkF m 1 #[.val (.int j), .val (.int d0), .val (.int d1), .val (.int d2), .val (.int d3)] [(.int j)])
  refine Goes.ifc (pc' := 6) X0.here X0.ex (hb hby d_method_3_1) (by decide) (by decide) (fun hc1 => ?_) (fun hc1 => ?_)
  · have hc1 : ¬ (j = (0 : Int32)) := hc1
    show Goes _ _ _ _ T0 (mkF m 6 #[.val (.int j), .val (.int d0), .val (.int d1), .val (.int d2), .val (.int d3)] [])
    refine Goes.go (fun _ kS_ => XS.iloadN X0.here X0.ex rfl (hb hby d_method_3_6) rfl (XS.iconst X0.here X0.ex rfl (hb hby d_method_3_7) kS_)) ?_
    show Goes _ _ _ _ T0 (mkF m 8 #[.val (.int j), .val (.int d0), .val (.int d1), .val (.int d2), .val (.int d3)] [(.int (1 : Int32)), (.int j)])
    refine Goes.icmp (pc' := 13) X0.here X0.ex (hb hby d_method_3_8) (by decide) (by decide) (fun hc8 => ?_) (fun hc8 => ?_)
    · have hc8 : ¬ (j = (1 : Int32)) := hc8
      show Goes _ _ _ _ T0 (mkF m 13 #[.val (.int j), .val (.int d0), .val (.int d1), .val (.int d2), .val (.int d3)] [])
      refine Goes.go (fun _ kS_ => XS.iloadN X0.here X0.ex rfl (hb hby d_method_3_13) rfl (XS.iconst X0.here X0.ex rfl (hb hby d_method_3_14) kS_)) ?_
      show Goes _ _ _ _ T0 (mkF m 15 #[.val (.int j), .val (.int d0), .val (.int d1), .val (.int d2), .val (.int d3)] [(.int (2 : Int32)), (.int j)])
      refine Goes.icmp (pc' := 20) X0.here X0.ex (hb hby d_method_3_15) (by decide) (by decide) (fun hc15 => ?_) (fun hc15 => ?_)
      · have hc15 : ¬ (j = (2 : Int32)) := hc15
        show Goes _ _ _ _ T0 (mkF m 20 #[.val (.int j), .val (.int d0), .val (.int d1), .val (.int d2), .val (.int d3)] [])
        refine Goes.go (fun _ kS_ => XS.iload X0.here X0.ex rfl (hb hby d_method_3_20) rfl kS_) ?_
        show Goes _ _ _ _ T0 (mkF m 22 #[.val (.int j), .val (.int d0), .val (.int d1), .val (.int d2), .val (.int d3)] [(.int d3)])
        refine Goes.outN X0 (fun q => by rw [hret] at q; cases q) hlk (X0.rB hret (by simp) (hb hby d_method_3_22)) ?_ (by decide) (by decide)
        exact ⟨Ext.oKeepOf X0.ext [], by rw [own_narc b3]; unfold own_pick; simp only [hc1, hc8, hc15, own_n10, own_n20, own_n21, own_n30, own_n31, own_n32, if_true, if_false, ↓reduceIte]⟩
      · have hc15 : j = (2 : Int32) := Classical.not_not.mp hc15
        show Goes _ _ _ _ T0 (mkF m 18 #[.val (.int j), .val (.int d0), .val (.int d1), .val (.int d2), .val (.int d3)] [])
        refine Goes.go (fun _ kS_ => XS.iloadN X0.here X0.ex rfl (hb hby d_method_3_18) rfl kS_) ?_
        show Goes _ _ _ _ T0 (mkF m 19 #[.val (.int j), .val (.int d0), .val (.int d1), .val (.int d2), .val (.int d3)] [(.int d2)])
        refine Goes.outN X0 (fun q => by rw [hret] at q; cases q) hlk (X0.rB hret (by simp) (hb hby d_method_3_19)) ?_ (by decide) (by decide)
        exact ⟨Ext.oKeepOf X0.ext [], by rw [own_narc b2]; unfold own_pick; simp only [hc1, hc8, hc15, own_n10, own_n20, own_n21, own_n30, own_n31, own_n32, if_true, if_false, ↓reduceIte]⟩
    · have hc8 : j = (1 : Int32) := Classical.not_not.mp hc8
      show Goes _ _ _ _ T0 (mkF m 11 #[.val (.int j), .val (.int d0), .val (.int d1), .val (.int d2), .val (.int d3)] [])
      refine Goes.go (fun _ kS_ => XS.iloadN X0.here X0.ex rfl (hb hby d_method_3_11) rfl kS_) ?_
      show Goes _ _ _ _ T0 (mkF m 12 #[.val (.int j), .val (.int d0), .val (.int d1), .val (.int d2), .val (.int d3)] [(.int d1)])
      refine Goes.outN X0 (fun q => by rw [hret] at q; cases q) hlk (X0.rB hret (by simp) (hb hby d_method_3_12)) ?_ (by decide) (by decide)
      exact ⟨Ext.oKeepOf X0.ext [], by rw [own_narc b1]; unfold own_pick; simp only [hc1, hc8, own_n10, own_n20, own_n21, own_n30, own_n31, own_n32, if_true, if_false, ↓reduceIte]⟩
  · have hc1 : j = (0 : Int32) := Classical.not_not.mp hc1
    show Goes _ _ _ _ T0 (mkF m 4 #[.val (.int j), .val (.int d0), .val (.int d1), .val (.int d2), .val (.int d3)] [])
    refine Goes.go (fun _ kS_ => XS.iloadN X0.here X0.ex rfl (hb hby d_method_3_4) rfl kS_) ?_
    show Goes _ _ _ _ T0 (mkF m 5 #[.val (.int j), .val (.int d0), .val (.int d1), .val (.int d2), .val (.int d3)] [(.int d0)])
    refine Goes.outN X0 (fun q => by rw [hret] at q; cases q) hlk (X0.rB hret (by simp) (hb hby d_method_3_5)) ?_ (by decide) (by decide)
    exact ⟨Ext.oKeepOf X0.ext [], by rw [own_narc b0]; unfold own_pick; simp only [hc1, own_n10, own_n20, own_n21, own_n30, own_n31, own_n32, if_true, if_false, ↓reduceIte]⟩
set_option maxRecDepth 65536 in
set_option maxHeartbeats 40000000 in
theorem own_exd (l : Launch) (Z : State) (a0 : Array Value) (hw : ∀ d ∈ tables_1, d.before a0 Z = true) (h0 : Heap) (hO : Ext Z.heap h0) (x : Addr) (G1 : Int32) (cs : List Int32) (O2 : Sta Z Z.heap "java/lang/String" "COMPACT_STRINGS" "Z" (.int G1)) (P5 : ¬ (G1 = (0 : Int32))) (S_x : LStr Z h0 x cs) (h4 : cs.length ≤ 4) :
    CtrN l Z (⟨"com/example/matchmaker/matchmaker/registry/ServiceId", "extensionDot", "(Ljava/lang/String;)I"⟩ : MethodName) prog_36_method_6_code 1 (some .int) ({ frames := 4, cells := 0, slots := 0, locals := 55 } : Room) #[(.ref x)] h0 (fun v h' => Keep h0 h' [] ∧ v = some (.int (own_last cs))) := by
  refine CtrN.of (plainFor_of_name pn_5) hO ?_
  intro p e s m below meth c T0 X0 hsh hby hml hret hlk hnm
  refine Goes.cast (ef_own_exd m x) ?_
  show Goes _ _ _ _ T0 (mkF m 0 #[.val (.ref x)] [])
  refine Goes.go (fun _ kS_ => XS.aloadN X0.here X0.ex rfl (hb hby d_prog_36_method_6_0) rfl rfl (XS.bipush X0.here X0.ex rfl (hb hby d_prog_36_method_6_1) kS_)) ?_
  show Goes _ _ _ _ T0 (mkF m 3 #[.val (.ref x)] [(.int (46 : Int32)), (.ref x)])
  refine Wk.virtual (hm' := fun _ => h0) (C := "java/lang/String") (y := (⟨"java/lang/String", "lastIndexOf", "(I)I"⟩ : MethodName)) (z := (⟨"java/lang/String", "lastIndexOf", "(I)I"⟩ : MethodName)) (W := 0) (kc := 0) (ks := 0) (argsL := [(.int (46 : Int32))]) (rest := []) (as' := #[(.ref x), (.int (46 : Int32))]) (ws := []) X0 (w_34 hw) (w_35 hw) (w_37 hw) (w_36 hw) (by decide) S_x.1 (nf_sel (w_37 hw)) (CtrN.pays (own_lio l Z a0 hw h0 X0.old x G1 cs O2 P5 S_x h4) (w_38 hw) (w_7 hw) (by decide) (by decide)) (fun v h' L q => ⟨q.2, q.1.1⟩) all0 (fun _ => Mark.stay all0) rfl (by rw [hml]; rfl) (lenOf pd_13 rfl) rfl rfl (by show 2 * 0 + _ ≤ _; exact Nat.le_of_eq rfl) (hb hby d_prog_36_method_6_3) (by decide) (by decide) ?_
  intro T173 h173 v173 L173 X173 q173 K173
  obtain ⟨⟨-, rfl⟩, -⟩ := q173
  replace S_x := S_x.ext K173.oExt
  show Goes _ _ _ _ T173 (mkF m 6 #[.val (.ref x)] [(.int (own_last cs))])
  refine Goes.outN X173 (fun q => by rw [hret] at q; cases q) hlk (X173.rI hret (hb hby d_prog_36_method_6_6)) ?_ (by decide) (by decide)
  exact ⟨Ext.oKeepOf X173.ext [], rfl⟩
set_option maxRecDepth 65536 in
set_option maxHeartbeats 40000000 in
theorem own_exo (l : Launch) (Z : State) (a0 : Array Value) (hw : ∀ d ∈ tables_1, d.before a0 Z = true) (hEL : EW Z a0 consts_1) (h0 : Heap) (hO : Ext Z.heap h0) (x : Addr) (G1 : Int32) (G3 : Value) (cs : List Int32) (O2 : Sta Z Z.heap "java/lang/String" "COMPACT_STRINGS" "Z" (.int G1)) (P5 : ¬ (G1 = (0 : Int32))) (O4 : Sta Z Z.heap "jdk/internal/util/Preconditions" "SIOOBE_FORMATTER" "Ljava/util/function/BiFunction;" G3) (r_G3 : G3.isRef = true) (S_x : LStr Z h0 x cs) (h4 : cs.length ≤ 4) :
    CtrS l Z consts_1 (⟨"com/example/matchmaker/matchmaker/registry/ServiceId", "extensionOf", "(Ljava/lang/String;)Ljava/lang/String;"⟩ : MethodName) prog_36_method_4_code 3 (some (.object "java/lang/String")) ({ frames := 6, cells := 2, slots := 7, locals := 93 } : Room) #[(.ref x)] h0 (fun v h' => Keep h0 h' [] ∧ ∃ a, v = some (.ref a) ∧ LStr Z h' a (own_ext cs)) := by
  refine CtrS.of (plainFor_of_name pn_5) hO ?_
  intro p e s m below meth c T0 X0 hsh hby hml hret hlk hnm
  refine Goes.cast (ef_own_exo m x) ?_
  show Goes _ _ _ _ T0 (mkF m 0 #[.val (.ref x), .unset, .unset] [])
  have KK : Keep h0 h0 [] := Keep.refl _ _
  refine Goes.go (fun _ kS_ => XS.aloadN X0.here X0.ex rfl (hb hby d_prog_36_method_4_0) rfl rfl kS_) ?_
  show Goes _ _ _ _ T0 (mkF m 1 #[.val (.ref x), .unset, .unset] [(.ref x)])
  refine Wk.static (hm' := fun _ => h0) (y := (⟨"com/example/matchmaker/matchmaker/registry/ServiceId", "extensionDot", "(Ljava/lang/String;)I"⟩ : MethodName)) (W := 0) (kc := 0) (ks := 0) (argsL := [(.ref x)]) (rest := []) (as' := #[(.ref x)]) (ws := []) X0 (w_31 hw) (w_32 hw) (w_29 hw) (w_33 hw) (by decide) (CtrN.pays (own_exd l Z a0 hw h0 X0.old x G1 cs O2 P5 S_x h4) (w_33 hw) (w_29 hw) (by decide) (by decide)) (fun v h' L q => ⟨q.2, q.1.1⟩) all0 (fun _ => Mark.stay all0) rfl (by rw [hml]; rfl) (lenOf pd_14 rfl) rfl rfl (by show 2 * 0 + _ ≤ _; exact Nat.le_of_eq rfl) (hb hby d_prog_36_method_4_1) (by decide) (by decide) ?_
  intro T177 h177 v177 L177 X177 q177 K177
  obtain ⟨⟨-, rfl⟩, -⟩ := q177
  replace S_x := S_x.ext K177.oExt
  replace KK := KK.ext K177.oExt
  show Goes _ _ _ _ T177 (mkF m 4 #[.val (.ref x), .unset, .unset] [(.int (own_last cs))])
  refine Goes.go (fun _ kS_ => XS.istoreN X177.here X177.ex rfl (hb hby d_prog_36_method_4_4) rfl (l' := #[.val (.ref x), .val (.int (own_last cs)), .unset]) rfl (XS.iloadN X177.here X177.ex rfl (hb hby d_prog_36_method_4_5) rfl kS_)) ?_
  show Goes _ _ _ _ T177 (mkF m 6 #[.val (.ref x), .val (.int (own_last cs)), .unset] [(.int (own_last cs))])
  refine Goes.ifc (pc' := 20) X177.here X177.ex (hb hby d_prog_36_method_4_6) (by decide) (by decide) (fun hc6 => ?_) (fun hc6 => ?_)
  · have hc6 : ¬ ((0 : Int32) < (own_last cs)) := hc6
    show Goes _ _ _ _ T177 (mkF m 20 #[.val (.ref x), .val (.int (own_last cs)), .unset] [])
    refine Wk.ldcR X177 (w_71 hw) (own_wS hw) hEL (by decide) (vs := []) (z := 0) ⟨by decide, rfl⟩ (by decide) rfl rfl (hb hby d_prog_36_method_4_20) (n := 0) (by decide) (by decide) (by decide) (by decide) ?_
    intro T178 h178 a178 b178 k178 X178 E178 Ea178 Ca178 Va178 Ab178
    replace S_x := S_x.ext E178
    replace KK := KK.ext E178
    have S_a178 : LStr Z h178 a178 ([] : List Int32) := ⟨Ea178, Ca178, ⟨_, _, Va178, Ab178⟩, (fun _ q => nomatch q), Nat.le_of_ble_eq_true rfl⟩
    show Goes _ _ _ _ T178 (mkF m 22 #[.val (.ref x), .val (.int (own_last cs)), .unset] [(.ref a178)])
    refine Goes.go (fun _ kS_ => XS.astoreN X178.here X178.ex rfl (hb hby d_prog_36_method_4_22) rfl rfl (l' := #[.val (.ref x), .val (.int (own_last cs)), .val (.ref a178)]) rfl (XS.aloadN X178.here X178.ex rfl (hb hby d_prog_36_method_4_23) rfl rfl kS_)) ?_
    show Goes _ _ _ _ T178 (mkF m 24 #[.val (.ref x), .val (.int (own_last cs)), .val (.ref a178)] [(.ref a178)])
    refine Goes.outS X178 hEL (fun q => by rw [hret] at q; cases q) hlk (X178.rA hret rfl rfl (hb hby d_prog_36_method_4_24)) ?_ (by decide) (by decide)
    exact ⟨KK, a178, rfl, by unfold own_ext; rw [if_neg hc6]; exact S_a178⟩
  · have hc6 : (0 : Int32) < (own_last cs) := Classical.not_not.mp hc6
    show Goes _ _ _ _ T177 (mkF m 9 #[.val (.ref x), .val (.int (own_last cs)), .unset] [])
    refine Goes.go (fun _ kS_ => XS.aloadN X177.here X177.ex rfl (hb hby d_prog_36_method_4_9) rfl rfl (XS.iloadN X177.here X177.ex rfl (hb hby d_prog_36_method_4_10) rfl (XS.iconst X177.here X177.ex rfl (hb hby d_prog_36_method_4_11) (XS.iadd X177.here X177.ex rfl (hb hby d_prog_36_method_4_12) rfl kS_)))) ?_
    show Goes _ _ _ _ T177 (mkF m 13 #[.val (.ref x), .val (.int (own_last cs)), .unset] [(.int ((own_last cs) + (1 : Int32))), (.ref x)])
    refine Wk.virtualS (C := "java/lang/String") (y := (⟨"java/lang/String", "substring", "(I)Ljava/lang/String;"⟩ : MethodName)) (z := (⟨"java/lang/String", "substring", "(I)Ljava/lang/String;"⟩ : MethodName)) (W := 0) (kc := 2) (ks := 7) (argsL := [(.int ((own_last cs) + (1 : Int32)))]) (rest := []) (as' := #[(.ref x), (.int ((own_last cs) + (1 : Int32)))]) (ws := []) X177 (w_87 hw) (w_88 hw) (w_90 hw) (w_89 hw) (by decide) S_x.1 (nf_sel (w_90 hw)) (CtrS.pays (own_sb l Z a0 hw hEL h177 X177.old x G1 G3 cs (own_sN cs) ((own_last cs) + (1 : Int32)) O2 P5 O4 r_G3 S_x h4 (own_last_s cs h4).2 (own_last_s cs h4).1) (w_91 hw) (w_7 hw) (by decide) (by decide) hEL) (fun v h' L q => ⟨q.2, q.1.1⟩) all0 rfl (by rw [hml]; rfl) (lenOf pd_15 rfl) rfl rfl (by show 2 * 0 + _ ≤ _; exact Nat.le_of_eq rfl) (hb hby d_prog_36_method_4_13) (by decide) (by decide) ?_
    intro T179 h179 v179 L179 X179 q179 K179
    obtain ⟨⟨-, a179, rfl, Sa179⟩, -⟩ := q179
    replace S_x := S_x.ext K179.oExt
    replace KK := KK.ext K179.oExt
    show Goes _ _ _ _ T179 (mkF m 16 #[.val (.ref x), .val (.int (own_last cs)), .unset] [(.ref a179)])
    refine Goes.go (fun _ kS_ => XS.astoreN X179.here X179.ex rfl (hb hby d_prog_36_method_4_16) rfl rfl (l' := #[.val (.ref x), .val (.int (own_last cs)), .val (.ref a179)]) rfl (XS.goto X179.here X179.ex rfl (pc0 := 17) (pc' := 23) rfl (hb hby d_prog_36_method_4_17) (by decide) (by decide) (XS.aloadN X179.here X179.ex rfl (hb hby d_prog_36_method_4_23) rfl rfl kS_))) ?_
    show Goes _ _ _ _ T179 (mkF m 24 #[.val (.ref x), .val (.int (own_last cs)), .val (.ref a179)] [(.ref a179)])
    refine Goes.outS X179 hEL (fun q => by rw [hret] at q; cases q) hlk (X179.rA hret rfl rfl (hb hby d_prog_36_method_4_24)) ?_ (by decide) (by decide)
    exact ⟨KK, a179, rfl, by unfold own_ext; rw [if_pos hc6]; exact Sa179⟩
set_option maxRecDepth 65536 in
set_option maxHeartbeats 40000000 in
theorem own_law (l : Launch) (Z : State) (a0 : Array Value) (hw : ∀ d ∈ tables_1, d.before a0 Z = true) (hEL : EW Z a0 consts_1) (h0 : Heap) (hO : Ext Z.heap h0) (i0 : Int32) (i1 : Int32) (i2 : Int32) (i3 : Int32) (i4 : Int32) (G1 : Int32) (G3 : Value) (O2 : Sta Z Z.heap "java/lang/String" "COMPACT_STRINGS" "Z" (.int G1)) (P5 : ¬ (G1 = (0 : Int32))) (O4 : Sta Z Z.heap "jdk/internal/util/Preconditions" "SIOOBE_FORMATTER" "Ljava/util/function/BiFunction;" G3) (rG3 : G3.isRef = true) :
    CtrS l Z consts_1 x code maxLocals ret room_1 #[(.int i0), (.int i1), (.int i2), (.int i3), (.int i4)] h0 (fun v h' => v = some (.int (1 : Int32))) := by
  refine CtrS.of (plainFor_of_name pn_4) hO ?_
  intro p e s m below meth c T0 X0 hsh hby hml hret hlk hnm
  refine Goes.cast (ef_own_law m i0 i1 i2 i3 i4) ?_
  show Goes _ _ _ _ T0 (mkF m 0 #[.val (.int i0), .val (.int i1), .val (.int i2), .val (.int i3), .val (.int i4), .unset, .unset, .unset, .unset, .unset, .unset, .unset, .unset, .unset, .unset] [])
  refine Goes.go (fun _ kS_ => XS.iloadN X0.here X0.ex rfl (hb hby at_0) rfl kS_) ?_
  show Goes _ _ _ _ T0 (mkF m 1 #[.val (.int i0), .val (.int i1), .val (.int i2), .val (.int i3), .val (.int i4), .unset, .unset, .unset, .unset, .unset, .unset, .unset, .unset, .unset, .unset] [(.int i0)])
  refine Goes.go (X0.ldcI (w_0 hw) rfl (hb hby at_1)) ?_
  show Goes _ _ _ _ T0 (mkF m 3 #[.val (.int i0), .val (.int i1), .val (.int i2), .val (.int i3), .val (.int i4), .unset, .unset, .unset, .unset, .unset, .unset, .unset, .unset, .unset, .unset] [(.int (2147483647 : Int32)), (.int i0)])
  refine Goes.go (fun _ kS_ => XS.iand X0.here X0.ex rfl (hb hby at_3) rfl (XS.iconst X0.here X0.ex rfl (hb hby at_4) (XS.irem X0.here X0.ex rfl (hb hby at_5) rfl (by decide) (XS.istore X0.here X0.ex rfl (hb hby at_6) rfl (l' := #[.val (.int i0), .val (.int i1), .val (.int i2), .val (.int i3), .val (.int i4), .val (.int ((i0 &&& (2147483647 : Int32)) - ((i0 &&& (2147483647 : Int32)) / (5 : Int32)) * (5 : Int32))), .unset, .unset, .unset, .unset, .unset, .unset, .unset, .unset, .unset]) rfl kS_)))) ?_
  show Goes _ _ _ _ T0 (mkF m 8 #[.val (.int i0), .val (.int i1), .val (.int i2), .val (.int i3), .val (.int i4), .val (.int ((i0 &&& (2147483647 : Int32)) - ((i0 &&& (2147483647 : Int32)) / (5 : Int32)) * (5 : Int32))), .unset, .unset, .unset, .unset, .unset, .unset, .unset, .unset, .unset] [])
  obtain ⟨nn, hnn⟩ : ∃ z : Int32, z = ((i0 &&& (2147483647 : Int32)) - ((i0 &&& (2147483647 : Int32)) / (5 : Int32)) * (5 : Int32)) := ⟨_, rfl⟩
  refine Goes.cast (show (mkF m 8 #[.val (.int i0), .val (.int i1), .val (.int i2), .val (.int i3), .val (.int i4), .val (.int ((i0 &&& (2147483647 : Int32)) - ((i0 &&& (2147483647 : Int32)) / (5 : Int32)) * (5 : Int32))), .unset, .unset, .unset, .unset, .unset, .unset, .unset, .unset, .unset] []) = (mkF m 8 #[.val (.int i0), .val (.int i1), .val (.int i2), .val (.int i3), .val (.int i4), .val (.int nn), .unset, .unset, .unset, .unset, .unset, .unset, .unset, .unset, .unset] []) from by rw [hnn]) ?_
  show Goes _ _ _ _ T0 (mkF m 8 #[.val (.int i0), .val (.int i1), .val (.int i2), .val (.int i3), .val (.int i4), .val (.int nn), .unset, .unset, .unset, .unset, .unset, .unset, .unset, .unset, .unset] [])
  refine Goes.go (fun _ kS_ => XS.iloadN X0.here X0.ex rfl (hb hby at_8) rfl kS_) ?_
  show Goes _ _ _ _ T0 (mkF m 9 #[.val (.int i0), .val (.int i1), .val (.int i2), .val (.int i3), .val (.int i4), .val (.int nn), .unset, .unset, .unset, .unset, .unset, .unset, .unset, .unset, .unset] [(.int i1)])
  refine Wk.static (hm' := fun _ => h0) (y := (⟨"com/example/matchmaker/matchmaker/registry/ServiceIdExtensionOfPinLaw", "ch", "(I)C"⟩ : MethodName)) (W := 0) (kc := 0) (ks := 0) (argsL := [(.int i1)]) (rest := []) (as' := #[(.int i1)]) (ws := []) X0 (w_1 hw) (w_2 hw) (w_3 hw) (w_4 hw) (by decide) (CtrN.pays (own_chc l Z a0 hw h0 X0.old i1) (w_4 hw) (w_3 hw) (by decide) (by decide)) (fun v h' L q => ⟨q.2, q.1.1⟩) all0 (fun _ => Mark.stay all0) rfl (by rw [hml]; rfl) (lenOf pd_16 rfl) rfl rfl (by show 2 * 0 + _ ≤ _; exact Nat.le_of_eq rfl) (hb hby at_9) (by decide) (by decide) ?_
  intro T180 h180 v180 L180 X180 q180 K180
  obtain ⟨⟨-, d0, rfl, b0⟩, -⟩ := q180
  show Goes _ _ _ _ T180 (mkF m 12 #[.val (.int i0), .val (.int i1), .val (.int i2), .val (.int i3), .val (.int i4), .val (.int nn), .unset, .unset, .unset, .unset, .unset, .unset, .unset, .unset, .unset] [(.int d0)])
  refine Goes.go (fun _ kS_ => XS.istore X180.here X180.ex rfl (hb hby at_12) rfl (l' := #[.val (.int i0), .val (.int i1), .val (.int i2), .val (.int i3), .val (.int i4), .val (.int nn), .val (.int d0), .unset, .unset, .unset, .unset, .unset, .unset, .unset, .unset]) rfl (XS.iloadN X180.here X180.ex rfl (hb hby at_14) rfl kS_)) ?_
  show Goes _ _ _ _ T180 (mkF m 15 #[.val (.int i0), .val (.int i1), .val (.int i2), .val (.int i3), .val (.int i4), .val (.int nn), .val (.int d0), .unset, .unset, .unset, .unset, .unset, .unset, .unset, .unset] [(.int i2)])
  refine Wk.static (hm' := fun _ => h0) (y := (⟨"com/example/matchmaker/matchmaker/registry/ServiceIdExtensionOfPinLaw", "ch", "(I)C"⟩ : MethodName)) (W := 0) (kc := 0) (ks := 0) (argsL := [(.int i2)]) (rest := []) (as' := #[(.int i2)]) (ws := []) X180 (w_1 hw) (w_2 hw) (w_3 hw) (w_4 hw) (by decide) (CtrN.pays (own_chc l Z a0 hw h180 X180.old i2) (w_4 hw) (w_3 hw) (by decide) (by decide)) (fun v h' L q => ⟨q.2, q.1.1⟩) all0 (fun _ => Mark.stay all0) rfl (by rw [hml]; rfl) (lenOf pd_16 rfl) rfl rfl (by show 2 * 0 + _ ≤ _; exact Nat.le_of_eq rfl) (hb hby at_15) (by decide) (by decide) ?_
  intro T181 h181 v181 L181 X181 q181 K181
  obtain ⟨⟨-, d1, rfl, b1⟩, -⟩ := q181
  show Goes _ _ _ _ T181 (mkF m 18 #[.val (.int i0), .val (.int i1), .val (.int i2), .val (.int i3), .val (.int i4), .val (.int nn), .val (.int d0), .unset, .unset, .unset, .unset, .unset, .unset, .unset, .unset] [(.int d1)])
  refine Goes.go (fun _ kS_ => XS.istore X181.here X181.ex rfl (hb hby at_18) rfl (l' := #[.val (.int i0), .val (.int i1), .val (.int i2), .val (.int i3), .val (.int i4), .val (.int nn), .val (.int d0), .val (.int d1), .unset, .unset, .unset, .unset, .unset, .unset, .unset]) rfl (XS.iloadN X181.here X181.ex rfl (hb hby at_20) rfl kS_)) ?_
  show Goes _ _ _ _ T181 (mkF m 21 #[.val (.int i0), .val (.int i1), .val (.int i2), .val (.int i3), .val (.int i4), .val (.int nn), .val (.int d0), .val (.int d1), .unset, .unset, .unset, .unset, .unset, .unset, .unset] [(.int i3)])
  refine Wk.static (hm' := fun _ => h0) (y := (⟨"com/example/matchmaker/matchmaker/registry/ServiceIdExtensionOfPinLaw", "ch", "(I)C"⟩ : MethodName)) (W := 0) (kc := 0) (ks := 0) (argsL := [(.int i3)]) (rest := []) (as' := #[(.int i3)]) (ws := []) X181 (w_1 hw) (w_2 hw) (w_3 hw) (w_4 hw) (by decide) (CtrN.pays (own_chc l Z a0 hw h181 X181.old i3) (w_4 hw) (w_3 hw) (by decide) (by decide)) (fun v h' L q => ⟨q.2, q.1.1⟩) all0 (fun _ => Mark.stay all0) rfl (by rw [hml]; rfl) (lenOf pd_16 rfl) rfl rfl (by show 2 * 0 + _ ≤ _; exact Nat.le_of_eq rfl) (hb hby at_21) (by decide) (by decide) ?_
  intro T182 h182 v182 L182 X182 q182 K182
  obtain ⟨⟨-, d2, rfl, b2⟩, -⟩ := q182
  show Goes _ _ _ _ T182 (mkF m 24 #[.val (.int i0), .val (.int i1), .val (.int i2), .val (.int i3), .val (.int i4), .val (.int nn), .val (.int d0), .val (.int d1), .unset, .unset, .unset, .unset, .unset, .unset, .unset] [(.int d2)])
  refine Goes.go (fun _ kS_ => XS.istore X182.here X182.ex rfl (hb hby at_24) rfl (l' := #[.val (.int i0), .val (.int i1), .val (.int i2), .val (.int i3), .val (.int i4), .val (.int nn), .val (.int d0), .val (.int d1), .val (.int d2), .unset, .unset, .unset, .unset, .unset, .unset]) rfl (XS.iload X182.here X182.ex rfl (hb hby at_26) rfl kS_)) ?_
  show Goes _ _ _ _ T182 (mkF m 28 #[.val (.int i0), .val (.int i1), .val (.int i2), .val (.int i3), .val (.int i4), .val (.int nn), .val (.int d0), .val (.int d1), .val (.int d2), .unset, .unset, .unset, .unset, .unset, .unset] [(.int i4)])
  refine Wk.static (hm' := fun _ => h0) (y := (⟨"com/example/matchmaker/matchmaker/registry/ServiceIdExtensionOfPinLaw", "ch", "(I)C"⟩ : MethodName)) (W := 0) (kc := 0) (ks := 0) (argsL := [(.int i4)]) (rest := []) (as' := #[(.int i4)]) (ws := []) X182 (w_1 hw) (w_2 hw) (w_3 hw) (w_4 hw) (by decide) (CtrN.pays (own_chc l Z a0 hw h182 X182.old i4) (w_4 hw) (w_3 hw) (by decide) (by decide)) (fun v h' L q => ⟨q.2, q.1.1⟩) all0 (fun _ => Mark.stay all0) rfl (by rw [hml]; rfl) (lenOf pd_16 rfl) rfl rfl (by show 2 * 0 + _ ≤ _; exact Nat.le_of_eq rfl) (hb hby at_28) (by decide) (by decide) ?_
  intro T183 h183 v183 L183 X183 q183 K183
  obtain ⟨⟨-, d3, rfl, b3⟩, -⟩ := q183
  show Goes _ _ _ _ T183 (mkF m 31 #[.val (.int i0), .val (.int i1), .val (.int i2), .val (.int i3), .val (.int i4), .val (.int nn), .val (.int d0), .val (.int d1), .val (.int d2), .unset, .unset, .unset, .unset, .unset, .unset] [(.int d3)])
  refine Goes.go (fun _ kS_ => XS.istore X183.here X183.ex rfl (hb hby at_31) rfl (l' := #[.val (.int i0), .val (.int i1), .val (.int i2), .val (.int i3), .val (.int i4), .val (.int nn), .val (.int d0), .val (.int d1), .val (.int d2), .val (.int d3), .unset, .unset, .unset, .unset, .unset]) rfl (XS.iload X183.here X183.ex rfl (hb hby at_33) rfl kS_)) ?_
  show Goes _ _ _ _ T183 (mkF m 35 #[.val (.int i0), .val (.int i1), .val (.int i2), .val (.int i3), .val (.int i4), .val (.int nn), .val (.int d0), .val (.int d1), .val (.int d2), .val (.int d3), .unset, .unset, .unset, .unset, .unset] [(.int nn)])
  have hr := own_rem i0 (2147483647 : Int32) (5 : Int32) (by decide) (by decide)
  rw [← hnn] at hr
  clear hnn
  have hc := own_enum5 hr
  clear hr
  have hJ : ∀ (Tj184 : State) (hj184 : Heap) (k : Nat) (nn : Int32) (a : Addr), Wk False p l e room_1 s m #[(.int i0), (.int i1), (.int i2), (.int i3), (.int i4)] below meth c Z "com/example/matchmaker/matchmaker/registry/ServiceIdExtensionOfPinLaw" consts_1 hj184 Tj184 hj184 8 32 → (nn = Int32.ofNat k) → (k ≤ 4) → (LStr Z hj184 a (([d0, d1, d2, d3] : List Int32).take k)) → Goes p.tables e below (EndS Z s consts_1 room_1.cells room_1.slots (fun v h' => v = some (.int (1 : Int32)))) Tj184 (mkF m 178 #[.val (.int i0), .val (.int i1), .val (.int i2), .val (.int i3), .val (.int i4), .val (.int nn), .val (.int d0), .val (.int d1), .val (.int d2), .val (.int d3), .val (.ref a), .unset, .unset, .unset, .unset] []) := by
    intro Tj184 hj184 k nn a Xj184 hk hk4 Sa
    refine Goes.go (fun _ kS_ => XS.iconst Xj184.here Xj184.ex rfl (hb hby at_178) (XS.istore Xj184.here Xj184.ex rfl (hb hby at_179) rfl (l' := #[.val (.int i0), .val (.int i1), .val (.int i2), .val (.int i3), .val (.int i4), .val (.int nn), .val (.int d0), .val (.int d1), .val (.int d2), .val (.int d3), .val (.ref a), .val (.int (-1 : Int32)), .unset, .unset, .unset]) rfl (XS.iload Xj184.here Xj184.ex rfl (hb hby at_181) rfl kS_))) ?_
    show Goes _ _ _ _ Tj184 (mkF m 183 #[.val (.int i0), .val (.int i1), .val (.int i2), .val (.int i3), .val (.int i4), .val (.int nn), .val (.int d0), .val (.int d1), .val (.int d2), .val (.int d3), .val (.ref a), .val (.int (-1 : Int32)), .unset, .unset, .unset] [(.int nn)])
    suffices hJ183 : Goes p.tables e below (EndS Z s consts_1 room_1.cells room_1.slots (fun v h' => v = some (.int (1 : Int32)))) Tj184 (mkF m 196 #[.val (.int i0), .val (.int i1), .val (.int i2), .val (.int i3), .val (.int i4), .val (.int nn), .val (.int d0), .val (.int d1), .val (.int d2), .val (.int d3), .val (.ref a), .val (.int (if (0 : Int32) < nn then (if d0 = (46 : Int32) then (0 : Int32) else (-1 : Int32)) else (-1 : Int32))), .unset, .unset, .unset] []) by
      refine Goes.ifc (pc' := 196) Xj184.here Xj184.ex (hb hby at_183) (by decide) (by decide) (fun hr1 => ?_) (fun hr1 => ?_)
      · have hr1 : ¬ ((0 : Int32) < nn) := hr1
        show Goes _ _ _ _ Tj184 (mkF m 196 #[.val (.int i0), .val (.int i1), .val (.int i2), .val (.int i3), .val (.int i4), .val (.int nn), .val (.int d0), .val (.int d1), .val (.int d2), .val (.int d3), .val (.ref a), .val (.int (-1 : Int32)), .unset, .unset, .unset] [])
        (try simp only [if_neg hr1] at hJ183 ⊢)
        exact hJ183
      · have hr1 : (0 : Int32) < nn := Classical.not_not.mp hr1
        show Goes _ _ _ _ Tj184 (mkF m 186 #[.val (.int i0), .val (.int i1), .val (.int i2), .val (.int i3), .val (.int i4), .val (.int nn), .val (.int d0), .val (.int d1), .val (.int d2), .val (.int d3), .val (.ref a), .val (.int (-1 : Int32)), .unset, .unset, .unset] [])
        refine Goes.go (fun _ kS_ => XS.iload Xj184.here Xj184.ex rfl (hb hby at_186) rfl (XS.bipush Xj184.here Xj184.ex rfl (hb hby at_188) kS_)) ?_
        show Goes _ _ _ _ Tj184 (mkF m 190 #[.val (.int i0), .val (.int i1), .val (.int i2), .val (.int i3), .val (.int i4), .val (.int nn), .val (.int d0), .val (.int d1), .val (.int d2), .val (.int d3), .val (.ref a), .val (.int (-1 : Int32)), .unset, .unset, .unset] [(.int (46 : Int32)), (.int d0)])
        refine Goes.icmp (pc' := 196) Xj184.here Xj184.ex (hb hby at_190) (by decide) (by decide) (fun hr2 => ?_) (fun hr2 => ?_)
        · have hr2 : ¬ (d0 = (46 : Int32)) := hr2
          show Goes _ _ _ _ Tj184 (mkF m 196 #[.val (.int i0), .val (.int i1), .val (.int i2), .val (.int i3), .val (.int i4), .val (.int nn), .val (.int d0), .val (.int d1), .val (.int d2), .val (.int d3), .val (.ref a), .val (.int (-1 : Int32)), .unset, .unset, .unset] [])
          (try simp only [if_pos hr1, if_neg hr2] at hJ183 ⊢)
          exact hJ183
        · have hr2 : d0 = (46 : Int32) := Classical.not_not.mp hr2
          show Goes _ _ _ _ Tj184 (mkF m 193 #[.val (.int i0), .val (.int i1), .val (.int i2), .val (.int i3), .val (.int i4), .val (.int nn), .val (.int d0), .val (.int d1), .val (.int d2), .val (.int d3), .val (.ref a), .val (.int (-1 : Int32)), .unset, .unset, .unset] [])
          refine Goes.go (fun _ kS_ => XS.iconst Xj184.here Xj184.ex rfl (hb hby at_193) (XS.istore Xj184.here Xj184.ex rfl (hb hby at_194) rfl (l' := #[.val (.int i0), .val (.int i1), .val (.int i2), .val (.int i3), .val (.int i4), .val (.int nn), .val (.int d0), .val (.int d1), .val (.int d2), .val (.int d3), .val (.ref a), .val (.int (0 : Int32)), .unset, .unset, .unset]) rfl kS_)) ?_
          show Goes _ _ _ _ Tj184 (mkF m 196 #[.val (.int i0), .val (.int i1), .val (.int i2), .val (.int i3), .val (.int i4), .val (.int nn), .val (.int d0), .val (.int d1), .val (.int d2), .val (.int d3), .val (.ref a), .val (.int (0 : Int32)), .unset, .unset, .unset] [])
          (try simp only [if_pos hr1, if_pos hr2] at hJ183 ⊢)
          exact hJ183
    obtain ⟨e1, he1⟩ : ∃ z : Int32, z = (if (0 : Int32) < nn then (if d0 = (46 : Int32) then (0 : Int32) else (-1 : Int32)) else (-1 : Int32)) := ⟨_, rfl⟩
    refine Goes.cast (show (mkF m 196 #[.val (.int i0), .val (.int i1), .val (.int i2), .val (.int i3), .val (.int i4), .val (.int nn), .val (.int d0), .val (.int d1), .val (.int d2), .val (.int d3), .val (.ref a), .val (.int (if (0 : Int32) < nn then (if d0 = (46 : Int32) then (0 : Int32) else (-1 : Int32)) else (-1 : Int32))), .unset, .unset, .unset] []) = (mkF m 196 #[.val (.int i0), .val (.int i1), .val (.int i2), .val (.int i3), .val (.int i4), .val (.int nn), .val (.int d0), .val (.int d1), .val (.int d2), .val (.int d3), .val (.ref a), .val (.int e1), .unset, .unset, .unset] []) from by rw [he1]) ?_
    show Goes _ _ _ _ Tj184 (mkF m 196 #[.val (.int i0), .val (.int i1), .val (.int i2), .val (.int i3), .val (.int i4), .val (.int nn), .val (.int d0), .val (.int d1), .val (.int d2), .val (.int d3), .val (.ref a), .val (.int e1), .unset, .unset, .unset] [])
    refine Goes.go (fun _ kS_ => XS.iload Xj184.here Xj184.ex rfl (hb hby at_196) rfl (XS.iconst Xj184.here Xj184.ex rfl (hb hby at_198) kS_)) ?_
    show Goes _ _ _ _ Tj184 (mkF m 199 #[.val (.int i0), .val (.int i1), .val (.int i2), .val (.int i3), .val (.int i4), .val (.int nn), .val (.int d0), .val (.int d1), .val (.int d2), .val (.int d3), .val (.ref a), .val (.int e1), .unset, .unset, .unset] [(.int (1 : Int32)), (.int nn)])
    suffices hJ199 : Goes p.tables e below (EndS Z s consts_1 room_1.cells room_1.slots (fun v h' => v = some (.int (1 : Int32)))) Tj184 (mkF m 212 #[.val (.int i0), .val (.int i1), .val (.int i2), .val (.int i3), .val (.int i4), .val (.int nn), .val (.int d0), .val (.int d1), .val (.int d2), .val (.int d3), .val (.ref a), .val (.int (if (1 : Int32) < nn then (if d1 = (46 : Int32) then (1 : Int32) else e1) else e1)), .unset, .unset, .unset] []) by
      refine Goes.icmp (pc' := 212) Xj184.here Xj184.ex (hb hby at_199) (by decide) (by decide) (fun hr1 => ?_) (fun hr1 => ?_)
      · have hr1 : ¬ ((1 : Int32) < nn) := hr1
        show Goes _ _ _ _ Tj184 (mkF m 212 #[.val (.int i0), .val (.int i1), .val (.int i2), .val (.int i3), .val (.int i4), .val (.int nn), .val (.int d0), .val (.int d1), .val (.int d2), .val (.int d3), .val (.ref a), .val (.int e1), .unset, .unset, .unset] [])
        (try simp only [if_neg hr1] at hJ199 ⊢)
        exact hJ199
      · have hr1 : (1 : Int32) < nn := Classical.not_not.mp hr1
        show Goes _ _ _ _ Tj184 (mkF m 202 #[.val (.int i0), .val (.int i1), .val (.int i2), .val (.int i3), .val (.int i4), .val (.int nn), .val (.int d0), .val (.int d1), .val (.int d2), .val (.int d3), .val (.ref a), .val (.int e1), .unset, .unset, .unset] [])
        refine Goes.go (fun _ kS_ => XS.iload Xj184.here Xj184.ex rfl (hb hby at_202) rfl (XS.bipush Xj184.here Xj184.ex rfl (hb hby at_204) kS_)) ?_
        show Goes _ _ _ _ Tj184 (mkF m 206 #[.val (.int i0), .val (.int i1), .val (.int i2), .val (.int i3), .val (.int i4), .val (.int nn), .val (.int d0), .val (.int d1), .val (.int d2), .val (.int d3), .val (.ref a), .val (.int e1), .unset, .unset, .unset] [(.int (46 : Int32)), (.int d1)])
        refine Goes.icmp (pc' := 212) Xj184.here Xj184.ex (hb hby at_206) (by decide) (by decide) (fun hr2 => ?_) (fun hr2 => ?_)
        · have hr2 : ¬ (d1 = (46 : Int32)) := hr2
          show Goes _ _ _ _ Tj184 (mkF m 212 #[.val (.int i0), .val (.int i1), .val (.int i2), .val (.int i3), .val (.int i4), .val (.int nn), .val (.int d0), .val (.int d1), .val (.int d2), .val (.int d3), .val (.ref a), .val (.int e1), .unset, .unset, .unset] [])
          (try simp only [if_pos hr1, if_neg hr2] at hJ199 ⊢)
          exact hJ199
        · have hr2 : d1 = (46 : Int32) := Classical.not_not.mp hr2
          show Goes _ _ _ _ Tj184 (mkF m 209 #[.val (.int i0), .val (.int i1), .val (.int i2), .val (.int i3), .val (.int i4), .val (.int nn), .val (.int d0), .val (.int d1), .val (.int d2), .val (.int d3), .val (.ref a), .val (.int e1), .unset, .unset, .unset] [])
          refine Goes.go (fun _ kS_ => XS.iconst Xj184.here Xj184.ex rfl (hb hby at_209) (XS.istore Xj184.here Xj184.ex rfl (hb hby at_210) rfl (l' := #[.val (.int i0), .val (.int i1), .val (.int i2), .val (.int i3), .val (.int i4), .val (.int nn), .val (.int d0), .val (.int d1), .val (.int d2), .val (.int d3), .val (.ref a), .val (.int (1 : Int32)), .unset, .unset, .unset]) rfl kS_)) ?_
          show Goes _ _ _ _ Tj184 (mkF m 212 #[.val (.int i0), .val (.int i1), .val (.int i2), .val (.int i3), .val (.int i4), .val (.int nn), .val (.int d0), .val (.int d1), .val (.int d2), .val (.int d3), .val (.ref a), .val (.int (1 : Int32)), .unset, .unset, .unset] [])
          (try simp only [if_pos hr1, if_pos hr2] at hJ199 ⊢)
          exact hJ199
    obtain ⟨e2, he2⟩ : ∃ z : Int32, z = (if (1 : Int32) < nn then (if d1 = (46 : Int32) then (1 : Int32) else e1) else e1) := ⟨_, rfl⟩
    refine Goes.cast (show (mkF m 212 #[.val (.int i0), .val (.int i1), .val (.int i2), .val (.int i3), .val (.int i4), .val (.int nn), .val (.int d0), .val (.int d1), .val (.int d2), .val (.int d3), .val (.ref a), .val (.int (if (1 : Int32) < nn then (if d1 = (46 : Int32) then (1 : Int32) else e1) else e1)), .unset, .unset, .unset] []) = (mkF m 212 #[.val (.int i0), .val (.int i1), .val (.int i2), .val (.int i3), .val (.int i4), .val (.int nn), .val (.int d0), .val (.int d1), .val (.int d2), .val (.int d3), .val (.ref a), .val (.int e2), .unset, .unset, .unset] []) from by rw [he2]) ?_
    show Goes _ _ _ _ Tj184 (mkF m 212 #[.val (.int i0), .val (.int i1), .val (.int i2), .val (.int i3), .val (.int i4), .val (.int nn), .val (.int d0), .val (.int d1), .val (.int d2), .val (.int d3), .val (.ref a), .val (.int e2), .unset, .unset, .unset] [])
    refine Goes.go (fun _ kS_ => XS.iload Xj184.here Xj184.ex rfl (hb hby at_212) rfl (XS.iconst Xj184.here Xj184.ex rfl (hb hby at_214) kS_)) ?_
    show Goes _ _ _ _ Tj184 (mkF m 215 #[.val (.int i0), .val (.int i1), .val (.int i2), .val (.int i3), .val (.int i4), .val (.int nn), .val (.int d0), .val (.int d1), .val (.int d2), .val (.int d3), .val (.ref a), .val (.int e2), .unset, .unset, .unset] [(.int (2 : Int32)), (.int nn)])
    suffices hJ215 : Goes p.tables e below (EndS Z s consts_1 room_1.cells room_1.slots (fun v h' => v = some (.int (1 : Int32)))) Tj184 (mkF m 228 #[.val (.int i0), .val (.int i1), .val (.int i2), .val (.int i3), .val (.int i4), .val (.int nn), .val (.int d0), .val (.int d1), .val (.int d2), .val (.int d3), .val (.ref a), .val (.int (if (2 : Int32) < nn then (if d2 = (46 : Int32) then (2 : Int32) else e2) else e2)), .unset, .unset, .unset] []) by
      refine Goes.icmp (pc' := 228) Xj184.here Xj184.ex (hb hby at_215) (by decide) (by decide) (fun hr1 => ?_) (fun hr1 => ?_)
      · have hr1 : ¬ ((2 : Int32) < nn) := hr1
        show Goes _ _ _ _ Tj184 (mkF m 228 #[.val (.int i0), .val (.int i1), .val (.int i2), .val (.int i3), .val (.int i4), .val (.int nn), .val (.int d0), .val (.int d1), .val (.int d2), .val (.int d3), .val (.ref a), .val (.int e2), .unset, .unset, .unset] [])
        (try simp only [if_neg hr1] at hJ215 ⊢)
        exact hJ215
      · have hr1 : (2 : Int32) < nn := Classical.not_not.mp hr1
        show Goes _ _ _ _ Tj184 (mkF m 218 #[.val (.int i0), .val (.int i1), .val (.int i2), .val (.int i3), .val (.int i4), .val (.int nn), .val (.int d0), .val (.int d1), .val (.int d2), .val (.int d3), .val (.ref a), .val (.int e2), .unset, .unset, .unset] [])
        refine Goes.go (fun _ kS_ => XS.iload Xj184.here Xj184.ex rfl (hb hby at_218) rfl (XS.bipush Xj184.here Xj184.ex rfl (hb hby at_220) kS_)) ?_
        show Goes _ _ _ _ Tj184 (mkF m 222 #[.val (.int i0), .val (.int i1), .val (.int i2), .val (.int i3), .val (.int i4), .val (.int nn), .val (.int d0), .val (.int d1), .val (.int d2), .val (.int d3), .val (.ref a), .val (.int e2), .unset, .unset, .unset] [(.int (46 : Int32)), (.int d2)])
        refine Goes.icmp (pc' := 228) Xj184.here Xj184.ex (hb hby at_222) (by decide) (by decide) (fun hr2 => ?_) (fun hr2 => ?_)
        · have hr2 : ¬ (d2 = (46 : Int32)) := hr2
          show Goes _ _ _ _ Tj184 (mkF m 228 #[.val (.int i0), .val (.int i1), .val (.int i2), .val (.int i3), .val (.int i4), .val (.int nn), .val (.int d0), .val (.int d1), .val (.int d2), .val (.int d3), .val (.ref a), .val (.int e2), .unset, .unset, .unset] [])
          (try simp only [if_pos hr1, if_neg hr2] at hJ215 ⊢)
          exact hJ215
        · have hr2 : d2 = (46 : Int32) := Classical.not_not.mp hr2
          show Goes _ _ _ _ Tj184 (mkF m 225 #[.val (.int i0), .val (.int i1), .val (.int i2), .val (.int i3), .val (.int i4), .val (.int nn), .val (.int d0), .val (.int d1), .val (.int d2), .val (.int d3), .val (.ref a), .val (.int e2), .unset, .unset, .unset] [])
          refine Goes.go (fun _ kS_ => XS.iconst Xj184.here Xj184.ex rfl (hb hby at_225) (XS.istore Xj184.here Xj184.ex rfl (hb hby at_226) rfl (l' := #[.val (.int i0), .val (.int i1), .val (.int i2), .val (.int i3), .val (.int i4), .val (.int nn), .val (.int d0), .val (.int d1), .val (.int d2), .val (.int d3), .val (.ref a), .val (.int (2 : Int32)), .unset, .unset, .unset]) rfl kS_)) ?_
          show Goes _ _ _ _ Tj184 (mkF m 228 #[.val (.int i0), .val (.int i1), .val (.int i2), .val (.int i3), .val (.int i4), .val (.int nn), .val (.int d0), .val (.int d1), .val (.int d2), .val (.int d3), .val (.ref a), .val (.int (2 : Int32)), .unset, .unset, .unset] [])
          (try simp only [if_pos hr1, if_pos hr2] at hJ215 ⊢)
          exact hJ215
    obtain ⟨e3, he3⟩ : ∃ z : Int32, z = (if (2 : Int32) < nn then (if d2 = (46 : Int32) then (2 : Int32) else e2) else e2) := ⟨_, rfl⟩
    refine Goes.cast (show (mkF m 228 #[.val (.int i0), .val (.int i1), .val (.int i2), .val (.int i3), .val (.int i4), .val (.int nn), .val (.int d0), .val (.int d1), .val (.int d2), .val (.int d3), .val (.ref a), .val (.int (if (2 : Int32) < nn then (if d2 = (46 : Int32) then (2 : Int32) else e2) else e2)), .unset, .unset, .unset] []) = (mkF m 228 #[.val (.int i0), .val (.int i1), .val (.int i2), .val (.int i3), .val (.int i4), .val (.int nn), .val (.int d0), .val (.int d1), .val (.int d2), .val (.int d3), .val (.ref a), .val (.int e3), .unset, .unset, .unset] []) from by rw [he3]) ?_
    show Goes _ _ _ _ Tj184 (mkF m 228 #[.val (.int i0), .val (.int i1), .val (.int i2), .val (.int i3), .val (.int i4), .val (.int nn), .val (.int d0), .val (.int d1), .val (.int d2), .val (.int d3), .val (.ref a), .val (.int e3), .unset, .unset, .unset] [])
    refine Goes.go (fun _ kS_ => XS.iload Xj184.here Xj184.ex rfl (hb hby at_228) rfl (XS.iconst Xj184.here Xj184.ex rfl (hb hby at_230) kS_)) ?_
    show Goes _ _ _ _ Tj184 (mkF m 231 #[.val (.int i0), .val (.int i1), .val (.int i2), .val (.int i3), .val (.int i4), .val (.int nn), .val (.int d0), .val (.int d1), .val (.int d2), .val (.int d3), .val (.ref a), .val (.int e3), .unset, .unset, .unset] [(.int (3 : Int32)), (.int nn)])
    suffices hJ231 : Goes p.tables e below (EndS Z s consts_1 room_1.cells room_1.slots (fun v h' => v = some (.int (1 : Int32)))) Tj184 (mkF m 244 #[.val (.int i0), .val (.int i1), .val (.int i2), .val (.int i3), .val (.int i4), .val (.int nn), .val (.int d0), .val (.int d1), .val (.int d2), .val (.int d3), .val (.ref a), .val (.int (if (3 : Int32) < nn then (if d3 = (46 : Int32) then (3 : Int32) else e3) else e3)), .unset, .unset, .unset] []) by
      refine Goes.icmp (pc' := 244) Xj184.here Xj184.ex (hb hby at_231) (by decide) (by decide) (fun hr1 => ?_) (fun hr1 => ?_)
      · have hr1 : ¬ ((3 : Int32) < nn) := hr1
        show Goes _ _ _ _ Tj184 (mkF m 244 #[.val (.int i0), .val (.int i1), .val (.int i2), .val (.int i3), .val (.int i4), .val (.int nn), .val (.int d0), .val (.int d1), .val (.int d2), .val (.int d3), .val (.ref a), .val (.int e3), .unset, .unset, .unset] [])
        (try simp only [if_neg hr1] at hJ231 ⊢)
        exact hJ231
      · have hr1 : (3 : Int32) < nn := Classical.not_not.mp hr1
        show Goes _ _ _ _ Tj184 (mkF m 234 #[.val (.int i0), .val (.int i1), .val (.int i2), .val (.int i3), .val (.int i4), .val (.int nn), .val (.int d0), .val (.int d1), .val (.int d2), .val (.int d3), .val (.ref a), .val (.int e3), .unset, .unset, .unset] [])
        refine Goes.go (fun _ kS_ => XS.iload Xj184.here Xj184.ex rfl (hb hby at_234) rfl (XS.bipush Xj184.here Xj184.ex rfl (hb hby at_236) kS_)) ?_
        show Goes _ _ _ _ Tj184 (mkF m 238 #[.val (.int i0), .val (.int i1), .val (.int i2), .val (.int i3), .val (.int i4), .val (.int nn), .val (.int d0), .val (.int d1), .val (.int d2), .val (.int d3), .val (.ref a), .val (.int e3), .unset, .unset, .unset] [(.int (46 : Int32)), (.int d3)])
        refine Goes.icmp (pc' := 244) Xj184.here Xj184.ex (hb hby at_238) (by decide) (by decide) (fun hr2 => ?_) (fun hr2 => ?_)
        · have hr2 : ¬ (d3 = (46 : Int32)) := hr2
          show Goes _ _ _ _ Tj184 (mkF m 244 #[.val (.int i0), .val (.int i1), .val (.int i2), .val (.int i3), .val (.int i4), .val (.int nn), .val (.int d0), .val (.int d1), .val (.int d2), .val (.int d3), .val (.ref a), .val (.int e3), .unset, .unset, .unset] [])
          (try simp only [if_pos hr1, if_neg hr2] at hJ231 ⊢)
          exact hJ231
        · have hr2 : d3 = (46 : Int32) := Classical.not_not.mp hr2
          show Goes _ _ _ _ Tj184 (mkF m 241 #[.val (.int i0), .val (.int i1), .val (.int i2), .val (.int i3), .val (.int i4), .val (.int nn), .val (.int d0), .val (.int d1), .val (.int d2), .val (.int d3), .val (.ref a), .val (.int e3), .unset, .unset, .unset] [])
          refine Goes.go (fun _ kS_ => XS.iconst Xj184.here Xj184.ex rfl (hb hby at_241) (XS.istore Xj184.here Xj184.ex rfl (hb hby at_242) rfl (l' := #[.val (.int i0), .val (.int i1), .val (.int i2), .val (.int i3), .val (.int i4), .val (.int nn), .val (.int d0), .val (.int d1), .val (.int d2), .val (.int d3), .val (.ref a), .val (.int (3 : Int32)), .unset, .unset, .unset]) rfl kS_)) ?_
          show Goes _ _ _ _ Tj184 (mkF m 244 #[.val (.int i0), .val (.int i1), .val (.int i2), .val (.int i3), .val (.int i4), .val (.int nn), .val (.int d0), .val (.int d1), .val (.int d2), .val (.int d3), .val (.ref a), .val (.int (3 : Int32)), .unset, .unset, .unset] [])
          (try simp only [if_pos hr1, if_pos hr2] at hJ231 ⊢)
          exact hJ231
    obtain ⟨e4, he4⟩ : ∃ z : Int32, z = (if (3 : Int32) < nn then (if d3 = (46 : Int32) then (3 : Int32) else e3) else e3) := ⟨_, rfl⟩
    refine Goes.cast (show (mkF m 244 #[.val (.int i0), .val (.int i1), .val (.int i2), .val (.int i3), .val (.int i4), .val (.int nn), .val (.int d0), .val (.int d1), .val (.int d2), .val (.int d3), .val (.ref a), .val (.int (if (3 : Int32) < nn then (if d3 = (46 : Int32) then (3 : Int32) else e3) else e3)), .unset, .unset, .unset] []) = (mkF m 244 #[.val (.int i0), .val (.int i1), .val (.int i2), .val (.int i3), .val (.int i4), .val (.int nn), .val (.int d0), .val (.int d1), .val (.int d2), .val (.int d3), .val (.ref a), .val (.int e4), .unset, .unset, .unset] []) from by rw [he4]) ?_
    show Goes _ _ _ _ Tj184 (mkF m 244 #[.val (.int i0), .val (.int i1), .val (.int i2), .val (.int i3), .val (.int i4), .val (.int nn), .val (.int d0), .val (.int d1), .val (.int d2), .val (.int d3), .val (.ref a), .val (.int e4), .unset, .unset, .unset] [])
    have hl : e4 = own_last (([d0, d1, d2, d3] : List Int32).take k) := own_e4 hk4 hk he1 he2 he3 he4
    have hl4 : (([d0, d1, d2, d3] : List Int32).take k).length ≤ 4 := by rw [own_tk hk4]; exact hk4
    obtain ⟨s1, hs⟩ : ∃ z : Nat, z = own_sN (([d0, d1, d2, d3] : List Int32).take k) := ⟨_, rfl⟩
    have hss := own_last_s (([d0, d1, d2, d3] : List Int32).take k) hl4
    rw [← hs, ← hl] at hss
    have hsk : s1 ≤ k := by have q := hss.2; rw [own_tk hk4] at q; exact q
    have hlen : ((([d0, d1, d2, d3] : List Int32).take k).drop s1).length = k - s1 := by rw [List.length_drop, own_tk hk4]
    refine Goes.go (fun _ kS_ => XS.aload Xj184.here Xj184.ex rfl (hb hby at_244) rfl rfl kS_) ?_
    show Goes _ _ _ _ Tj184 (mkF m 246 #[.val (.int i0), .val (.int i1), .val (.int i2), .val (.int i3), .val (.int i4), .val (.int nn), .val (.int d0), .val (.int d1), .val (.int d2), .val (.int d3), .val (.ref a), .val (.int e4), .unset, .unset, .unset] [(.ref a)])
    refine Wk.staticS (y := (⟨"com/example/matchmaker/matchmaker/registry/ServiceId", "extensionOf", "(Ljava/lang/String;)Ljava/lang/String;"⟩ : MethodName)) (W := 0) (kc := 2) (ks := 7) (argsL := [(.ref a)]) (rest := []) (as' := #[(.ref a)]) (ws := []) Xj184 (w_27 hw) (w_28 hw) (w_29 hw) (w_30 hw) (by decide) (CtrS.pays (own_exo l Z a0 hw hEL hj184 Xj184.old a G1 G3 (([d0, d1, d2, d3] : List Int32).take k) O2 P5 O4 rG3 Sa hl4) (w_30 hw) (w_29 hw) (by decide) (by decide) hEL) (fun v h' L q => ⟨q.2, q.1.1⟩) all0 rfl (by rw [hml]; rfl) (lenOf pd_17 rfl) rfl rfl (by show 2 * 0 + _ ≤ _; exact Nat.le_of_eq rfl) (hb hby at_246) (by decide) (by decide) ?_
    intro T185 h185 v185 L185 X185 q185 K185
    obtain ⟨⟨-, r185, rfl, Sr185⟩, -⟩ := q185
    replace Sa := Sa.ext K185.oExt
    show Goes _ _ _ _ T185 (mkF m 249 #[.val (.int i0), .val (.int i1), .val (.int i2), .val (.int i3), .val (.int i4), .val (.int nn), .val (.int d0), .val (.int d1), .val (.int d2), .val (.int d3), .val (.ref a), .val (.int e4), .unset, .unset, .unset] [(.ref r185)])
    refine Goes.go (fun _ kS_ => XS.astore X185.here X185.ex rfl (hb hby at_249) rfl rfl (l' := #[.val (.int i0), .val (.int i1), .val (.int i2), .val (.int i3), .val (.int i4), .val (.int nn), .val (.int d0), .val (.int d1), .val (.int d2), .val (.int d3), .val (.ref a), .val (.int e4), .val (.ref r185), .unset, .unset]) rfl (XS.aload X185.here X185.ex rfl (hb hby at_251) rfl rfl (XS.ifnonnullYes X185.here X185.ex rfl (pc0 := 253) (pc' := 258) rfl (hb hby at_253) rfl (by decide) (by decide) (XS.iload X185.here X185.ex rfl (hb hby at_258) rfl kS_)))) ?_
    show Goes _ _ _ _ T185 (mkF m 260 #[.val (.int i0), .val (.int i1), .val (.int i2), .val (.int i3), .val (.int i4), .val (.int nn), .val (.int d0), .val (.int d1), .val (.int d2), .val (.int d3), .val (.ref a), .val (.int e4), .val (.ref r185), .unset, .unset] [(.int e4)])
    refine Goes.ifc (pc' := 269) X185.here X185.ex (hb hby at_260) (by decide) (by decide) (fun hc260 => ?_) (fun hc260 => ?_)
    · have hc260 : (0 : Int32) < e4 := hc260
      show Goes _ _ _ _ T185 (mkF m 269 #[.val (.int i0), .val (.int i1), .val (.int i2), .val (.int i3), .val (.int i4), .val (.int nn), .val (.int d0), .val (.int d1), .val (.int d2), .val (.int d3), .val (.ref a), .val (.int e4), .val (.ref r185), .unset, .unset] [])
      have hx : own_ext (([d0, d1, d2, d3] : List Int32).take k) = (([d0, d1, d2, d3] : List Int32).take k).drop s1 := by unfold own_ext; rw [← hl, if_pos hc260, hs]
      rw [hx] at Sr185
      refine Goes.go (fun _ kS_ => XS.iload X185.here X185.ex rfl (hb hby at_269) rfl (XS.iload X185.here X185.ex rfl (hb hby at_271) rfl (XS.isub X185.here X185.ex rfl (hb hby at_273) rfl (XS.iconst X185.here X185.ex rfl (hb hby at_274) (XS.isub X185.here X185.ex rfl (hb hby at_275) rfl (XS.istore X185.here X185.ex rfl (hb hby at_276) rfl (l' := #[.val (.int i0), .val (.int i1), .val (.int i2), .val (.int i3), .val (.int i4), .val (.int nn), .val (.int d0), .val (.int d1), .val (.int d2), .val (.int d3), .val (.ref a), .val (.int e4), .val (.ref r185), .val (.int ((nn - e4) - (1 : Int32))), .unset]) rfl kS_)))))) ?_
      show Goes _ _ _ _ T185 (mkF m 278 #[.val (.int i0), .val (.int i1), .val (.int i2), .val (.int i3), .val (.int i4), .val (.int nn), .val (.int d0), .val (.int d1), .val (.int d2), .val (.int d3), .val (.ref a), .val (.int e4), .val (.ref r185), .val (.int ((nn - e4) - (1 : Int32))), .unset] [])
      obtain ⟨mm, hmm⟩ : ∃ z : Int32, z = ((nn - e4) - (1 : Int32)) := ⟨_, rfl⟩
      refine Goes.cast (show (mkF m 278 #[.val (.int i0), .val (.int i1), .val (.int i2), .val (.int i3), .val (.int i4), .val (.int nn), .val (.int d0), .val (.int d1), .val (.int d2), .val (.int d3), .val (.ref a), .val (.int e4), .val (.ref r185), .val (.int ((nn - e4) - (1 : Int32))), .unset] []) = (mkF m 278 #[.val (.int i0), .val (.int i1), .val (.int i2), .val (.int i3), .val (.int i4), .val (.int nn), .val (.int d0), .val (.int d1), .val (.int d2), .val (.int d3), .val (.ref a), .val (.int e4), .val (.ref r185), .val (.int mm), .unset] []) from by rw [hmm]) ?_
      show Goes _ _ _ _ T185 (mkF m 278 #[.val (.int i0), .val (.int i1), .val (.int i2), .val (.int i3), .val (.int i4), .val (.int nn), .val (.int d0), .val (.int d1), .val (.int d2), .val (.int d3), .val (.ref a), .val (.int e4), .val (.ref r185), .val (.int mm), .unset] [])
      obtain ⟨hm, hm2⟩ := own_mm hk4 hsk hk hss.1 hc260 hmm
      refine Goes.go (fun _ kS_ => XS.aload X185.here X185.ex rfl (hb hby at_278) rfl rfl kS_) ?_
      show Goes _ _ _ _ T185 (mkF m 280 #[.val (.int i0), .val (.int i1), .val (.int i2), .val (.int i3), .val (.int i4), .val (.int nn), .val (.int d0), .val (.int d1), .val (.int d2), .val (.int d3), .val (.ref a), .val (.int e4), .val (.ref r185), .val (.int mm), .unset] [(.ref r185)])
      refine Wk.virtual (hm' := fun _ => h185) (C := "java/lang/String") (y := (⟨"java/lang/String", "length", "()I"⟩ : MethodName)) (z := (⟨"java/lang/String", "length", "()I"⟩ : MethodName)) (W := 0) (kc := 0) (ks := 0) (argsL := []) (rest := []) (as' := #[(.ref r185)]) (ws := []) X185 (w_109 hw) (w_40 hw) (w_42 hw) (w_41 hw) (by decide) Sr185.1 (nf_sel (w_42 hw)) (own_lenP (own_wsLen hw) (kI := 4) (w_6 hw) Sr185 O2 P5 X185.old (by decide) (by decide)) (fun v h' L q => ⟨by rw [q.2.1]; exact Fr.nil _, by rw [q.2.2]; exact Keep.refl _ _⟩) all0 (fun _ => Mark.stay all0) rfl (by rw [hml]; rfl) (lenOf pd_5 rfl) rfl rfl (by show 2 * 0 + _ ≤ _; exact Nat.le_of_eq rfl) (hb hby at_280) (by decide) (by decide) ?_
      intro T186 h186 v186 L186 X186 q186 K186
      obtain ⟨rfl, -, -⟩ := q186
      replace Sa := Sa.ext K186.oExt
      replace Sr185 := Sr185.ext K186.oExt
      show Goes _ _ _ _ T186 (mkF m 283 #[.val (.int i0), .val (.int i1), .val (.int i2), .val (.int i3), .val (.int i4), .val (.int nn), .val (.int d0), .val (.int d1), .val (.int d2), .val (.int d3), .val (.ref a), .val (.int e4), .val (.ref r185), .val (.int mm), .unset] [(.int (Int32.ofNat ((([d0, d1, d2, d3] : List Int32).take k).drop s1).length))])
      refine Goes.go (fun _ kS_ => XS.iload X186.here X186.ex rfl (hb hby at_283) rfl kS_) ?_
      show Goes _ _ _ _ T186 (mkF m 285 #[.val (.int i0), .val (.int i1), .val (.int i2), .val (.int i3), .val (.int i4), .val (.int nn), .val (.int d0), .val (.int d1), .val (.int d2), .val (.int d3), .val (.ref a), .val (.int e4), .val (.ref r185), .val (.int mm), .unset] [(.int mm), (.int (Int32.ofNat ((([d0, d1, d2, d3] : List Int32).take k).drop s1).length))])
      refine Goes.go (fun _ kS_ => XS.icmpYes X186.here X186.ex rfl (pc0 := 285) (pc' := 290) rfl (hb hby at_285) rfl (cd_t (cd := .eq) (x := (Int32.ofNat ((([d0, d1, d2, d3] : List Int32).take k).drop s1).length)) (y := mm) ((by rw [hlen]; exact hm.symm))) (by decide) (by decide) kS_) ?_
      show Goes _ _ _ _ T186 (mkF m 290 #[.val (.int i0), .val (.int i1), .val (.int i2), .val (.int i3), .val (.int i4), .val (.int nn), .val (.int d0), .val (.int d1), .val (.int d2), .val (.int d3), .val (.ref a), .val (.int e4), .val (.ref r185), .val (.int mm), .unset] [])
      refine Goes.go (fun _ kS_ => XS.iconst X186.here X186.ex rfl (hb hby at_290) (XS.istore X186.here X186.ex rfl (hb hby at_291) rfl (l' := #[.val (.int i0), .val (.int i1), .val (.int i2), .val (.int i3), .val (.int i4), .val (.int nn), .val (.int d0), .val (.int d1), .val (.int d2), .val (.int d3), .val (.ref a), .val (.int e4), .val (.ref r185), .val (.int mm), .val (.int (1 : Int32))]) rfl kS_)) ?_
      show Goes _ _ _ _ T186 (mkF m 293 #[.val (.int i0), .val (.int i1), .val (.int i2), .val (.int i3), .val (.int i4), .val (.int nn), .val (.int d0), .val (.int d1), .val (.int d2), .val (.int d3), .val (.ref a), .val (.int e4), .val (.ref r185), .val (.int mm), .val (.int (1 : Int32))] [])
      clear hmm
      have hc := own_m3 hm hm2
      rcases hc with rfl | rfl | rfl
      · show Goes _ _ _ _ T186 (mkF m 293 #[.val (.int i0), .val (.int i1), .val (.int i2), .val (.int i3), .val (.int i4), .val (.int nn), .val (.int d0), .val (.int d1), .val (.int d2), .val (.int d3), .val (.ref a), .val (.int e4), .val (.ref r185), .val (.int (0 : Int32)), .val (.int (1 : Int32))] [])
        have hmn := own_mN hm2 hm
        rw [show ((0 : Int32)).toNatClampNeg = 0 from by decide] at hmn
        refine Goes.go (fun _ kS_ => XS.iload X186.here X186.ex rfl (hb hby at_293) rfl (XS.ifYes X186.here X186.ex rfl (pc0 := 295) (pc' := 334) rfl (hb hby at_295) rfl ((if0 _ _).trans (cd_t (cd := .le) (x := (0 : Int32)) (y := (0 : Int32)) (by decide))) (by decide) (by decide) (XS.iload X186.here X186.ex rfl (hb hby at_334) rfl (XS.iconst X186.here X186.ex rfl (hb hby at_336) (XS.icmpYes X186.here X186.ex rfl (pc0 := 337) (pc' := 376) rfl (hb hby at_337) rfl (cd_t (cd := .le) (x := (0 : Int32)) (y := (1 : Int32)) (by decide)) (by decide) (by decide) (XS.iload X186.here X186.ex rfl (hb hby at_376) rfl kS_)))))) ?_
        show Goes _ _ _ _ T186 (mkF m 378 #[.val (.int i0), .val (.int i1), .val (.int i2), .val (.int i3), .val (.int i4), .val (.int nn), .val (.int d0), .val (.int d1), .val (.int d2), .val (.int d3), .val (.ref a), .val (.int e4), .val (.ref r185), .val (.int (0 : Int32)), .val (.int (1 : Int32))] [(.int (0 : Int32))])
        refine Goes.go (fun _ kS_ => XS.iconst X186.here X186.ex rfl (hb hby at_378) (XS.icmpYes X186.here X186.ex rfl (pc0 := 379) (pc' := 418) rfl (hb hby at_379) rfl (cd_t (cd := .le) (x := (0 : Int32)) (y := (2 : Int32)) (by decide)) (by decide) (by decide) (XS.iload X186.here X186.ex rfl (hb hby at_418) rfl kS_))) ?_
        show Goes _ _ _ _ T186 (mkF m 420 #[.val (.int i0), .val (.int i1), .val (.int i2), .val (.int i3), .val (.int i4), .val (.int nn), .val (.int d0), .val (.int d1), .val (.int d2), .val (.int d3), .val (.ref a), .val (.int e4), .val (.ref r185), .val (.int (0 : Int32)), .val (.int (1 : Int32))] [(.int (1 : Int32))])
        refine Goes.outS X186 hEL (fun q => by rw [hret] at q; cases q) hlk (X186.rB hret (by simp) (hb hby at_420)) ?_ (by decide) (by decide)
        exact rfl
      · show Goes _ _ _ _ T186 (mkF m 293 #[.val (.int i0), .val (.int i1), .val (.int i2), .val (.int i3), .val (.int i4), .val (.int nn), .val (.int d0), .val (.int d1), .val (.int d2), .val (.int d3), .val (.ref a), .val (.int e4), .val (.ref r185), .val (.int (1 : Int32)), .val (.int (1 : Int32))] [])
        have hmn := own_mN hm2 hm
        rw [show ((1 : Int32)).toNatClampNeg = 1 from by decide] at hmn
        refine Goes.go (fun _ kS_ => XS.iload X186.here X186.ex rfl (hb hby at_293) rfl (XS.ifNo X186.here X186.ex rfl (hb hby at_295) rfl ((if0 _ _).trans (cd_f (cd := .le) (x := (1 : Int32)) (y := (0 : Int32)) (by decide))) (XS.iload X186.here X186.ex rfl (hb hby at_298) rfl (XS.ifNo X186.here X186.ex rfl (hb hby at_300) rfl ((if0 _ _).trans (cd_f (cd := .eq) (x := (1 : Int32)) (y := (0 : Int32)) (by decide))) (XS.aload X186.here X186.ex rfl (hb hby at_303) rfl rfl (XS.iconst X186.here X186.ex rfl (hb hby at_305) kS_)))))) ?_
        show Goes _ _ _ _ T186 (mkF m 306 #[.val (.int i0), .val (.int i1), .val (.int i2), .val (.int i3), .val (.int i4), .val (.int nn), .val (.int d0), .val (.int d1), .val (.int d2), .val (.int d3), .val (.ref a), .val (.int e4), .val (.ref r185), .val (.int (1 : Int32)), .val (.int (1 : Int32))] [(.int (0 : Int32)), (.ref r185)])
        refine Wk.virtual (hm' := fun _ => h185) (C := "java/lang/String") (y := (⟨"java/lang/String", "charAt", "(I)C"⟩ : MethodName)) (z := (⟨"java/lang/String", "charAt", "(I)C"⟩ : MethodName)) (W := 0) (kc := 0) (ks := 0) (argsL := [(.int (0 : Int32))]) (rest := []) (as' := #[(.ref r185), (.int (0 : Int32))]) (ws := []) X186 (w_129 hw) (w_130 hw) (w_132 hw) (w_131 hw) (by decide) Sr185.1 (nf_sel (w_132 hw)) (own_chP (own_wsCh hw) (kI := 4) (w_6 hw) Sr185 O2 P5 X186.old O4 rG3 (i := 0) (show 0 < ((([d0, d1, d2, d3] : List Int32).take k).drop s1).length from by rw [hlen]; omega) rfl (by decide) (by decide)) (fun v h' L q => ⟨by rw [q.2.1]; exact Fr.nil _, by rw [q.2.2]; exact Keep.refl _ _⟩) all0 (fun _ => Mark.stay all0) rfl (by rw [hml]; rfl) (lenOf pd_16 rfl) rfl rfl (by show 2 * 0 + _ ≤ _; exact Nat.le_of_eq rfl) (hb hby at_306) (by decide) (by decide) ?_
        intro T187 h187 v187 L187 X187 q187 K187
        obtain ⟨rfl, -, -⟩ := q187
        replace Sa := Sa.ext K187.oExt
        replace Sr185 := Sr185.ext K187.oExt
        show Goes _ _ _ _ T187 (mkF m 309 #[.val (.int i0), .val (.int i1), .val (.int i2), .val (.int i3), .val (.int i4), .val (.int nn), .val (.int d0), .val (.int d1), .val (.int d2), .val (.int d3), .val (.ref a), .val (.int e4), .val (.ref r185), .val (.int (1 : Int32)), .val (.int (1 : Int32))] [(.int (((([d0, d1, d2, d3] : List Int32).take k).drop s1).getD 0 0))])
        refine Goes.go (fun _ kS_ => XS.iload X187.here X187.ex rfl (hb hby at_309) rfl (XS.iconst X187.here X187.ex rfl (hb hby at_311) (XS.iadd X187.here X187.ex rfl (hb hby at_312) rfl (XS.iload X187.here X187.ex rfl (hb hby at_313) rfl (XS.iload X187.here X187.ex rfl (hb hby at_315) rfl (XS.iload X187.here X187.ex rfl (hb hby at_317) rfl kS_)))))) ?_
        show Goes _ _ _ _ T187 (mkF m 319 #[.val (.int i0), .val (.int i1), .val (.int i2), .val (.int i3), .val (.int i4), .val (.int nn), .val (.int d0), .val (.int d1), .val (.int d2), .val (.int d3), .val (.ref a), .val (.int e4), .val (.ref r185), .val (.int (1 : Int32)), .val (.int (1 : Int32))] [(.int d2), (.int d1), (.int d0), (.int (e4 + (1 : Int32))), (.int (((([d0, d1, d2, d3] : List Int32).take k).drop s1).getD 0 0))])
        refine Goes.go (fun _ kS_ => XS.iload X187.here X187.ex rfl (hb hby at_319) rfl kS_) ?_
        show Goes _ _ _ _ T187 (mkF m 321 #[.val (.int i0), .val (.int i1), .val (.int i2), .val (.int i3), .val (.int i4), .val (.int nn), .val (.int d0), .val (.int d1), .val (.int d2), .val (.int d3), .val (.ref a), .val (.int e4), .val (.ref r185), .val (.int (1 : Int32)), .val (.int (1 : Int32))] [(.int d3), (.int d2), (.int d1), (.int d0), (.int (e4 + (1 : Int32))), (.int (((([d0, d1, d2, d3] : List Int32).take k).drop s1).getD 0 0))])
        refine Wk.static (hm' := fun _ => h185) (y := (⟨"com/example/matchmaker/matchmaker/registry/ServiceIdExtensionOfPinLaw", "pick", "(ICCCC)C"⟩ : MethodName)) (W := 1) (kc := 0) (ks := 0) (argsL := [(.int (e4 + (1 : Int32))), (.int d0), (.int d1), (.int d2), (.int d3)]) (rest := [(.int (((([d0, d1, d2, d3] : List Int32).take k).drop s1).getD 0 0))]) (as' := #[(.int (e4 + (1 : Int32))), (.int d0), (.int d1), (.int d2), (.int d3)]) (ws := []) X187 (w_143 hw) (w_144 hw) (w_3 hw) (w_145 hw) (by decide) (CtrN.pays (own_pickc l Z a0 hw h187 X187.old (e4 + (1 : Int32)) d0 d1 d2 d3 b0 b1 b2 b3) (w_145 hw) (w_3 hw) (by decide) (by decide)) (fun v h' L q => ⟨q.2, q.1.1⟩) all0 (fun _ => Mark.stay all0) rfl (by rw [hml]; rfl) (lenOf pd_18 rfl) rfl rfl (by show 2 * 0 + _ ≤ _; exact Nat.le_of_eq rfl) (hb hby at_321) (by decide) (by decide) ?_
        intro T188 h188 v188 L188 X188 q188 K188
        obtain ⟨⟨-, rfl⟩, -⟩ := q188
        replace Sa := Sa.ext K188.oExt
        replace Sr185 := Sr185.ext K188.oExt
        show Goes _ _ _ _ T188 (mkF m 324 #[.val (.int i0), .val (.int i1), .val (.int i2), .val (.int i3), .val (.int i4), .val (.int nn), .val (.int d0), .val (.int d1), .val (.int d2), .val (.int d3), .val (.ref a), .val (.int e4), .val (.ref r185), .val (.int (1 : Int32)), .val (.int (1 : Int32))] [(.int (own_pick (e4 + (1 : Int32)) d0 d1 d2 d3)), (.int (((([d0, d1, d2, d3] : List Int32).take k).drop s1).getD 0 0))])
        refine Goes.go (fun _ kS_ => XS.icmpNo X188.here X188.ex rfl (hb hby at_324) rfl (cd_f (cd := .ne) (x := (((([d0, d1, d2, d3] : List Int32).take k).drop s1).getD 0 0)) (y := (own_pick (e4 + (1 : Int32)) d0 d1 d2 d3)) ((fun q => absurd ((own_pk hk4 (j := 0) (by omega) hss.1 (by decide))) q))) kS_) ?_
        show Goes _ _ _ _ T188 (mkF m 327 #[.val (.int i0), .val (.int i1), .val (.int i2), .val (.int i3), .val (.int i4), .val (.int nn), .val (.int d0), .val (.int d1), .val (.int d2), .val (.int d3), .val (.ref a), .val (.int e4), .val (.ref r185), .val (.int (1 : Int32)), .val (.int (1 : Int32))] [])
        refine Goes.go (fun _ kS_ => XS.iconst X188.here X188.ex rfl (hb hby at_327) (XS.goto X188.here X188.ex rfl (pc0 := 328) (pc' := 332) rfl (hb hby at_328) (by decide) (by decide) (XS.istore X188.here X188.ex rfl (hb hby at_332) rfl (l' := #[.val (.int i0), .val (.int i1), .val (.int i2), .val (.int i3), .val (.int i4), .val (.int nn), .val (.int d0), .val (.int d1), .val (.int d2), .val (.int d3), .val (.ref a), .val (.int e4), .val (.ref r185), .val (.int (1 : Int32)), .val (.int (1 : Int32))]) rfl (XS.iload X188.here X188.ex rfl (hb hby at_334) rfl (XS.iconst X188.here X188.ex rfl (hb hby at_336) (XS.icmpYes X188.here X188.ex rfl (pc0 := 337) (pc' := 376) rfl (hb hby at_337) rfl (cd_t (cd := .le) (x := (1 : Int32)) (y := (1 : Int32)) (by decide)) (by decide) (by decide) kS_)))))) ?_
        show Goes _ _ _ _ T188 (mkF m 376 #[.val (.int i0), .val (.int i1), .val (.int i2), .val (.int i3), .val (.int i4), .val (.int nn), .val (.int d0), .val (.int d1), .val (.int d2), .val (.int d3), .val (.ref a), .val (.int e4), .val (.ref r185), .val (.int (1 : Int32)), .val (.int (1 : Int32))] [])
        refine Goes.go (fun _ kS_ => XS.iload X188.here X188.ex rfl (hb hby at_376) rfl (XS.iconst X188.here X188.ex rfl (hb hby at_378) (XS.icmpYes X188.here X188.ex rfl (pc0 := 379) (pc' := 418) rfl (hb hby at_379) rfl (cd_t (cd := .le) (x := (1 : Int32)) (y := (2 : Int32)) (by decide)) (by decide) (by decide) (XS.iload X188.here X188.ex rfl (hb hby at_418) rfl kS_)))) ?_
        show Goes _ _ _ _ T188 (mkF m 420 #[.val (.int i0), .val (.int i1), .val (.int i2), .val (.int i3), .val (.int i4), .val (.int nn), .val (.int d0), .val (.int d1), .val (.int d2), .val (.int d3), .val (.ref a), .val (.int e4), .val (.ref r185), .val (.int (1 : Int32)), .val (.int (1 : Int32))] [(.int (1 : Int32))])
        refine Goes.outS X188 hEL (fun q => by rw [hret] at q; cases q) hlk (X188.rB hret (by simp) (hb hby at_420)) ?_ (by decide) (by decide)
        exact rfl
      · show Goes _ _ _ _ T186 (mkF m 293 #[.val (.int i0), .val (.int i1), .val (.int i2), .val (.int i3), .val (.int i4), .val (.int nn), .val (.int d0), .val (.int d1), .val (.int d2), .val (.int d3), .val (.ref a), .val (.int e4), .val (.ref r185), .val (.int (2 : Int32)), .val (.int (1 : Int32))] [])
        have hmn := own_mN hm2 hm
        rw [show ((2 : Int32)).toNatClampNeg = 2 from by decide] at hmn
        refine Goes.go (fun _ kS_ => XS.iload X186.here X186.ex rfl (hb hby at_293) rfl (XS.ifNo X186.here X186.ex rfl (hb hby at_295) rfl ((if0 _ _).trans (cd_f (cd := .le) (x := (2 : Int32)) (y := (0 : Int32)) (by decide))) (XS.iload X186.here X186.ex rfl (hb hby at_298) rfl (XS.ifNo X186.here X186.ex rfl (hb hby at_300) rfl ((if0 _ _).trans (cd_f (cd := .eq) (x := (1 : Int32)) (y := (0 : Int32)) (by decide))) (XS.aload X186.here X186.ex rfl (hb hby at_303) rfl rfl (XS.iconst X186.here X186.ex rfl (hb hby at_305) kS_)))))) ?_
        show Goes _ _ _ _ T186 (mkF m 306 #[.val (.int i0), .val (.int i1), .val (.int i2), .val (.int i3), .val (.int i4), .val (.int nn), .val (.int d0), .val (.int d1), .val (.int d2), .val (.int d3), .val (.ref a), .val (.int e4), .val (.ref r185), .val (.int (2 : Int32)), .val (.int (1 : Int32))] [(.int (0 : Int32)), (.ref r185)])
        refine Wk.virtual (hm' := fun _ => h185) (C := "java/lang/String") (y := (⟨"java/lang/String", "charAt", "(I)C"⟩ : MethodName)) (z := (⟨"java/lang/String", "charAt", "(I)C"⟩ : MethodName)) (W := 0) (kc := 0) (ks := 0) (argsL := [(.int (0 : Int32))]) (rest := []) (as' := #[(.ref r185), (.int (0 : Int32))]) (ws := []) X186 (w_129 hw) (w_130 hw) (w_132 hw) (w_131 hw) (by decide) Sr185.1 (nf_sel (w_132 hw)) (own_chP (own_wsCh hw) (kI := 4) (w_6 hw) Sr185 O2 P5 X186.old O4 rG3 (i := 0) (show 0 < ((([d0, d1, d2, d3] : List Int32).take k).drop s1).length from by rw [hlen]; omega) rfl (by decide) (by decide)) (fun v h' L q => ⟨by rw [q.2.1]; exact Fr.nil _, by rw [q.2.2]; exact Keep.refl _ _⟩) all0 (fun _ => Mark.stay all0) rfl (by rw [hml]; rfl) (lenOf pd_16 rfl) rfl rfl (by show 2 * 0 + _ ≤ _; exact Nat.le_of_eq rfl) (hb hby at_306) (by decide) (by decide) ?_
        intro T189 h189 v189 L189 X189 q189 K189
        obtain ⟨rfl, -, -⟩ := q189
        replace Sa := Sa.ext K189.oExt
        replace Sr185 := Sr185.ext K189.oExt
        show Goes _ _ _ _ T189 (mkF m 309 #[.val (.int i0), .val (.int i1), .val (.int i2), .val (.int i3), .val (.int i4), .val (.int nn), .val (.int d0), .val (.int d1), .val (.int d2), .val (.int d3), .val (.ref a), .val (.int e4), .val (.ref r185), .val (.int (2 : Int32)), .val (.int (1 : Int32))] [(.int (((([d0, d1, d2, d3] : List Int32).take k).drop s1).getD 0 0))])
        refine Goes.go (fun _ kS_ => XS.iload X189.here X189.ex rfl (hb hby at_309) rfl (XS.iconst X189.here X189.ex rfl (hb hby at_311) (XS.iadd X189.here X189.ex rfl (hb hby at_312) rfl (XS.iload X189.here X189.ex rfl (hb hby at_313) rfl (XS.iload X189.here X189.ex rfl (hb hby at_315) rfl (XS.iload X189.here X189.ex rfl (hb hby at_317) rfl kS_)))))) ?_
        show Goes _ _ _ _ T189 (mkF m 319 #[.val (.int i0), .val (.int i1), .val (.int i2), .val (.int i3), .val (.int i4), .val (.int nn), .val (.int d0), .val (.int d1), .val (.int d2), .val (.int d3), .val (.ref a), .val (.int e4), .val (.ref r185), .val (.int (2 : Int32)), .val (.int (1 : Int32))] [(.int d2), (.int d1), (.int d0), (.int (e4 + (1 : Int32))), (.int (((([d0, d1, d2, d3] : List Int32).take k).drop s1).getD 0 0))])
        refine Goes.go (fun _ kS_ => XS.iload X189.here X189.ex rfl (hb hby at_319) rfl kS_) ?_
        show Goes _ _ _ _ T189 (mkF m 321 #[.val (.int i0), .val (.int i1), .val (.int i2), .val (.int i3), .val (.int i4), .val (.int nn), .val (.int d0), .val (.int d1), .val (.int d2), .val (.int d3), .val (.ref a), .val (.int e4), .val (.ref r185), .val (.int (2 : Int32)), .val (.int (1 : Int32))] [(.int d3), (.int d2), (.int d1), (.int d0), (.int (e4 + (1 : Int32))), (.int (((([d0, d1, d2, d3] : List Int32).take k).drop s1).getD 0 0))])
        refine Wk.static (hm' := fun _ => h185) (y := (⟨"com/example/matchmaker/matchmaker/registry/ServiceIdExtensionOfPinLaw", "pick", "(ICCCC)C"⟩ : MethodName)) (W := 1) (kc := 0) (ks := 0) (argsL := [(.int (e4 + (1 : Int32))), (.int d0), (.int d1), (.int d2), (.int d3)]) (rest := [(.int (((([d0, d1, d2, d3] : List Int32).take k).drop s1).getD 0 0))]) (as' := #[(.int (e4 + (1 : Int32))), (.int d0), (.int d1), (.int d2), (.int d3)]) (ws := []) X189 (w_143 hw) (w_144 hw) (w_3 hw) (w_145 hw) (by decide) (CtrN.pays (own_pickc l Z a0 hw h189 X189.old (e4 + (1 : Int32)) d0 d1 d2 d3 b0 b1 b2 b3) (w_145 hw) (w_3 hw) (by decide) (by decide)) (fun v h' L q => ⟨q.2, q.1.1⟩) all0 (fun _ => Mark.stay all0) rfl (by rw [hml]; rfl) (lenOf pd_18 rfl) rfl rfl (by show 2 * 0 + _ ≤ _; exact Nat.le_of_eq rfl) (hb hby at_321) (by decide) (by decide) ?_
        intro T190 h190 v190 L190 X190 q190 K190
        obtain ⟨⟨-, rfl⟩, -⟩ := q190
        replace Sa := Sa.ext K190.oExt
        replace Sr185 := Sr185.ext K190.oExt
        show Goes _ _ _ _ T190 (mkF m 324 #[.val (.int i0), .val (.int i1), .val (.int i2), .val (.int i3), .val (.int i4), .val (.int nn), .val (.int d0), .val (.int d1), .val (.int d2), .val (.int d3), .val (.ref a), .val (.int e4), .val (.ref r185), .val (.int (2 : Int32)), .val (.int (1 : Int32))] [(.int (own_pick (e4 + (1 : Int32)) d0 d1 d2 d3)), (.int (((([d0, d1, d2, d3] : List Int32).take k).drop s1).getD 0 0))])
        refine Goes.go (fun _ kS_ => XS.icmpNo X190.here X190.ex rfl (hb hby at_324) rfl (cd_f (cd := .ne) (x := (((([d0, d1, d2, d3] : List Int32).take k).drop s1).getD 0 0)) (y := (own_pick (e4 + (1 : Int32)) d0 d1 d2 d3)) ((fun q => absurd ((own_pk hk4 (j := 0) (by omega) hss.1 (by decide))) q))) kS_) ?_
        show Goes _ _ _ _ T190 (mkF m 327 #[.val (.int i0), .val (.int i1), .val (.int i2), .val (.int i3), .val (.int i4), .val (.int nn), .val (.int d0), .val (.int d1), .val (.int d2), .val (.int d3), .val (.ref a), .val (.int e4), .val (.ref r185), .val (.int (2 : Int32)), .val (.int (1 : Int32))] [])
        refine Goes.go (fun _ kS_ => XS.iconst X190.here X190.ex rfl (hb hby at_327) (XS.goto X190.here X190.ex rfl (pc0 := 328) (pc' := 332) rfl (hb hby at_328) (by decide) (by decide) (XS.istore X190.here X190.ex rfl (hb hby at_332) rfl (l' := #[.val (.int i0), .val (.int i1), .val (.int i2), .val (.int i3), .val (.int i4), .val (.int nn), .val (.int d0), .val (.int d1), .val (.int d2), .val (.int d3), .val (.ref a), .val (.int e4), .val (.ref r185), .val (.int (2 : Int32)), .val (.int (1 : Int32))]) rfl (XS.iload X190.here X190.ex rfl (hb hby at_334) rfl (XS.iconst X190.here X190.ex rfl (hb hby at_336) (XS.icmpNo X190.here X190.ex rfl (hb hby at_337) rfl (cd_f (cd := .le) (x := (2 : Int32)) (y := (1 : Int32)) (by decide)) kS_)))))) ?_
        show Goes _ _ _ _ T190 (mkF m 340 #[.val (.int i0), .val (.int i1), .val (.int i2), .val (.int i3), .val (.int i4), .val (.int nn), .val (.int d0), .val (.int d1), .val (.int d2), .val (.int d3), .val (.ref a), .val (.int e4), .val (.ref r185), .val (.int (2 : Int32)), .val (.int (1 : Int32))] [])
        refine Goes.go (fun _ kS_ => XS.iload X190.here X190.ex rfl (hb hby at_340) rfl (XS.ifNo X190.here X190.ex rfl (hb hby at_342) rfl ((if0 _ _).trans (cd_f (cd := .eq) (x := (1 : Int32)) (y := (0 : Int32)) (by decide))) (XS.aload X190.here X190.ex rfl (hb hby at_345) rfl rfl (XS.iconst X190.here X190.ex rfl (hb hby at_347) kS_)))) ?_
        show Goes _ _ _ _ T190 (mkF m 348 #[.val (.int i0), .val (.int i1), .val (.int i2), .val (.int i3), .val (.int i4), .val (.int nn), .val (.int d0), .val (.int d1), .val (.int d2), .val (.int d3), .val (.ref a), .val (.int e4), .val (.ref r185), .val (.int (2 : Int32)), .val (.int (1 : Int32))] [(.int (1 : Int32)), (.ref r185)])
        refine Wk.virtual (hm' := fun _ => h185) (C := "java/lang/String") (y := (⟨"java/lang/String", "charAt", "(I)C"⟩ : MethodName)) (z := (⟨"java/lang/String", "charAt", "(I)C"⟩ : MethodName)) (W := 0) (kc := 0) (ks := 0) (argsL := [(.int (1 : Int32))]) (rest := []) (as' := #[(.ref r185), (.int (1 : Int32))]) (ws := []) X190 (w_129 hw) (w_130 hw) (w_132 hw) (w_131 hw) (by decide) Sr185.1 (nf_sel (w_132 hw)) (own_chP (own_wsCh hw) (kI := 4) (w_6 hw) Sr185 O2 P5 X190.old O4 rG3 (i := 1) (show 1 < ((([d0, d1, d2, d3] : List Int32).take k).drop s1).length from by rw [hlen]; omega) rfl (by decide) (by decide)) (fun v h' L q => ⟨by rw [q.2.1]; exact Fr.nil _, by rw [q.2.2]; exact Keep.refl _ _⟩) all0 (fun _ => Mark.stay all0) rfl (by rw [hml]; rfl) (lenOf pd_16 rfl) rfl rfl (by show 2 * 0 + _ ≤ _; exact Nat.le_of_eq rfl) (hb hby at_348) (by decide) (by decide) ?_
        intro T191 h191 v191 L191 X191 q191 K191
        obtain ⟨rfl, -, -⟩ := q191
        replace Sa := Sa.ext K191.oExt
        replace Sr185 := Sr185.ext K191.oExt
        show Goes _ _ _ _ T191 (mkF m 351 #[.val (.int i0), .val (.int i1), .val (.int i2), .val (.int i3), .val (.int i4), .val (.int nn), .val (.int d0), .val (.int d1), .val (.int d2), .val (.int d3), .val (.ref a), .val (.int e4), .val (.ref r185), .val (.int (2 : Int32)), .val (.int (1 : Int32))] [(.int (((([d0, d1, d2, d3] : List Int32).take k).drop s1).getD 1 0))])
        refine Goes.go (fun _ kS_ => XS.iload X191.here X191.ex rfl (hb hby at_351) rfl (XS.iconst X191.here X191.ex rfl (hb hby at_353) (XS.iadd X191.here X191.ex rfl (hb hby at_354) rfl (XS.iload X191.here X191.ex rfl (hb hby at_355) rfl (XS.iload X191.here X191.ex rfl (hb hby at_357) rfl (XS.iload X191.here X191.ex rfl (hb hby at_359) rfl kS_)))))) ?_
        show Goes _ _ _ _ T191 (mkF m 361 #[.val (.int i0), .val (.int i1), .val (.int i2), .val (.int i3), .val (.int i4), .val (.int nn), .val (.int d0), .val (.int d1), .val (.int d2), .val (.int d3), .val (.ref a), .val (.int e4), .val (.ref r185), .val (.int (2 : Int32)), .val (.int (1 : Int32))] [(.int d2), (.int d1), (.int d0), (.int (e4 + (2 : Int32))), (.int (((([d0, d1, d2, d3] : List Int32).take k).drop s1).getD 1 0))])
        refine Goes.go (fun _ kS_ => XS.iload X191.here X191.ex rfl (hb hby at_361) rfl kS_) ?_
        show Goes _ _ _ _ T191 (mkF m 363 #[.val (.int i0), .val (.int i1), .val (.int i2), .val (.int i3), .val (.int i4), .val (.int nn), .val (.int d0), .val (.int d1), .val (.int d2), .val (.int d3), .val (.ref a), .val (.int e4), .val (.ref r185), .val (.int (2 : Int32)), .val (.int (1 : Int32))] [(.int d3), (.int d2), (.int d1), (.int d0), (.int (e4 + (2 : Int32))), (.int (((([d0, d1, d2, d3] : List Int32).take k).drop s1).getD 1 0))])
        refine Wk.static (hm' := fun _ => h185) (y := (⟨"com/example/matchmaker/matchmaker/registry/ServiceIdExtensionOfPinLaw", "pick", "(ICCCC)C"⟩ : MethodName)) (W := 1) (kc := 0) (ks := 0) (argsL := [(.int (e4 + (2 : Int32))), (.int d0), (.int d1), (.int d2), (.int d3)]) (rest := [(.int (((([d0, d1, d2, d3] : List Int32).take k).drop s1).getD 1 0))]) (as' := #[(.int (e4 + (2 : Int32))), (.int d0), (.int d1), (.int d2), (.int d3)]) (ws := []) X191 (w_143 hw) (w_144 hw) (w_3 hw) (w_145 hw) (by decide) (CtrN.pays (own_pickc l Z a0 hw h191 X191.old (e4 + (2 : Int32)) d0 d1 d2 d3 b0 b1 b2 b3) (w_145 hw) (w_3 hw) (by decide) (by decide)) (fun v h' L q => ⟨q.2, q.1.1⟩) all0 (fun _ => Mark.stay all0) rfl (by rw [hml]; rfl) (lenOf pd_18 rfl) rfl rfl (by show 2 * 0 + _ ≤ _; exact Nat.le_of_eq rfl) (hb hby at_363) (by decide) (by decide) ?_
        intro T192 h192 v192 L192 X192 q192 K192
        obtain ⟨⟨-, rfl⟩, -⟩ := q192
        replace Sa := Sa.ext K192.oExt
        replace Sr185 := Sr185.ext K192.oExt
        show Goes _ _ _ _ T192 (mkF m 366 #[.val (.int i0), .val (.int i1), .val (.int i2), .val (.int i3), .val (.int i4), .val (.int nn), .val (.int d0), .val (.int d1), .val (.int d2), .val (.int d3), .val (.ref a), .val (.int e4), .val (.ref r185), .val (.int (2 : Int32)), .val (.int (1 : Int32))] [(.int (own_pick (e4 + (2 : Int32)) d0 d1 d2 d3)), (.int (((([d0, d1, d2, d3] : List Int32).take k).drop s1).getD 1 0))])
        refine Goes.go (fun _ kS_ => XS.icmpNo X192.here X192.ex rfl (hb hby at_366) rfl (cd_f (cd := .ne) (x := (((([d0, d1, d2, d3] : List Int32).take k).drop s1).getD 1 0)) (y := (own_pick (e4 + (2 : Int32)) d0 d1 d2 d3)) ((fun q => absurd ((own_pk hk4 (j := 1) (by omega) hss.1 (by decide))) q))) kS_) ?_
        show Goes _ _ _ _ T192 (mkF m 369 #[.val (.int i0), .val (.int i1), .val (.int i2), .val (.int i3), .val (.int i4), .val (.int nn), .val (.int d0), .val (.int d1), .val (.int d2), .val (.int d3), .val (.ref a), .val (.int e4), .val (.ref r185), .val (.int (2 : Int32)), .val (.int (1 : Int32))] [])
        refine Goes.go (fun _ kS_ => XS.iconst X192.here X192.ex rfl (hb hby at_369) (XS.goto X192.here X192.ex rfl (pc0 := 370) (pc' := 374) rfl (hb hby at_370) (by decide) (by decide) (XS.istore X192.here X192.ex rfl (hb hby at_374) rfl (l' := #[.val (.int i0), .val (.int i1), .val (.int i2), .val (.int i3), .val (.int i4), .val (.int nn), .val (.int d0), .val (.int d1), .val (.int d2), .val (.int d3), .val (.ref a), .val (.int e4), .val (.ref r185), .val (.int (2 : Int32)), .val (.int (1 : Int32))]) rfl (XS.iload X192.here X192.ex rfl (hb hby at_376) rfl (XS.iconst X192.here X192.ex rfl (hb hby at_378) (XS.icmpYes X192.here X192.ex rfl (pc0 := 379) (pc' := 418) rfl (hb hby at_379) rfl (cd_t (cd := .le) (x := (2 : Int32)) (y := (2 : Int32)) (by decide)) (by decide) (by decide) kS_)))))) ?_
        show Goes _ _ _ _ T192 (mkF m 418 #[.val (.int i0), .val (.int i1), .val (.int i2), .val (.int i3), .val (.int i4), .val (.int nn), .val (.int d0), .val (.int d1), .val (.int d2), .val (.int d3), .val (.ref a), .val (.int e4), .val (.ref r185), .val (.int (2 : Int32)), .val (.int (1 : Int32))] [])
        refine Goes.go (fun _ kS_ => XS.iload X192.here X192.ex rfl (hb hby at_418) rfl kS_) ?_
        show Goes _ _ _ _ T192 (mkF m 420 #[.val (.int i0), .val (.int i1), .val (.int i2), .val (.int i3), .val (.int i4), .val (.int nn), .val (.int d0), .val (.int d1), .val (.int d2), .val (.int d3), .val (.ref a), .val (.int e4), .val (.ref r185), .val (.int (2 : Int32)), .val (.int (1 : Int32))] [(.int (1 : Int32))])
        refine Goes.outS X192 hEL (fun q => by rw [hret] at q; cases q) hlk (X192.rB hret (by simp) (hb hby at_420)) ?_ (by decide) (by decide)
        exact rfl
    · have hc260 : ¬ ((0 : Int32) < e4) := hc260
      show Goes _ _ _ _ T185 (mkF m 263 #[.val (.int i0), .val (.int i1), .val (.int i2), .val (.int i3), .val (.int i4), .val (.int nn), .val (.int d0), .val (.int d1), .val (.int d2), .val (.int d3), .val (.ref a), .val (.int e4), .val (.ref r185), .unset, .unset] [])
      have hx : own_ext (([d0, d1, d2, d3] : List Int32).take k) = [] := by unfold own_ext; rw [← hl, if_neg hc260]
      rw [hx] at Sr185
      refine Goes.go (fun _ kS_ => XS.aload X185.here X185.ex rfl (hb hby at_263) rfl rfl kS_) ?_
      show Goes _ _ _ _ T185 (mkF m 265 #[.val (.int i0), .val (.int i1), .val (.int i2), .val (.int i3), .val (.int i4), .val (.int nn), .val (.int d0), .val (.int d1), .val (.int d2), .val (.int d3), .val (.ref a), .val (.int e4), .val (.ref r185), .unset, .unset] [(.ref r185)])
      refine Wk.virtual (hm' := fun _ => h185) (C := "java/lang/String") (y := (⟨"java/lang/String", "isEmpty", "()Z"⟩ : MethodName)) (z := (⟨"java/lang/String", "isEmpty", "()Z"⟩ : MethodName)) (W := 0) (kc := 0) (ks := 0) (argsL := []) (rest := []) (as' := #[(.ref r185)]) (ws := []) X185 (w_72 hw) (w_73 hw) (w_75 hw) (w_74 hw) (by decide) Sr185.1 (nf_sel (w_75 hw)) (own_empP (own_wsEmp hw) (kI := 4) (w_6 hw) Sr185 (by decide) (by decide)) (fun v h' L q => ⟨by rw [q.2.1]; exact Fr.nil _, by rw [q.2.2]; exact Keep.refl _ _⟩) all0 (fun _ => Mark.stay all0) rfl (by rw [hml]; rfl) (lenOf pd_3 rfl) rfl rfl (by show 2 * 0 + _ ≤ _; exact Nat.le_of_eq rfl) (hb hby at_265) (by decide) (by decide) ?_
      intro T193 h193 v193 L193 X193 q193 K193
      obtain ⟨rfl, -, -⟩ := q193
      replace Sa := Sa.ext K193.oExt
      replace Sr185 := Sr185.ext K193.oExt
      show Goes _ _ _ _ T193 (mkF m 268 #[.val (.int i0), .val (.int i1), .val (.int i2), .val (.int i3), .val (.int i4), .val (.int nn), .val (.int d0), .val (.int d1), .val (.int d2), .val (.int d3), .val (.ref a), .val (.int e4), .val (.ref r185), .unset, .unset] [(.int (if ([] : List Int32).length = 0 then 1 else 0))])
      refine Goes.outS X193 hEL (fun q => by rw [hret] at q; cases q) hlk (X193.rB hret (by simp) (hb hby at_268)) ?_ (by decide) (by decide)
      exact rfl
  rcases hc with rfl | rfl | rfl | rfl | rfl
  · show Goes _ _ _ _ T183 (mkF m 35 #[.val (.int i0), .val (.int i1), .val (.int i2), .val (.int i3), .val (.int i4), .val (.int (0 : Int32)), .val (.int d0), .val (.int d1), .val (.int d2), .val (.int d3), .unset, .unset, .unset, .unset, .unset] [(.int (0 : Int32))])
    refine Goes.go (fun _ kS_ => XS.ifNo X183.here X183.ex rfl (hb hby at_35) rfl ((if0 _ _).trans (cd_f (cd := .ne) (x := (0 : Int32)) (y := (0 : Int32)) (by decide))) kS_) ?_
    show Goes _ _ _ _ T183 (mkF m 38 #[.val (.int i0), .val (.int i1), .val (.int i2), .val (.int i3), .val (.int i4), .val (.int (0 : Int32)), .val (.int d0), .val (.int d1), .val (.int d2), .val (.int d3), .unset, .unset, .unset, .unset, .unset] [])
    have X194 := X183.mark
    refine Wk.new X194 (w_5 hw) (w_6 hw) (w_7 hw) rfl (hb hby at_38) (by decide) (by decide) ?_
    intro T195 h195 a195 g195 X195 E195 A195 D195
    have gz_a195 : Z.heap.size ≤ a195 := g195 ▸ X194.old.1
    have gm_a195 : h183.size ≤ a195 := g195 ▸ X194.ext.1
    have F_a195_value : Fld Z h195 a195 "java/lang/String" "value" "[B" .null := D195 (Or.inr (w_21 hw)) (ty := (.array .byte)) (by decide)
    have F_a195_coder : Fld Z h195 a195 "java/lang/String" "coder" "B" (.int (0 : Int32)) := D195 (Or.inr (w_22 hw)) (ty := .byte) (by decide)
    clear D195
    show Goes _ _ _ _ T195 (mkF m 41 #[.val (.int i0), .val (.int i1), .val (.int i2), .val (.int i3), .val (.int i4), .val (.int (0 : Int32)), .val (.int d0), .val (.int d1), .val (.int d2), .val (.int d3), .unset, .unset, .unset, .unset, .unset] [(.ref a195)])
    refine Goes.go (fun _ kS_ => XS.dup X195.here X195.ex rfl (hb hby at_41) rfl rfl (XS.iconst X195.here X195.ex rfl (hb hby at_42) kS_)) ?_
    show Goes _ _ _ _ T195 (mkF m 43 #[.val (.int i0), .val (.int i1), .val (.int i2), .val (.int i3), .val (.int i4), .val (.int (0 : Int32)), .val (.int d0), .val (.int d1), .val (.int d2), .val (.int d3), .unset, .unset, .unset, .unset, .unset] [(.int (0 : Int32)), (.ref a195), (.ref a195)])
    refine Wk.newA (aty := .char) X195 (w_8 hw) rfl (hb hby at_43) rfl (by decide) (cap := 0) (by decide) (by decide) (by decide) (by decide) ?_
    intro T196 h196 b196 k196 g196 X196 E196 A196 B_b196
    have lt_a195_b196 : a195 < b196 := by rw [g196]; exact A195.lt
    replace A195 := A195.ext E196
    replace F_a195_value := F_a195_value.ext E196
    replace F_a195_coder := F_a195_coder.ext E196
    have V_b196 : Arv Z h196 b196 k196 .char (0 : Int32) [] (.int (0 : Int32)) := A196.pad (pad_rep [] (.int (0 : Int32)) 0)
    have gz_b196 : Z.heap.size ≤ b196 := g196 ▸ X195.old.1
    have gm_b196 : h183.size ≤ b196 := g196 ▸ X195.ext.1
    show Goes _ _ _ _ T196 (mkF m 45 #[.val (.int i0), .val (.int i1), .val (.int i2), .val (.int i3), .val (.int i4), .val (.int (0 : Int32)), .val (.int d0), .val (.int d1), .val (.int d2), .val (.int d3), .unset, .unset, .unset, .unset, .unset] [(.ref b196), (.ref a195), (.ref a195)])
    refine Wk.specialS (y := (⟨"java/lang/String", "<init>", "([C)V"⟩ : MethodName)) (W := 1) (kc := 4) (ks := 8) (argsL := [(.ref b196)]) (rest := [(.ref a195)]) (as' := #[(.ref a195), (.ref b196)]) (ws := [a195]) X196 rfl (w_9 hw) (w_10 hw) (w_11 hw) (by decide) (CtrS.pays (own_new1E l Z a0 hw hEL h196 X196.old a195 b196 A195 F_a195_value F_a195_coder gz_a195 _ _ V_b196) (w_11 hw) (w_7 hw) (by decide) (by decide) hEL) (fun v h' L q => ⟨q.2, q.1.1⟩) (allS gz_a195 all0) rfl (by rw [hml]; rfl) (lenOf pd_19 rfl) rfl rfl (by show 2 * 0 + _ ≤ _; exact Nat.le_of_eq rfl) (hb hby at_45) (by decide) (by decide) ?_
    intro T197 h197 v197 L197 X197 q197 K197
    obtain ⟨⟨-, rfl, S_a195⟩, -⟩ := q197
    show Goes _ _ _ _ T197 (mkF m 48 #[.val (.int i0), .val (.int i1), .val (.int i2), .val (.int i3), .val (.int i4), .val (.int (0 : Int32)), .val (.int d0), .val (.int d1), .val (.int d2), .val (.int d3), .unset, .unset, .unset, .unset, .unset] [(.ref a195)])
    have EE197 := X196.ext.oKeep K197 (allS gm_a195 all0)
    refine Goes.go (fun _ kS_ => XS.astore X197.here X197.ex rfl (hb hby at_48) rfl rfl (l' := #[.val (.int i0), .val (.int i1), .val (.int i2), .val (.int i3), .val (.int i4), .val (.int (0 : Int32)), .val (.int d0), .val (.int d1), .val (.int d2), .val (.int d3), .val (.ref a195), .unset, .unset, .unset, .unset]) rfl (XS.goto X197.here X197.ex rfl (pc0 := 50) (pc' := 178) rfl (hb hby at_50) (by decide) (by decide) kS_)) ?_
    show Goes _ _ _ _ T197 (mkF m 178 #[.val (.int i0), .val (.int i1), .val (.int i2), .val (.int i3), .val (.int i4), .val (.int (0 : Int32)), .val (.int d0), .val (.int d1), .val (.int d2), .val (.int d3), .val (.ref a195), .unset, .unset, .unset, .unset] [])
    exact hJ T197 h197 0 (0 : Int32) a195 (X197.free.mark.mono (by decide) (by decide)) rfl (by decide) S_a195
  · show Goes _ _ _ _ T183 (mkF m 35 #[.val (.int i0), .val (.int i1), .val (.int i2), .val (.int i3), .val (.int i4), .val (.int (1 : Int32)), .val (.int d0), .val (.int d1), .val (.int d2), .val (.int d3), .unset, .unset, .unset, .unset, .unset] [(.int (1 : Int32))])
    refine Goes.go (fun _ kS_ => XS.ifYes X183.here X183.ex rfl (pc0 := 35) (pc' := 53) rfl (hb hby at_35) rfl ((if0 _ _).trans (cd_t (cd := .ne) (x := (1 : Int32)) (y := (0 : Int32)) (by decide))) (by decide) (by decide) (XS.iload X183.here X183.ex rfl (hb hby at_53) rfl (XS.iconst X183.here X183.ex rfl (hb hby at_55) (XS.icmpNo X183.here X183.ex rfl (hb hby at_56) rfl (cd_f (cd := .ne) (x := (1 : Int32)) (y := (1 : Int32)) (by decide)) kS_)))) ?_
    show Goes _ _ _ _ T183 (mkF m 59 #[.val (.int i0), .val (.int i1), .val (.int i2), .val (.int i3), .val (.int i4), .val (.int (1 : Int32)), .val (.int d0), .val (.int d1), .val (.int d2), .val (.int d3), .unset, .unset, .unset, .unset, .unset] [])
    have X198 := X183.mark
    refine Wk.new X198 (w_5 hw) (w_6 hw) (w_7 hw) rfl (hb hby at_59) (by decide) (by decide) ?_
    intro T199 h199 a199 g199 X199 E199 A199 D199
    have gz_a199 : Z.heap.size ≤ a199 := g199 ▸ X198.old.1
    have gm_a199 : h183.size ≤ a199 := g199 ▸ X198.ext.1
    have F_a199_value : Fld Z h199 a199 "java/lang/String" "value" "[B" .null := D199 (Or.inr (w_21 hw)) (ty := (.array .byte)) (by decide)
    have F_a199_coder : Fld Z h199 a199 "java/lang/String" "coder" "B" (.int (0 : Int32)) := D199 (Or.inr (w_22 hw)) (ty := .byte) (by decide)
    clear D199
    show Goes _ _ _ _ T199 (mkF m 62 #[.val (.int i0), .val (.int i1), .val (.int i2), .val (.int i3), .val (.int i4), .val (.int (1 : Int32)), .val (.int d0), .val (.int d1), .val (.int d2), .val (.int d3), .unset, .unset, .unset, .unset, .unset] [(.ref a199)])
    refine Goes.go (fun _ kS_ => XS.dup X199.here X199.ex rfl (hb hby at_62) rfl rfl (XS.iconst X199.here X199.ex rfl (hb hby at_63) kS_)) ?_
    show Goes _ _ _ _ T199 (mkF m 64 #[.val (.int i0), .val (.int i1), .val (.int i2), .val (.int i3), .val (.int i4), .val (.int (1 : Int32)), .val (.int d0), .val (.int d1), .val (.int d2), .val (.int d3), .unset, .unset, .unset, .unset, .unset] [(.int (1 : Int32)), (.ref a199), (.ref a199)])
    refine Wk.newA (aty := .char) X199 (w_8 hw) rfl (hb hby at_64) rfl (by decide) (cap := 1) (by decide) (by decide) (by decide) (by decide) ?_
    intro T200 h200 b200 k200 g200 X200 E200 A200 B_b200
    have lt_a199_b200 : a199 < b200 := by rw [g200]; exact A199.lt
    replace A199 := A199.ext E200
    replace F_a199_value := F_a199_value.ext E200
    replace F_a199_coder := F_a199_coder.ext E200
    have V_b200 : Arv Z h200 b200 k200 .char (1 : Int32) [(.int (0 : Int32))] (.int (0 : Int32)) := A200.pad (pad_rep [] (.int (0 : Int32)) 1)
    have gz_b200 : Z.heap.size ≤ b200 := g200 ▸ X199.old.1
    have gm_b200 : h183.size ≤ b200 := g200 ▸ X199.ext.1
    show Goes _ _ _ _ T200 (mkF m 66 #[.val (.int i0), .val (.int i1), .val (.int i2), .val (.int i3), .val (.int i4), .val (.int (1 : Int32)), .val (.int d0), .val (.int d1), .val (.int d2), .val (.int d3), .unset, .unset, .unset, .unset, .unset] [(.ref b200), (.ref a199), (.ref a199)])
    refine Goes.go (fun _ kS_ => XS.dup X200.here X200.ex rfl (hb hby at_66) rfl rfl (XS.iconst X200.here X200.ex rfl (hb hby at_67) (XS.iload X200.here X200.ex rfl (hb hby at_68) rfl kS_))) ?_
    show Goes _ _ _ _ T200 (mkF m 70 #[.val (.int i0), .val (.int i1), .val (.int i2), .val (.int i3), .val (.int i4), .val (.int (1 : Int32)), .val (.int d0), .val (.int d1), .val (.int d2), .val (.int d3), .unset, .unset, .unset, .unset, .unset] [(.int d0), (.int (0 : Int32)), (.ref b200), (.ref b200), (.ref a199), (.ref a199)])
    refine Wk.castore (hm' := fun _ => h183) X200 V_b200 ⟨by decide, by decide⟩ (i := 0) rfl (Nat.le_of_ble_eq_true rfl) gz_b200 (fun _ => Mark.stay (allS gm_b200 all0)) rfl rfl (hb hby at_70) ?_
    intro T201 h201 X201 W201 V201
    replace A199 := A199.wr W201
    replace F_a199_value := F_a199_value.other W201 (Or.inl (Nat.ne_of_lt lt_a199_b200))
    replace F_a199_coder := F_a199_coder.other W201 (Or.inl (Nat.ne_of_lt lt_a199_b200))
    clear V_b200; have V_b200 : Arv Z h201 b200 _ .char (1 : Int32) [(.int (nar .char d0))] (.int (0 : Int32)) := V201
    rw [own_narc b0] at V_b200
    show Goes _ _ _ _ T201 (mkF m 71 #[.val (.int i0), .val (.int i1), .val (.int i2), .val (.int i3), .val (.int i4), .val (.int (1 : Int32)), .val (.int d0), .val (.int d1), .val (.int d2), .val (.int d3), .unset, .unset, .unset, .unset, .unset] [(.ref b200), (.ref a199), (.ref a199)])
    have hp202 : ∀ c ∈ ([d0] : List Int32), ¬ c < 0 ∧ ¬ (255 : Int32) < c := by
        intro c hc
        simp only [List.mem_cons, List.not_mem_nil, or_false] at hc
        rcases hc with rfl
        · exact b0
    refine Wk.special (hm' := fun _ => h183) (y := (⟨"java/lang/String", "<init>", "([C)V"⟩ : MethodName)) (W := 1) (kc := 1) (ks := 1) (argsL := [(.ref b200)]) (rest := [(.ref a199)]) (as' := #[(.ref a199), (.ref b200)]) (ws := [a199]) X201 rfl (w_9 hw) (w_10 hw) (w_11 hw) (by decide) (own_newP (own_ws hw) (kI := 4) (w_6 hw) (cs := ([d0] : List Int32)) (n := 1) gz_a199 X201.old A199 F_a199_value F_a199_coder V_b200 O2 P5 rfl rfl (by decide) (by decide) hp202 (by decide) (by decide)) (fun v h' L q => ⟨q.2.1, q.2.2.1⟩) (allS gz_a199 all0) (fun _ => Mark.stay (allS gm_a199 all0)) rfl (by rw [hml]; rfl) (lenOf pd_19 rfl) rfl rfl (by show 2 * 0 + _ ≤ _; exact Nat.le_of_eq rfl) (hb hby at_71) (by decide) (by decide) ?_
    intro T203 h203 v203 L203 X203 q203 K203
    obtain ⟨rfl, -, -, S_a199⟩ := q203
    show Goes _ _ _ _ T203 (mkF m 74 #[.val (.int i0), .val (.int i1), .val (.int i2), .val (.int i3), .val (.int i4), .val (.int (1 : Int32)), .val (.int d0), .val (.int d1), .val (.int d2), .val (.int d3), .unset, .unset, .unset, .unset, .unset] [(.ref a199)])
    refine Goes.go (fun _ kS_ => XS.astore X203.here X203.ex rfl (hb hby at_74) rfl rfl (l' := #[.val (.int i0), .val (.int i1), .val (.int i2), .val (.int i3), .val (.int i4), .val (.int (1 : Int32)), .val (.int d0), .val (.int d1), .val (.int d2), .val (.int d3), .val (.ref a199), .unset, .unset, .unset, .unset]) rfl (XS.goto X203.here X203.ex rfl (pc0 := 76) (pc' := 178) rfl (hb hby at_76) (by decide) (by decide) kS_)) ?_
    show Goes _ _ _ _ T203 (mkF m 178 #[.val (.int i0), .val (.int i1), .val (.int i2), .val (.int i3), .val (.int i4), .val (.int (1 : Int32)), .val (.int d0), .val (.int d1), .val (.int d2), .val (.int d3), .val (.ref a199), .unset, .unset, .unset, .unset] [])
    exact hJ T203 h203 1 (1 : Int32) a199 (X203.free.mark.mono (by decide) (by decide)) rfl (by decide) S_a199
  · show Goes _ _ _ _ T183 (mkF m 35 #[.val (.int i0), .val (.int i1), .val (.int i2), .val (.int i3), .val (.int i4), .val (.int (2 : Int32)), .val (.int d0), .val (.int d1), .val (.int d2), .val (.int d3), .unset, .unset, .unset, .unset, .unset] [(.int (2 : Int32))])
    refine Goes.go (fun _ kS_ => XS.ifYes X183.here X183.ex rfl (pc0 := 35) (pc' := 53) rfl (hb hby at_35) rfl ((if0 _ _).trans (cd_t (cd := .ne) (x := (2 : Int32)) (y := (0 : Int32)) (by decide))) (by decide) (by decide) (XS.iload X183.here X183.ex rfl (hb hby at_53) rfl (XS.iconst X183.here X183.ex rfl (hb hby at_55) (XS.icmpYes X183.here X183.ex rfl (pc0 := 56) (pc' := 79) rfl (hb hby at_56) rfl (cd_t (cd := .ne) (x := (2 : Int32)) (y := (1 : Int32)) (by decide)) (by decide) (by decide) (XS.iload X183.here X183.ex rfl (hb hby at_79) rfl (XS.iconst X183.here X183.ex rfl (hb hby at_81) kS_)))))) ?_
    show Goes _ _ _ _ T183 (mkF m 82 #[.val (.int i0), .val (.int i1), .val (.int i2), .val (.int i3), .val (.int i4), .val (.int (2 : Int32)), .val (.int d0), .val (.int d1), .val (.int d2), .val (.int d3), .unset, .unset, .unset, .unset, .unset] [(.int (2 : Int32)), (.int (2 : Int32))])
    refine Goes.go (fun _ kS_ => XS.icmpNo X183.here X183.ex rfl (hb hby at_82) rfl (cd_f (cd := .ne) (x := (2 : Int32)) (y := (2 : Int32)) (by decide)) kS_) ?_
    show Goes _ _ _ _ T183 (mkF m 85 #[.val (.int i0), .val (.int i1), .val (.int i2), .val (.int i3), .val (.int i4), .val (.int (2 : Int32)), .val (.int d0), .val (.int d1), .val (.int d2), .val (.int d3), .unset, .unset, .unset, .unset, .unset] [])
    have X204 := X183.mark
    refine Wk.new X204 (w_5 hw) (w_6 hw) (w_7 hw) rfl (hb hby at_85) (by decide) (by decide) ?_
    intro T205 h205 a205 g205 X205 E205 A205 D205
    have gz_a205 : Z.heap.size ≤ a205 := g205 ▸ X204.old.1
    have gm_a205 : h183.size ≤ a205 := g205 ▸ X204.ext.1
    have F_a205_value : Fld Z h205 a205 "java/lang/String" "value" "[B" .null := D205 (Or.inr (w_21 hw)) (ty := (.array .byte)) (by decide)
    have F_a205_coder : Fld Z h205 a205 "java/lang/String" "coder" "B" (.int (0 : Int32)) := D205 (Or.inr (w_22 hw)) (ty := .byte) (by decide)
    clear D205
    show Goes _ _ _ _ T205 (mkF m 88 #[.val (.int i0), .val (.int i1), .val (.int i2), .val (.int i3), .val (.int i4), .val (.int (2 : Int32)), .val (.int d0), .val (.int d1), .val (.int d2), .val (.int d3), .unset, .unset, .unset, .unset, .unset] [(.ref a205)])
    refine Goes.go (fun _ kS_ => XS.dup X205.here X205.ex rfl (hb hby at_88) rfl rfl (XS.iconst X205.here X205.ex rfl (hb hby at_89) kS_)) ?_
    show Goes _ _ _ _ T205 (mkF m 90 #[.val (.int i0), .val (.int i1), .val (.int i2), .val (.int i3), .val (.int i4), .val (.int (2 : Int32)), .val (.int d0), .val (.int d1), .val (.int d2), .val (.int d3), .unset, .unset, .unset, .unset, .unset] [(.int (2 : Int32)), (.ref a205), (.ref a205)])
    refine Wk.newA (aty := .char) X205 (w_8 hw) rfl (hb hby at_90) rfl (by decide) (cap := 2) (by decide) (by decide) (by decide) (by decide) ?_
    intro T206 h206 b206 k206 g206 X206 E206 A206 B_b206
    have lt_a205_b206 : a205 < b206 := by rw [g206]; exact A205.lt
    replace A205 := A205.ext E206
    replace F_a205_value := F_a205_value.ext E206
    replace F_a205_coder := F_a205_coder.ext E206
    have V_b206 : Arv Z h206 b206 k206 .char (2 : Int32) [(.int (0 : Int32)), (.int (0 : Int32))] (.int (0 : Int32)) := A206.pad (pad_rep [] (.int (0 : Int32)) 2)
    have gz_b206 : Z.heap.size ≤ b206 := g206 ▸ X205.old.1
    have gm_b206 : h183.size ≤ b206 := g206 ▸ X205.ext.1
    show Goes _ _ _ _ T206 (mkF m 92 #[.val (.int i0), .val (.int i1), .val (.int i2), .val (.int i3), .val (.int i4), .val (.int (2 : Int32)), .val (.int d0), .val (.int d1), .val (.int d2), .val (.int d3), .unset, .unset, .unset, .unset, .unset] [(.ref b206), (.ref a205), (.ref a205)])
    refine Goes.go (fun _ kS_ => XS.dup X206.here X206.ex rfl (hb hby at_92) rfl rfl (XS.iconst X206.here X206.ex rfl (hb hby at_93) (XS.iload X206.here X206.ex rfl (hb hby at_94) rfl kS_))) ?_
    show Goes _ _ _ _ T206 (mkF m 96 #[.val (.int i0), .val (.int i1), .val (.int i2), .val (.int i3), .val (.int i4), .val (.int (2 : Int32)), .val (.int d0), .val (.int d1), .val (.int d2), .val (.int d3), .unset, .unset, .unset, .unset, .unset] [(.int d0), (.int (0 : Int32)), (.ref b206), (.ref b206), (.ref a205), (.ref a205)])
    refine Wk.castore (hm' := fun _ => h183) X206 V_b206 ⟨by decide, by decide⟩ (i := 0) rfl (Nat.le_of_ble_eq_true rfl) gz_b206 (fun _ => Mark.stay (allS gm_b206 all0)) rfl rfl (hb hby at_96) ?_
    intro T207 h207 X207 W207 V207
    replace A205 := A205.wr W207
    replace F_a205_value := F_a205_value.other W207 (Or.inl (Nat.ne_of_lt lt_a205_b206))
    replace F_a205_coder := F_a205_coder.other W207 (Or.inl (Nat.ne_of_lt lt_a205_b206))
    clear V_b206; have V_b206 : Arv Z h207 b206 _ .char (2 : Int32) [(.int (nar .char d0)), (.int (0 : Int32))] (.int (0 : Int32)) := V207
    rw [own_narc b0] at V_b206
    show Goes _ _ _ _ T207 (mkF m 97 #[.val (.int i0), .val (.int i1), .val (.int i2), .val (.int i3), .val (.int i4), .val (.int (2 : Int32)), .val (.int d0), .val (.int d1), .val (.int d2), .val (.int d3), .unset, .unset, .unset, .unset, .unset] [(.ref b206), (.ref a205), (.ref a205)])
    refine Goes.go (fun _ kS_ => XS.dup X207.here X207.ex rfl (hb hby at_97) rfl rfl (XS.iconst X207.here X207.ex rfl (hb hby at_98) (XS.iload X207.here X207.ex rfl (hb hby at_99) rfl kS_))) ?_
    show Goes _ _ _ _ T207 (mkF m 101 #[.val (.int i0), .val (.int i1), .val (.int i2), .val (.int i3), .val (.int i4), .val (.int (2 : Int32)), .val (.int d0), .val (.int d1), .val (.int d2), .val (.int d3), .unset, .unset, .unset, .unset, .unset] [(.int d1), (.int (1 : Int32)), (.ref b206), (.ref b206), (.ref a205), (.ref a205)])
    refine Wk.castore (hm' := fun _ => h183) X207 V_b206 ⟨by decide, by decide⟩ (i := 1) rfl (Nat.le_of_ble_eq_true rfl) gz_b206 (fun _ => Mark.stay (allS gm_b206 all0)) rfl rfl (hb hby at_101) ?_
    intro T208 h208 X208 W208 V208
    replace A205 := A205.wr W208
    replace F_a205_value := F_a205_value.other W208 (Or.inl (Nat.ne_of_lt lt_a205_b206))
    replace F_a205_coder := F_a205_coder.other W208 (Or.inl (Nat.ne_of_lt lt_a205_b206))
    clear V_b206; have V_b206 : Arv Z h208 b206 _ .char (2 : Int32) [(.int d0), (.int (nar .char d1))] (.int (0 : Int32)) := V208
    rw [own_narc b1] at V_b206
    show Goes _ _ _ _ T208 (mkF m 102 #[.val (.int i0), .val (.int i1), .val (.int i2), .val (.int i3), .val (.int i4), .val (.int (2 : Int32)), .val (.int d0), .val (.int d1), .val (.int d2), .val (.int d3), .unset, .unset, .unset, .unset, .unset] [(.ref b206), (.ref a205), (.ref a205)])
    have hp209 : ∀ c ∈ ([d0, d1] : List Int32), ¬ c < 0 ∧ ¬ (255 : Int32) < c := by
        intro c hc
        simp only [List.mem_cons, List.not_mem_nil, or_false] at hc
        rcases hc with rfl | rfl
        · exact b0
        · exact b1
    refine Wk.special (hm' := fun _ => h183) (y := (⟨"java/lang/String", "<init>", "([C)V"⟩ : MethodName)) (W := 1) (kc := 1) (ks := 2) (argsL := [(.ref b206)]) (rest := [(.ref a205)]) (as' := #[(.ref a205), (.ref b206)]) (ws := [a205]) X208 rfl (w_9 hw) (w_10 hw) (w_11 hw) (by decide) (own_newP (own_ws hw) (kI := 4) (w_6 hw) (cs := ([d0, d1] : List Int32)) (n := 2) gz_a205 X208.old A205 F_a205_value F_a205_coder V_b206 O2 P5 rfl rfl (by decide) (by decide) hp209 (by decide) (by decide)) (fun v h' L q => ⟨q.2.1, q.2.2.1⟩) (allS gz_a205 all0) (fun _ => Mark.stay (allS gm_a205 all0)) rfl (by rw [hml]; rfl) (lenOf pd_19 rfl) rfl rfl (by show 2 * 0 + _ ≤ _; exact Nat.le_of_eq rfl) (hb hby at_102) (by decide) (by decide) ?_
    intro T210 h210 v210 L210 X210 q210 K210
    obtain ⟨rfl, -, -, S_a205⟩ := q210
    show Goes _ _ _ _ T210 (mkF m 105 #[.val (.int i0), .val (.int i1), .val (.int i2), .val (.int i3), .val (.int i4), .val (.int (2 : Int32)), .val (.int d0), .val (.int d1), .val (.int d2), .val (.int d3), .unset, .unset, .unset, .unset, .unset] [(.ref a205)])
    refine Goes.go (fun _ kS_ => XS.astore X210.here X210.ex rfl (hb hby at_105) rfl rfl (l' := #[.val (.int i0), .val (.int i1), .val (.int i2), .val (.int i3), .val (.int i4), .val (.int (2 : Int32)), .val (.int d0), .val (.int d1), .val (.int d2), .val (.int d3), .val (.ref a205), .unset, .unset, .unset, .unset]) rfl (XS.goto X210.here X210.ex rfl (pc0 := 107) (pc' := 178) rfl (hb hby at_107) (by decide) (by decide) kS_)) ?_
    show Goes _ _ _ _ T210 (mkF m 178 #[.val (.int i0), .val (.int i1), .val (.int i2), .val (.int i3), .val (.int i4), .val (.int (2 : Int32)), .val (.int d0), .val (.int d1), .val (.int d2), .val (.int d3), .val (.ref a205), .unset, .unset, .unset, .unset] [])
    exact hJ T210 h210 2 (2 : Int32) a205 (X210.free.mark.mono (by decide) (by decide)) rfl (by decide) S_a205
  · show Goes _ _ _ _ T183 (mkF m 35 #[.val (.int i0), .val (.int i1), .val (.int i2), .val (.int i3), .val (.int i4), .val (.int (3 : Int32)), .val (.int d0), .val (.int d1), .val (.int d2), .val (.int d3), .unset, .unset, .unset, .unset, .unset] [(.int (3 : Int32))])
    refine Goes.go (fun _ kS_ => XS.ifYes X183.here X183.ex rfl (pc0 := 35) (pc' := 53) rfl (hb hby at_35) rfl ((if0 _ _).trans (cd_t (cd := .ne) (x := (3 : Int32)) (y := (0 : Int32)) (by decide))) (by decide) (by decide) (XS.iload X183.here X183.ex rfl (hb hby at_53) rfl (XS.iconst X183.here X183.ex rfl (hb hby at_55) (XS.icmpYes X183.here X183.ex rfl (pc0 := 56) (pc' := 79) rfl (hb hby at_56) rfl (cd_t (cd := .ne) (x := (3 : Int32)) (y := (1 : Int32)) (by decide)) (by decide) (by decide) (XS.iload X183.here X183.ex rfl (hb hby at_79) rfl (XS.iconst X183.here X183.ex rfl (hb hby at_81) kS_)))))) ?_
    show Goes _ _ _ _ T183 (mkF m 82 #[.val (.int i0), .val (.int i1), .val (.int i2), .val (.int i3), .val (.int i4), .val (.int (3 : Int32)), .val (.int d0), .val (.int d1), .val (.int d2), .val (.int d3), .unset, .unset, .unset, .unset, .unset] [(.int (2 : Int32)), (.int (3 : Int32))])
    refine Goes.go (fun _ kS_ => XS.icmpYes X183.here X183.ex rfl (pc0 := 82) (pc' := 110) rfl (hb hby at_82) rfl (cd_t (cd := .ne) (x := (3 : Int32)) (y := (2 : Int32)) (by decide)) (by decide) (by decide) (XS.iload X183.here X183.ex rfl (hb hby at_110) rfl (XS.iconst X183.here X183.ex rfl (hb hby at_112) (XS.icmpNo X183.here X183.ex rfl (hb hby at_113) rfl (cd_f (cd := .ne) (x := (3 : Int32)) (y := (3 : Int32)) (by decide)) kS_)))) ?_
    show Goes _ _ _ _ T183 (mkF m 116 #[.val (.int i0), .val (.int i1), .val (.int i2), .val (.int i3), .val (.int i4), .val (.int (3 : Int32)), .val (.int d0), .val (.int d1), .val (.int d2), .val (.int d3), .unset, .unset, .unset, .unset, .unset] [])
    have X211 := X183.mark
    refine Wk.new X211 (w_5 hw) (w_6 hw) (w_7 hw) rfl (hb hby at_116) (by decide) (by decide) ?_
    intro T212 h212 a212 g212 X212 E212 A212 D212
    have gz_a212 : Z.heap.size ≤ a212 := g212 ▸ X211.old.1
    have gm_a212 : h183.size ≤ a212 := g212 ▸ X211.ext.1
    have F_a212_value : Fld Z h212 a212 "java/lang/String" "value" "[B" .null := D212 (Or.inr (w_21 hw)) (ty := (.array .byte)) (by decide)
    have F_a212_coder : Fld Z h212 a212 "java/lang/String" "coder" "B" (.int (0 : Int32)) := D212 (Or.inr (w_22 hw)) (ty := .byte) (by decide)
    clear D212
    show Goes _ _ _ _ T212 (mkF m 119 #[.val (.int i0), .val (.int i1), .val (.int i2), .val (.int i3), .val (.int i4), .val (.int (3 : Int32)), .val (.int d0), .val (.int d1), .val (.int d2), .val (.int d3), .unset, .unset, .unset, .unset, .unset] [(.ref a212)])
    refine Goes.go (fun _ kS_ => XS.dup X212.here X212.ex rfl (hb hby at_119) rfl rfl (XS.iconst X212.here X212.ex rfl (hb hby at_120) kS_)) ?_
    show Goes _ _ _ _ T212 (mkF m 121 #[.val (.int i0), .val (.int i1), .val (.int i2), .val (.int i3), .val (.int i4), .val (.int (3 : Int32)), .val (.int d0), .val (.int d1), .val (.int d2), .val (.int d3), .unset, .unset, .unset, .unset, .unset] [(.int (3 : Int32)), (.ref a212), (.ref a212)])
    refine Wk.newA (aty := .char) X212 (w_8 hw) rfl (hb hby at_121) rfl (by decide) (cap := 3) (by decide) (by decide) (by decide) (by decide) ?_
    intro T213 h213 b213 k213 g213 X213 E213 A213 B_b213
    have lt_a212_b213 : a212 < b213 := by rw [g213]; exact A212.lt
    replace A212 := A212.ext E213
    replace F_a212_value := F_a212_value.ext E213
    replace F_a212_coder := F_a212_coder.ext E213
    have V_b213 : Arv Z h213 b213 k213 .char (3 : Int32) [(.int (0 : Int32)), (.int (0 : Int32)), (.int (0 : Int32))] (.int (0 : Int32)) := A213.pad (pad_rep [] (.int (0 : Int32)) 3)
    have gz_b213 : Z.heap.size ≤ b213 := g213 ▸ X212.old.1
    have gm_b213 : h183.size ≤ b213 := g213 ▸ X212.ext.1
    show Goes _ _ _ _ T213 (mkF m 123 #[.val (.int i0), .val (.int i1), .val (.int i2), .val (.int i3), .val (.int i4), .val (.int (3 : Int32)), .val (.int d0), .val (.int d1), .val (.int d2), .val (.int d3), .unset, .unset, .unset, .unset, .unset] [(.ref b213), (.ref a212), (.ref a212)])
    refine Goes.go (fun _ kS_ => XS.dup X213.here X213.ex rfl (hb hby at_123) rfl rfl (XS.iconst X213.here X213.ex rfl (hb hby at_124) (XS.iload X213.here X213.ex rfl (hb hby at_125) rfl kS_))) ?_
    show Goes _ _ _ _ T213 (mkF m 127 #[.val (.int i0), .val (.int i1), .val (.int i2), .val (.int i3), .val (.int i4), .val (.int (3 : Int32)), .val (.int d0), .val (.int d1), .val (.int d2), .val (.int d3), .unset, .unset, .unset, .unset, .unset] [(.int d0), (.int (0 : Int32)), (.ref b213), (.ref b213), (.ref a212), (.ref a212)])
    refine Wk.castore (hm' := fun _ => h183) X213 V_b213 ⟨by decide, by decide⟩ (i := 0) rfl (Nat.le_of_ble_eq_true rfl) gz_b213 (fun _ => Mark.stay (allS gm_b213 all0)) rfl rfl (hb hby at_127) ?_
    intro T214 h214 X214 W214 V214
    replace A212 := A212.wr W214
    replace F_a212_value := F_a212_value.other W214 (Or.inl (Nat.ne_of_lt lt_a212_b213))
    replace F_a212_coder := F_a212_coder.other W214 (Or.inl (Nat.ne_of_lt lt_a212_b213))
    clear V_b213; have V_b213 : Arv Z h214 b213 _ .char (3 : Int32) [(.int (nar .char d0)), (.int (0 : Int32)), (.int (0 : Int32))] (.int (0 : Int32)) := V214
    rw [own_narc b0] at V_b213
    show Goes _ _ _ _ T214 (mkF m 128 #[.val (.int i0), .val (.int i1), .val (.int i2), .val (.int i3), .val (.int i4), .val (.int (3 : Int32)), .val (.int d0), .val (.int d1), .val (.int d2), .val (.int d3), .unset, .unset, .unset, .unset, .unset] [(.ref b213), (.ref a212), (.ref a212)])
    refine Goes.go (fun _ kS_ => XS.dup X214.here X214.ex rfl (hb hby at_128) rfl rfl (XS.iconst X214.here X214.ex rfl (hb hby at_129) (XS.iload X214.here X214.ex rfl (hb hby at_130) rfl kS_))) ?_
    show Goes _ _ _ _ T214 (mkF m 132 #[.val (.int i0), .val (.int i1), .val (.int i2), .val (.int i3), .val (.int i4), .val (.int (3 : Int32)), .val (.int d0), .val (.int d1), .val (.int d2), .val (.int d3), .unset, .unset, .unset, .unset, .unset] [(.int d1), (.int (1 : Int32)), (.ref b213), (.ref b213), (.ref a212), (.ref a212)])
    refine Wk.castore (hm' := fun _ => h183) X214 V_b213 ⟨by decide, by decide⟩ (i := 1) rfl (Nat.le_of_ble_eq_true rfl) gz_b213 (fun _ => Mark.stay (allS gm_b213 all0)) rfl rfl (hb hby at_132) ?_
    intro T215 h215 X215 W215 V215
    replace A212 := A212.wr W215
    replace F_a212_value := F_a212_value.other W215 (Or.inl (Nat.ne_of_lt lt_a212_b213))
    replace F_a212_coder := F_a212_coder.other W215 (Or.inl (Nat.ne_of_lt lt_a212_b213))
    clear V_b213; have V_b213 : Arv Z h215 b213 _ .char (3 : Int32) [(.int d0), (.int (nar .char d1)), (.int (0 : Int32))] (.int (0 : Int32)) := V215
    rw [own_narc b1] at V_b213
    show Goes _ _ _ _ T215 (mkF m 133 #[.val (.int i0), .val (.int i1), .val (.int i2), .val (.int i3), .val (.int i4), .val (.int (3 : Int32)), .val (.int d0), .val (.int d1), .val (.int d2), .val (.int d3), .unset, .unset, .unset, .unset, .unset] [(.ref b213), (.ref a212), (.ref a212)])
    refine Goes.go (fun _ kS_ => XS.dup X215.here X215.ex rfl (hb hby at_133) rfl rfl (XS.iconst X215.here X215.ex rfl (hb hby at_134) (XS.iload X215.here X215.ex rfl (hb hby at_135) rfl kS_))) ?_
    show Goes _ _ _ _ T215 (mkF m 137 #[.val (.int i0), .val (.int i1), .val (.int i2), .val (.int i3), .val (.int i4), .val (.int (3 : Int32)), .val (.int d0), .val (.int d1), .val (.int d2), .val (.int d3), .unset, .unset, .unset, .unset, .unset] [(.int d2), (.int (2 : Int32)), (.ref b213), (.ref b213), (.ref a212), (.ref a212)])
    refine Wk.castore (hm' := fun _ => h183) X215 V_b213 ⟨by decide, by decide⟩ (i := 2) rfl (Nat.le_of_ble_eq_true rfl) gz_b213 (fun _ => Mark.stay (allS gm_b213 all0)) rfl rfl (hb hby at_137) ?_
    intro T216 h216 X216 W216 V216
    replace A212 := A212.wr W216
    replace F_a212_value := F_a212_value.other W216 (Or.inl (Nat.ne_of_lt lt_a212_b213))
    replace F_a212_coder := F_a212_coder.other W216 (Or.inl (Nat.ne_of_lt lt_a212_b213))
    clear V_b213; have V_b213 : Arv Z h216 b213 _ .char (3 : Int32) [(.int d0), (.int d1), (.int (nar .char d2))] (.int (0 : Int32)) := V216
    rw [own_narc b2] at V_b213
    show Goes _ _ _ _ T216 (mkF m 138 #[.val (.int i0), .val (.int i1), .val (.int i2), .val (.int i3), .val (.int i4), .val (.int (3 : Int32)), .val (.int d0), .val (.int d1), .val (.int d2), .val (.int d3), .unset, .unset, .unset, .unset, .unset] [(.ref b213), (.ref a212), (.ref a212)])
    have hp217 : ∀ c ∈ ([d0, d1, d2] : List Int32), ¬ c < 0 ∧ ¬ (255 : Int32) < c := by
        intro c hc
        simp only [List.mem_cons, List.not_mem_nil, or_false] at hc
        rcases hc with rfl | rfl | rfl
        · exact b0
        · exact b1
        · exact b2
    refine Wk.special (hm' := fun _ => h183) (y := (⟨"java/lang/String", "<init>", "([C)V"⟩ : MethodName)) (W := 1) (kc := 1) (ks := 3) (argsL := [(.ref b213)]) (rest := [(.ref a212)]) (as' := #[(.ref a212), (.ref b213)]) (ws := [a212]) X216 rfl (w_9 hw) (w_10 hw) (w_11 hw) (by decide) (own_newP (own_ws hw) (kI := 4) (w_6 hw) (cs := ([d0, d1, d2] : List Int32)) (n := 3) gz_a212 X216.old A212 F_a212_value F_a212_coder V_b213 O2 P5 rfl rfl (by decide) (by decide) hp217 (by decide) (by decide)) (fun v h' L q => ⟨q.2.1, q.2.2.1⟩) (allS gz_a212 all0) (fun _ => Mark.stay (allS gm_a212 all0)) rfl (by rw [hml]; rfl) (lenOf pd_19 rfl) rfl rfl (by show 2 * 0 + _ ≤ _; exact Nat.le_of_eq rfl) (hb hby at_138) (by decide) (by decide) ?_
    intro T218 h218 v218 L218 X218 q218 K218
    obtain ⟨rfl, -, -, S_a212⟩ := q218
    show Goes _ _ _ _ T218 (mkF m 141 #[.val (.int i0), .val (.int i1), .val (.int i2), .val (.int i3), .val (.int i4), .val (.int (3 : Int32)), .val (.int d0), .val (.int d1), .val (.int d2), .val (.int d3), .unset, .unset, .unset, .unset, .unset] [(.ref a212)])
    refine Goes.go (fun _ kS_ => XS.astore X218.here X218.ex rfl (hb hby at_141) rfl rfl (l' := #[.val (.int i0), .val (.int i1), .val (.int i2), .val (.int i3), .val (.int i4), .val (.int (3 : Int32)), .val (.int d0), .val (.int d1), .val (.int d2), .val (.int d3), .val (.ref a212), .unset, .unset, .unset, .unset]) rfl (XS.goto X218.here X218.ex rfl (pc0 := 143) (pc' := 178) rfl (hb hby at_143) (by decide) (by decide) kS_)) ?_
    show Goes _ _ _ _ T218 (mkF m 178 #[.val (.int i0), .val (.int i1), .val (.int i2), .val (.int i3), .val (.int i4), .val (.int (3 : Int32)), .val (.int d0), .val (.int d1), .val (.int d2), .val (.int d3), .val (.ref a212), .unset, .unset, .unset, .unset] [])
    exact hJ T218 h218 3 (3 : Int32) a212 (X218.free.mark.mono (by decide) (by decide)) rfl (by decide) S_a212
  · show Goes _ _ _ _ T183 (mkF m 35 #[.val (.int i0), .val (.int i1), .val (.int i2), .val (.int i3), .val (.int i4), .val (.int (4 : Int32)), .val (.int d0), .val (.int d1), .val (.int d2), .val (.int d3), .unset, .unset, .unset, .unset, .unset] [(.int (4 : Int32))])
    refine Goes.go (fun _ kS_ => XS.ifYes X183.here X183.ex rfl (pc0 := 35) (pc' := 53) rfl (hb hby at_35) rfl ((if0 _ _).trans (cd_t (cd := .ne) (x := (4 : Int32)) (y := (0 : Int32)) (by decide))) (by decide) (by decide) (XS.iload X183.here X183.ex rfl (hb hby at_53) rfl (XS.iconst X183.here X183.ex rfl (hb hby at_55) (XS.icmpYes X183.here X183.ex rfl (pc0 := 56) (pc' := 79) rfl (hb hby at_56) rfl (cd_t (cd := .ne) (x := (4 : Int32)) (y := (1 : Int32)) (by decide)) (by decide) (by decide) (XS.iload X183.here X183.ex rfl (hb hby at_79) rfl (XS.iconst X183.here X183.ex rfl (hb hby at_81) kS_)))))) ?_
    show Goes _ _ _ _ T183 (mkF m 82 #[.val (.int i0), .val (.int i1), .val (.int i2), .val (.int i3), .val (.int i4), .val (.int (4 : Int32)), .val (.int d0), .val (.int d1), .val (.int d2), .val (.int d3), .unset, .unset, .unset, .unset, .unset] [(.int (2 : Int32)), (.int (4 : Int32))])
    refine Goes.go (fun _ kS_ => XS.icmpYes X183.here X183.ex rfl (pc0 := 82) (pc' := 110) rfl (hb hby at_82) rfl (cd_t (cd := .ne) (x := (4 : Int32)) (y := (2 : Int32)) (by decide)) (by decide) (by decide) (XS.iload X183.here X183.ex rfl (hb hby at_110) rfl (XS.iconst X183.here X183.ex rfl (hb hby at_112) (XS.icmpYes X183.here X183.ex rfl (pc0 := 113) (pc' := 146) rfl (hb hby at_113) rfl (cd_t (cd := .ne) (x := (4 : Int32)) (y := (3 : Int32)) (by decide)) (by decide) (by decide) kS_)))) ?_
    show Goes _ _ _ _ T183 (mkF m 146 #[.val (.int i0), .val (.int i1), .val (.int i2), .val (.int i3), .val (.int i4), .val (.int (4 : Int32)), .val (.int d0), .val (.int d1), .val (.int d2), .val (.int d3), .unset, .unset, .unset, .unset, .unset] [])
    have X219 := X183.mark
    refine Wk.new X219 (w_5 hw) (w_6 hw) (w_7 hw) rfl (hb hby at_146) (by decide) (by decide) ?_
    intro T220 h220 a220 g220 X220 E220 A220 D220
    have gz_a220 : Z.heap.size ≤ a220 := g220 ▸ X219.old.1
    have gm_a220 : h183.size ≤ a220 := g220 ▸ X219.ext.1
    have F_a220_value : Fld Z h220 a220 "java/lang/String" "value" "[B" .null := D220 (Or.inr (w_21 hw)) (ty := (.array .byte)) (by decide)
    have F_a220_coder : Fld Z h220 a220 "java/lang/String" "coder" "B" (.int (0 : Int32)) := D220 (Or.inr (w_22 hw)) (ty := .byte) (by decide)
    clear D220
    show Goes _ _ _ _ T220 (mkF m 149 #[.val (.int i0), .val (.int i1), .val (.int i2), .val (.int i3), .val (.int i4), .val (.int (4 : Int32)), .val (.int d0), .val (.int d1), .val (.int d2), .val (.int d3), .unset, .unset, .unset, .unset, .unset] [(.ref a220)])
    refine Goes.go (fun _ kS_ => XS.dup X220.here X220.ex rfl (hb hby at_149) rfl rfl (XS.iconst X220.here X220.ex rfl (hb hby at_150) kS_)) ?_
    show Goes _ _ _ _ T220 (mkF m 151 #[.val (.int i0), .val (.int i1), .val (.int i2), .val (.int i3), .val (.int i4), .val (.int (4 : Int32)), .val (.int d0), .val (.int d1), .val (.int d2), .val (.int d3), .unset, .unset, .unset, .unset, .unset] [(.int (4 : Int32)), (.ref a220), (.ref a220)])
    refine Wk.newA (aty := .char) X220 (w_8 hw) rfl (hb hby at_151) rfl (by decide) (cap := 4) (by decide) (by decide) (by decide) (by decide) ?_
    intro T221 h221 b221 k221 g221 X221 E221 A221 B_b221
    have lt_a220_b221 : a220 < b221 := by rw [g221]; exact A220.lt
    replace A220 := A220.ext E221
    replace F_a220_value := F_a220_value.ext E221
    replace F_a220_coder := F_a220_coder.ext E221
    have V_b221 : Arv Z h221 b221 k221 .char (4 : Int32) [(.int (0 : Int32)), (.int (0 : Int32)), (.int (0 : Int32)), (.int (0 : Int32))] (.int (0 : Int32)) := A221.pad (pad_rep [] (.int (0 : Int32)) 4)
    have gz_b221 : Z.heap.size ≤ b221 := g221 ▸ X220.old.1
    have gm_b221 : h183.size ≤ b221 := g221 ▸ X220.ext.1
    show Goes _ _ _ _ T221 (mkF m 153 #[.val (.int i0), .val (.int i1), .val (.int i2), .val (.int i3), .val (.int i4), .val (.int (4 : Int32)), .val (.int d0), .val (.int d1), .val (.int d2), .val (.int d3), .unset, .unset, .unset, .unset, .unset] [(.ref b221), (.ref a220), (.ref a220)])
    refine Goes.go (fun _ kS_ => XS.dup X221.here X221.ex rfl (hb hby at_153) rfl rfl (XS.iconst X221.here X221.ex rfl (hb hby at_154) (XS.iload X221.here X221.ex rfl (hb hby at_155) rfl kS_))) ?_
    show Goes _ _ _ _ T221 (mkF m 157 #[.val (.int i0), .val (.int i1), .val (.int i2), .val (.int i3), .val (.int i4), .val (.int (4 : Int32)), .val (.int d0), .val (.int d1), .val (.int d2), .val (.int d3), .unset, .unset, .unset, .unset, .unset] [(.int d0), (.int (0 : Int32)), (.ref b221), (.ref b221), (.ref a220), (.ref a220)])
    refine Wk.castore (hm' := fun _ => h183) X221 V_b221 ⟨by decide, by decide⟩ (i := 0) rfl (Nat.le_of_ble_eq_true rfl) gz_b221 (fun _ => Mark.stay (allS gm_b221 all0)) rfl rfl (hb hby at_157) ?_
    intro T222 h222 X222 W222 V222
    replace A220 := A220.wr W222
    replace F_a220_value := F_a220_value.other W222 (Or.inl (Nat.ne_of_lt lt_a220_b221))
    replace F_a220_coder := F_a220_coder.other W222 (Or.inl (Nat.ne_of_lt lt_a220_b221))
    clear V_b221; have V_b221 : Arv Z h222 b221 _ .char (4 : Int32) [(.int (nar .char d0)), (.int (0 : Int32)), (.int (0 : Int32)), (.int (0 : Int32))] (.int (0 : Int32)) := V222
    rw [own_narc b0] at V_b221
    show Goes _ _ _ _ T222 (mkF m 158 #[.val (.int i0), .val (.int i1), .val (.int i2), .val (.int i3), .val (.int i4), .val (.int (4 : Int32)), .val (.int d0), .val (.int d1), .val (.int d2), .val (.int d3), .unset, .unset, .unset, .unset, .unset] [(.ref b221), (.ref a220), (.ref a220)])
    refine Goes.go (fun _ kS_ => XS.dup X222.here X222.ex rfl (hb hby at_158) rfl rfl (XS.iconst X222.here X222.ex rfl (hb hby at_159) (XS.iload X222.here X222.ex rfl (hb hby at_160) rfl kS_))) ?_
    show Goes _ _ _ _ T222 (mkF m 162 #[.val (.int i0), .val (.int i1), .val (.int i2), .val (.int i3), .val (.int i4), .val (.int (4 : Int32)), .val (.int d0), .val (.int d1), .val (.int d2), .val (.int d3), .unset, .unset, .unset, .unset, .unset] [(.int d1), (.int (1 : Int32)), (.ref b221), (.ref b221), (.ref a220), (.ref a220)])
    refine Wk.castore (hm' := fun _ => h183) X222 V_b221 ⟨by decide, by decide⟩ (i := 1) rfl (Nat.le_of_ble_eq_true rfl) gz_b221 (fun _ => Mark.stay (allS gm_b221 all0)) rfl rfl (hb hby at_162) ?_
    intro T223 h223 X223 W223 V223
    replace A220 := A220.wr W223
    replace F_a220_value := F_a220_value.other W223 (Or.inl (Nat.ne_of_lt lt_a220_b221))
    replace F_a220_coder := F_a220_coder.other W223 (Or.inl (Nat.ne_of_lt lt_a220_b221))
    clear V_b221; have V_b221 : Arv Z h223 b221 _ .char (4 : Int32) [(.int d0), (.int (nar .char d1)), (.int (0 : Int32)), (.int (0 : Int32))] (.int (0 : Int32)) := V223
    rw [own_narc b1] at V_b221
    show Goes _ _ _ _ T223 (mkF m 163 #[.val (.int i0), .val (.int i1), .val (.int i2), .val (.int i3), .val (.int i4), .val (.int (4 : Int32)), .val (.int d0), .val (.int d1), .val (.int d2), .val (.int d3), .unset, .unset, .unset, .unset, .unset] [(.ref b221), (.ref a220), (.ref a220)])
    refine Goes.go (fun _ kS_ => XS.dup X223.here X223.ex rfl (hb hby at_163) rfl rfl (XS.iconst X223.here X223.ex rfl (hb hby at_164) (XS.iload X223.here X223.ex rfl (hb hby at_165) rfl kS_))) ?_
    show Goes _ _ _ _ T223 (mkF m 167 #[.val (.int i0), .val (.int i1), .val (.int i2), .val (.int i3), .val (.int i4), .val (.int (4 : Int32)), .val (.int d0), .val (.int d1), .val (.int d2), .val (.int d3), .unset, .unset, .unset, .unset, .unset] [(.int d2), (.int (2 : Int32)), (.ref b221), (.ref b221), (.ref a220), (.ref a220)])
    refine Wk.castore (hm' := fun _ => h183) X223 V_b221 ⟨by decide, by decide⟩ (i := 2) rfl (Nat.le_of_ble_eq_true rfl) gz_b221 (fun _ => Mark.stay (allS gm_b221 all0)) rfl rfl (hb hby at_167) ?_
    intro T224 h224 X224 W224 V224
    replace A220 := A220.wr W224
    replace F_a220_value := F_a220_value.other W224 (Or.inl (Nat.ne_of_lt lt_a220_b221))
    replace F_a220_coder := F_a220_coder.other W224 (Or.inl (Nat.ne_of_lt lt_a220_b221))
    clear V_b221; have V_b221 : Arv Z h224 b221 _ .char (4 : Int32) [(.int d0), (.int d1), (.int (nar .char d2)), (.int (0 : Int32))] (.int (0 : Int32)) := V224
    rw [own_narc b2] at V_b221
    show Goes _ _ _ _ T224 (mkF m 168 #[.val (.int i0), .val (.int i1), .val (.int i2), .val (.int i3), .val (.int i4), .val (.int (4 : Int32)), .val (.int d0), .val (.int d1), .val (.int d2), .val (.int d3), .unset, .unset, .unset, .unset, .unset] [(.ref b221), (.ref a220), (.ref a220)])
    refine Goes.go (fun _ kS_ => XS.dup X224.here X224.ex rfl (hb hby at_168) rfl rfl (XS.iconst X224.here X224.ex rfl (hb hby at_169) (XS.iload X224.here X224.ex rfl (hb hby at_170) rfl kS_))) ?_
    show Goes _ _ _ _ T224 (mkF m 172 #[.val (.int i0), .val (.int i1), .val (.int i2), .val (.int i3), .val (.int i4), .val (.int (4 : Int32)), .val (.int d0), .val (.int d1), .val (.int d2), .val (.int d3), .unset, .unset, .unset, .unset, .unset] [(.int d3), (.int (3 : Int32)), (.ref b221), (.ref b221), (.ref a220), (.ref a220)])
    refine Wk.castore (hm' := fun _ => h183) X224 V_b221 ⟨by decide, by decide⟩ (i := 3) rfl (Nat.le_of_ble_eq_true rfl) gz_b221 (fun _ => Mark.stay (allS gm_b221 all0)) rfl rfl (hb hby at_172) ?_
    intro T225 h225 X225 W225 V225
    replace A220 := A220.wr W225
    replace F_a220_value := F_a220_value.other W225 (Or.inl (Nat.ne_of_lt lt_a220_b221))
    replace F_a220_coder := F_a220_coder.other W225 (Or.inl (Nat.ne_of_lt lt_a220_b221))
    clear V_b221; have V_b221 : Arv Z h225 b221 _ .char (4 : Int32) [(.int d0), (.int d1), (.int d2), (.int (nar .char d3))] (.int (0 : Int32)) := V225
    rw [own_narc b3] at V_b221
    show Goes _ _ _ _ T225 (mkF m 173 #[.val (.int i0), .val (.int i1), .val (.int i2), .val (.int i3), .val (.int i4), .val (.int (4 : Int32)), .val (.int d0), .val (.int d1), .val (.int d2), .val (.int d3), .unset, .unset, .unset, .unset, .unset] [(.ref b221), (.ref a220), (.ref a220)])
    have hp226 : ∀ c ∈ ([d0, d1, d2, d3] : List Int32), ¬ c < 0 ∧ ¬ (255 : Int32) < c := by
        intro c hc
        simp only [List.mem_cons, List.not_mem_nil, or_false] at hc
        rcases hc with rfl | rfl | rfl | rfl
        · exact b0
        · exact b1
        · exact b2
        · exact b3
    refine Wk.special (hm' := fun _ => h183) (y := (⟨"java/lang/String", "<init>", "([C)V"⟩ : MethodName)) (W := 1) (kc := 1) (ks := 4) (argsL := [(.ref b221)]) (rest := [(.ref a220)]) (as' := #[(.ref a220), (.ref b221)]) (ws := [a220]) X225 rfl (w_9 hw) (w_10 hw) (w_11 hw) (by decide) (own_newP (own_ws hw) (kI := 4) (w_6 hw) (cs := ([d0, d1, d2, d3] : List Int32)) (n := 4) gz_a220 X225.old A220 F_a220_value F_a220_coder V_b221 O2 P5 rfl rfl (by decide) (by decide) hp226 (by decide) (by decide)) (fun v h' L q => ⟨q.2.1, q.2.2.1⟩) (allS gz_a220 all0) (fun _ => Mark.stay (allS gm_a220 all0)) rfl (by rw [hml]; rfl) (lenOf pd_19 rfl) rfl rfl (by show 2 * 0 + _ ≤ _; exact Nat.le_of_eq rfl) (hb hby at_173) (by decide) (by decide) ?_
    intro T227 h227 v227 L227 X227 q227 K227
    obtain ⟨rfl, -, -, S_a220⟩ := q227
    show Goes _ _ _ _ T227 (mkF m 176 #[.val (.int i0), .val (.int i1), .val (.int i2), .val (.int i3), .val (.int i4), .val (.int (4 : Int32)), .val (.int d0), .val (.int d1), .val (.int d2), .val (.int d3), .unset, .unset, .unset, .unset, .unset] [(.ref a220)])
    refine Goes.go (fun _ kS_ => XS.astore X227.here X227.ex rfl (hb hby at_176) rfl rfl (l' := #[.val (.int i0), .val (.int i1), .val (.int i2), .val (.int i3), .val (.int i4), .val (.int (4 : Int32)), .val (.int d0), .val (.int d1), .val (.int d2), .val (.int d3), .val (.ref a220), .unset, .unset, .unset, .unset]) rfl kS_) ?_
    show Goes _ _ _ _ T227 (mkF m 178 #[.val (.int i0), .val (.int i1), .val (.int i2), .val (.int i3), .val (.int i4), .val (.int (4 : Int32)), .val (.int d0), .val (.int d1), .val (.int d2), .val (.int d3), .val (.ref a220), .unset, .unset, .unset, .unset] [])
    exact hJ T227 h227 4 (4 : Int32) a220 (X227.free.mark.mono (by decide) (by decide)) rfl (by decide) S_a220
set_option maxRecDepth 65536 in
set_option maxHeartbeats 40000000 in
theorem comes_1 {Post : Tables → Env → Array Value → State → Outcome → State → Prop} (hpost : ∀ tb e args s v u, (limb_1_1.after args s (.returned v) u = true ∧ limb_1_2.after args s (.returned v) u = true ∧ True) → FramedW s (.returned v) u (Jvm.fieldLocs frame_1_writes args s ++ Jvm.arrayLocs frame_1_arrays args s ++ Jvm.staticLocs frame_1_statics s) 24 3200 → Post tb e args s (.returned v) u) :
    ArmFor flags0 classFile x code maxLocals ret World_1 tables_1 room_1 Calls_1 rest_1 Pre_1 Post := by
  intro l hfl _ _ p e ha hc hk s m args below hf hA hF happ hP
  obtain ⟨hcalls, hrest, hpre⟩ := hP
  obtain ⟨-, -, -, hnamed, -, -, -, hat⟩ := (Spec.applies_iff hf).mp happ
  obtain ⟨hg, hn⟩ := and_e (Cond.before_iff.mp (show (Jvm.Cond.and given_1 narrow_1).before args s = true from hpre))
  obtain ⟨h1, r0⟩ := and_e hg
  obtain ⟨w0, w1, w2, w3, w4, rfl⟩ : ∃ w0 w1 w2 w3 w4 : Value, args = #[w0, w1, w2, w3, w4] := by
    have hs : args.size = 5 := by simpa [Cond.value, given_1] using h1
    obtain ⟨L⟩ := args
    match L, hs with
    | [w0, w1, w2, w3, w4], _ => exact ⟨w0, w1, w2, w3, w4, rfl⟩
  have hw := fun d (hd : d ∈ tables_1) => atoms_spec (ws := Jvm.Cond.code x code maxLocals ret :: tables_1) hat d (List.mem_cons_of_mem _ hd)
  obtain ⟨hsets, hown0⟩ := atoms_of _ (rest_1_c_eq ▸ (show rest_1_c.before _ s = true from hrest))
  have hfit : Fit s := fun {y c} hc i hi => by
    obtain ⟨ha, rfl⟩ := Array.getElem?_eq_some_iff.mp hc
    have q := List.all_eq_true.mp ((Array.all_eq_true_iff_forall_mem.mp hF) _ (Array.getElem_mem ha)) i (List.mem_range.mpr hi)
    simpa [Array.getElem?_eq_getElem hi] using q
  obtain ⟨q0, r1⟩ := and_e r0
  obtain ⟨i0, e0⟩ := is_v q0
  obtain rfl : w0 = (.int i0) := Option.some.inj e0
  obtain ⟨q1, r2⟩ := and_e r1
  obtain ⟨i1, e1⟩ := is_v q1
  obtain rfl : w1 = (.int i1) := Option.some.inj e1
  obtain ⟨q2, r3⟩ := and_e r2
  obtain ⟨i2, e2⟩ := is_v q2
  obtain rfl : w2 = (.int i2) := Option.some.inj e2
  obtain ⟨q3, r4⟩ := and_e r3
  obtain ⟨i3, e3⟩ := is_v q3
  obtain rfl : w3 = (.int i3) := Option.some.inj e3
  obtain ⟨i4, e4⟩ := is_v r4
  obtain rfl : w4 = (.int i4) := Option.some.inj e4
  have n3 := not_v (Cond.before_iff.mp (hsets _ (List.mem_of_getElem? (i := 2) rfl)))
  obtain ⟨G1, eG1⟩ := is_v (Cond.before_iff.mp (hsets _ (List.mem_of_getElem? (i := 1) rfl)))
  have O2 : Sta s s.heap "java/lang/String" "COMPACT_STRINGS" "Z" (.int G1) := Sta.start eG1 (Or.inl (hsets _ (List.mem_of_getElem? (i := 0) rfl)))
  have P5 : ¬ (G1 = (0 : Int32)) := gotF (Cond.eq_ints eG1 (Term.int_eval (0))) n3
  obtain ⟨G3, eG3, rG3⟩ := isR_v (Cond.before_iff.mp (hsets _ (List.mem_of_getElem? (i := 8) rfl)))
  have O4 : Sta s s.heap "jdk/internal/util/Preconditions" "SIOOBE_FORMATTER" "Ljava/util/function/BiFunction;" G3 := Sta.start eG3 (Or.inl (hsets _ (List.mem_of_getElem? (i := 7) rfl)))
  have hEL : EW s #[(.int i0), (.int i1), (.int i2), (.int i3), (.int i4)] consts_1 := EW.cons (w_71 hw) (by decide) (EW.cons (w_19 hw) (by decide) (EW.cons (w_108 hw) (by decide) EW.nil))
  have hCH : CHv s consts_1 s.vm s.heap := CHv.start hEL hcalls.1 (hsets _ (List.mem_of_getElem? (i := 2) rfl)) (own_wS hw _ (by simp [Bundle.stringAtoms])) (own_wS hw _ (by simp [Bundle.stringAtoms, Bundle.sN]))
  obtain ⟨n, o, h1, h2, h3, _, L, rfl, ⟨rfl, N⟩, -, hq⟩ := own_law l s _ hw hEL s.heap (Ext.oRefl _) i0 i1 i2 i3 i4 G1 G3 O2 P5 O4 rG3 tables_1 p e ha hc hk s m _ below hf ((Spec.applies_iff_loose hf).mp happ).1 ⟨rfl, State.Warmed39.refl s, rfl, hCH⟩ trivial
  exact ⟨n, _, h1, h2, h3, hpost _ _ _ _ _ _ ⟨Cond.after_iff.mpr rfl, Cond.after_iff.mpr (eq_i res_at (Term.int_eval (1)) rfl), trivial⟩ ⟨hq.1, hq.2.1, hq.2.2.1, (hq.2.2.2.sift fun y hy => Or.inr (N y hy)).mono (by decide) (by decide)⟩⟩
theorem main_1_1 : Claimed_1_1 := comes_1 fun _ _ _ _ _ _ h hF => ⟨h.1, hF⟩
theorem main_1_2 : Claimed_1_2 := comes_1 fun _ _ _ _ _ _ h hF => ⟨h.2.1, hF⟩
end Jvm.Pilot.@@N@@
namespace Jvm.Pilot.@@N@@
open Jvm Jvm.ClassFile Sem Op Lib Jvm.Free Jvm.Stand Jvm.Pilot.@@N@@.Jvm.D
/-! MADE BY PROGRAM (witnessworld.py) out of the Statement's table words and the real class files: 23 classes; the members and pool entries that the words name. The judged class is class 1, her method 3. -/
namespace start1
open Jvm.ClassFile
def u (s : String) : CpInfo := .utf8 (stringToUtf16 s)
/-- a pool by its gaps: so many unusable entries, then the entry; so many at the end -/
def gap : Nat → List CpInfo → List CpInfo
  | 0, r => r
  | n + 1, r => .unusable :: gap n r
def poolList (es : List (Nat × CpInfo)) (last : Nat) : List CpInfo := es.foldr (fun e r => gap e.1 (e.2 :: r)) (gap last [])
def pool (es : List (Nat × CpInfo)) (last : Nat) : Array CpInfo := ⟨poolList es last⟩
def fileOf (pool : Array CpInfo) (this : Nat) (attrs : Array Attribute := #[]) (ms : Array MethodInfo := #[]) (fl : Nat := 33) (sup : Nat := 0) (ifs : Array Nat := #[]) (fds : Array FieldInfo := #[]) : ClassFile where
  minorVersion := 0
  majorVersion := 65
  constantPool := pool
  accessFlags := fl
  thisClass := this
  superClass := sup
  interfaces := ifs
  fields := fds
  methods := ms
  attributes := attrs
def plain (name : String) (sup : Option ClassId) : Class where
  name := name
  kind := .ordinary
  loader := none
  accessFlags := 33
  super := sup
  interfaces := #[]
  cf := none
  fields := #[]
  methods := #[]
  instanceTypes := #[]
  staticTypes := #[]
  resolved := #[]
  callSites := []
  init := .initialized
  statics := none
  mirror := none

def pool0 : Array CpInfo := pool [(5, u "<init>"), (0, u "()V"), (1, .class_ 10), (1, u "java/lang/Object")] 113

def k0c0 : Code := { maxStack := 0, maxLocals := 1, code := object_method_1_code, exceptionTable := #[], attributes := #[] }
def k0m0 : Method := { name := "<init>", desc := "()V", sig := { parameters := [], returnType := none }, accessFlags := 1, code := some k0c0 }
/-- java/lang/Object -/
def k0 : Class := { plain "java/lang/Object" none with
  accessFlags := 33
  interfaces := #[]
  cf := some (fileOf pool0 8 #[] #[{ accessFlags := 1, nameIndex := 5, descriptorIndex := 6, attributes := #[] }] 33 0 #[] #[])
  fields := #[]
  methods := #[k0m0]
  instanceTypes := #[]
  staticTypes := #[]
  resolved := Array.replicate 124 none
  statics := none }

def pool1 : Array CpInfo := pool [(2, .class_ 4), (1, u "java/lang/Object"), (0, u "<init>"), (0, u "()V"), (0, .integer 2147483647), (0, .methodref 9 10), (0, .class_ 11), (0, .nameAndType 12 13), (0, u "com/example/matchmaker/matchmaker/registry/ServiceIdExtensionOfPinLaw"), (0, u "ch"), (0, u "(I)C"), (0, .class_ 15), (0, u "java/lang/String"), (0, .methodref 14 17), (0, .nameAndType 5 18), (0, u "([C)V"), (0, .methodref 20 21), (0, .class_ 22), (0, .nameAndType 23 24), (0, u "com/example/matchmaker/matchmaker/registry/ServiceId"), (0, u "extensionOf"), (0, u "(Ljava/lang/String;)Ljava/lang/String;"), (0, .methodref 14 26), (0, .nameAndType 27 28), (0, u "isEmpty"), (0, u "()Z"), (0, .methodref 14 30), (0, .nameAndType 31 32), (0, u "length"), (0, u "()I"), (0, .methodref 14 34), (0, .nameAndType 35 13), (0, u "charAt"), (0, .methodref 9 37), (0, .nameAndType 38 39), (0, u "pick"), (0, u "(ICCCC)C"), (3, u "law"), (0, u "(IIIII)Z")] 2

def k1m0 : Method := { name := "<init>", desc := "()V", sig := { parameters := [], returnType := none }, accessFlags := 1, code := none }
def k1c1 : Code := { maxStack := 2, maxLocals := 2, code := method_2_code, exceptionTable := #[], attributes := #[] }
def k1m1 : Method := { name := "ch", desc := "(I)C", sig := { parameters := [.int], returnType := some .char }, accessFlags := 10, code := some k1c1 }
def k1c2 : Code := { maxStack := 2, maxLocals := 5, code := method_3_code, exceptionTable := #[], attributes := #[] }
def k1m2 : Method := { name := "pick", desc := "(ICCCC)C", sig := { parameters := [.int, .char, .char, .char, .char], returnType := some .char }, accessFlags := 10, code := some k1c2 }
def k1c3 : Code := { maxStack := 6, maxLocals := 15, code := code, exceptionTable := #[], attributes := #[] }
def k1m3 : Method := { name := "law", desc := "(IIIII)Z", sig := { parameters := [.int, .int, .int, .int, .int], returnType := some .boolean }, accessFlags := 9, code := some k1c3 }
/-- com/example/matchmaker/matchmaker/registry/ServiceIdExtensionOfPinLaw -/
def k1 : Class := { plain "com/example/matchmaker/matchmaker/registry/ServiceIdExtensionOfPinLaw" (some 0) with
  accessFlags := 49
  interfaces := #[]
  cf := some (fileOf pool1 9 #[] #[{ accessFlags := 1, nameIndex := 5, descriptorIndex := 6, attributes := #[] }, { accessFlags := 10, nameIndex := 12, descriptorIndex := 13, attributes := #[] }, { accessFlags := 10, nameIndex := 38, descriptorIndex := 39, attributes := #[] }, { accessFlags := 9, nameIndex := 43, descriptorIndex := 44, attributes := #[] }] 49 2 #[] #[])
  fields := #[]
  methods := #[k1m0, k1m1, k1m2, k1m3]
  instanceTypes := #[]
  staticTypes := #[]
  resolved := Array.replicate 47 none
  statics := none }

def pool2 : Array CpInfo := pool [(1, .class_ 2), (0, u "java/io/Serializable"), (0, .class_ 4), (0, u "java/lang/Object")] 2

/-- java/io/Serializable -/
def k2 : Class := { plain "java/io/Serializable" (some 0) with
  accessFlags := 1537
  interfaces := #[]
  cf := some (fileOf pool2 1 #[] #[] 1537 3 #[] #[])
  fields := #[]
  methods := #[]
  instanceTypes := #[]
  staticTypes := #[]
  resolved := Array.replicate 7 none
  statics := none }

def pool3 : Array CpInfo := pool [(1, .class_ 2), (0, u "java/lang/Comparable"), (0, .class_ 4), (0, u "java/lang/Object")] 7

/-- java/lang/Comparable -/
def k3 : Class := { plain "java/lang/Comparable" (some 0) with
  accessFlags := 1537
  interfaces := #[]
  cf := some (fileOf pool3 1 #[] #[] 1537 3 #[] #[])
  fields := #[]
  methods := #[]
  instanceTypes := #[]
  staticTypes := #[]
  resolved := Array.replicate 12 none
  statics := none }

def pool4 : Array CpInfo := pool [(2, .class_ 4), (1, u "java/lang/CharSequence"), (42, .class_ 48), (0, u "java/lang/CharSequence$1CodePointIterator"), (10, .class_ 60), (0, u "java/lang/CharSequence$1CharIterator"), (5, .class_ 67), (0, u "java/lang/Object")] 63

/-- java/lang/CharSequence -/
def k4 : Class := { plain "java/lang/CharSequence" (some 0) with
  accessFlags := 1537
  interfaces := #[]
  cf := some (fileOf pool4 2 #[.nestMembers #[47, 59]] #[] 1537 66 #[] #[])
  fields := #[]
  methods := #[]
  instanceTypes := #[]
  staticTypes := #[]
  resolved := Array.replicate 131 none
  statics := none }

def pool5 : Array CpInfo := pool [(1, .class_ 2), (0, u "java/lang/constant/Constable"), (0, .class_ 4), (0, u "java/lang/Object")] 6

/-- java/lang/constant/Constable -/
def k5 : Class := { plain "java/lang/constant/Constable" (some 0) with
  accessFlags := 1537
  interfaces := #[]
  cf := some (fileOf pool5 1 #[] #[] 1537 3 #[] #[])
  fields := #[]
  methods := #[]
  instanceTypes := #[]
  staticTypes := #[]
  resolved := Array.replicate 11 none
  statics := none }

def pool6 : Array CpInfo := pool [(1, .class_ 2), (0, u "java/lang/constant/ConstantDesc"), (0, .class_ 4), (0, u "java/lang/Object")] 32

/-- java/lang/constant/ConstantDesc -/
def k6 : Class := { plain "java/lang/constant/ConstantDesc" (some 0) with
  accessFlags := 1537
  interfaces := #[]
  cf := some (fileOf pool6 1 #[] #[] 1537 3 #[] #[])
  fields := #[]
  methods := #[]
  instanceTypes := #[]
  staticTypes := #[]
  resolved := Array.replicate 37 none
  statics := none }

def pool7 : Array CpInfo := pool [(1, .methodref 2 3), (0, .class_ 4), (0, .nameAndType 5 6), (0, u "java/lang/Object"), (0, u "<init>"), (0, u "()V"), (0, .string 8), (0, u ""), (0, .fieldref 10 11), (0, .class_ 12), (0, .nameAndType 13 14), (0, u "java/lang/String"), (0, u "value"), (0, u "[B"), (0, .fieldref 10 16), (0, .nameAndType 17 18), (0, u "coder"), (0, u "B"), (2, u "hash"), (0, u "I"), (2, u "hashIsZero"), (0, u "Z"), (0, .methodref 10 28), (0, .nameAndType 5 29), (0, u "([CIILjava/lang/Void;)V"), (8, .fieldref 10 39), (0, .nameAndType 40 26), (0, u "COMPACT_STRINGS"), (1, .class_ 44), (1, u "java/lang/StringUTF16"), (0, u "compress"), (1, .methodref 42 48), (0, .nameAndType 49 50), (0, u "coderFromArrayLen"), (0, u "([BI)B"), (46, u "([BII)I"), (9, .class_ 109), (1, u "java/lang/StringLatin1"), (32, u "()Z"), (34, .methodref 42 178), (0, .nameAndType 45 179), (0, u "([CII)[B"), (31, u "([BB)V"), (122, u "()I"), (0, .methodref 10 336), (0, .nameAndType 17 337), (0, u "()B"), (25, u "([BI)C"), (27, u "(II)V"), (35, u "(I)C"), (64, .methodref 10 493), (0, .nameAndType 494 142), (0, u "isLatin1"), (0, .methodref 107 496), (0, .nameAndType 497 363), (0, u "charAt"), (3, u "checkIndex"), (3, .methodref 10 506), (0, .nameAndType 507 334), (0, u "length"), (5, u "checkFromToIndex"), (7, .methodref 10 522), (0, .nameAndType 523 524), (0, u "checkBoundsBeginEnd"), (0, u "(III)V"), (50, .class_ 576), (0, u "java/lang/CharSequence"), (22, u "CASE_INSENSITIVE_ORDER"), (0, u "Ljava/util/Comparator;"), (35, u "(II)I"), (4, .methodref 10 642), (0, .nameAndType 643 636), (0, u "lastIndexOf"), (0, .methodref 107 645), (0, .nameAndType 643 97), (35, .methodref 10 682), (0, .nameAndType 683 684), (0, u "substring"), (0, u "(II)Ljava/lang/String;"), (0, .methodref 107 686), (0, .nameAndType 687 688), (0, u "newString"), (0, u "([BII)Ljava/lang/String;"), (3, u "isEmpty"), (72, u "(I)I"), (126, u "(I)Ljava/lang/String;"), (117, u "([C)V"), (42, .fieldref 1054 1055), (0, .class_ 1056), (0, .nameAndType 1057 1058), (0, u "jdk/internal/util/Preconditions"), (0, u "SIOOBE_FORMATTER"), (0, u "Ljava/util/function/BiFunction;"), (0, .methodref 1054 1060), (0, .nameAndType 501 1061), (0, u "(IILjava/util/function/BiFunction;)I"), (0, .methodref 1054 1063), (0, .nameAndType 513 1064), (0, u "(IIILjava/util/function/BiFunction;)I"), (36, u "serialPersistentFields"), (0, u "[Ljava/io/ObjectStreamField;"), (0, .class_ 1104), (0, u "java/lang/String$CaseInsensitiveComparator"), (1, .class_ 1107), (0, u "java/io/Serializable"), (0, .class_ 1109), (0, u "java/lang/Comparable"), (0, .class_ 1111), (0, u "java/lang/constant/Constable"), (0, .class_ 1113), (0, u "java/lang/constant/ConstantDesc"), (2, u "serialVersionUID"), (0, u "J"), (3, u "REPL"), (0, u "C"), (2, u "LATIN1"), (1, u "UTF16")] 323

def k7m0 : Method := { name := "<init>", desc := "()V", sig := { parameters := [], returnType := none }, accessFlags := 1, code := none }
def k7c1 : Code := { maxStack := 5, maxLocals := 2, code := jdk_42_method_3_code, exceptionTable := #[], attributes := #[] }
def k7m1 : Method := { name := "<init>", desc := "([C)V", sig := { parameters := [(.array .char)], returnType := none }, accessFlags := 1, code := some k7c1 }
def k7c2 : Code := { maxStack := 2, maxLocals := 1, code := jdk_42_method_54_code, exceptionTable := #[], attributes := #[] }
def k7m2 : Method := { name := "length", desc := "()I", sig := { parameters := [], returnType := some .int }, accessFlags := 1, code := some k7c2 }
def k7c3 : Code := { maxStack := 1, maxLocals := 1, code := jdk_42_method_55_code, exceptionTable := #[], attributes := #[] }
def k7m3 : Method := { name := "isEmpty", desc := "()Z", sig := { parameters := [], returnType := some .boolean }, accessFlags := 1, code := some k7c3 }
def k7c4 : Code := { maxStack := 2, maxLocals := 2, code := jdk_42_method_56_code, exceptionTable := #[], attributes := #[] }
def k7m4 : Method := { name := "charAt", desc := "(I)C", sig := { parameters := [.int], returnType := some .char }, accessFlags := 1, code := some k7c4 }
def k7c5 : Code := { maxStack := 4, maxLocals := 2, code := jdk_42_method_82_code, exceptionTable := #[], attributes := #[] }
def k7m5 : Method := { name := "lastIndexOf", desc := "(I)I", sig := { parameters := [.int], returnType := some .int }, accessFlags := 1, code := some k7c5 }
def k7c6 : Code := { maxStack := 3, maxLocals := 3, code := jdk_42_method_83_code, exceptionTable := #[], attributes := #[] }
def k7m6 : Method := { name := "lastIndexOf", desc := "(II)I", sig := { parameters := [.int, .int], returnType := some .int }, accessFlags := 1, code := some k7c6 }
def k7c7 : Code := { maxStack := 3, maxLocals := 2, code := jdk_42_method_91_code, exceptionTable := #[], attributes := #[] }
def k7m7 : Method := { name := "substring", desc := "(I)Ljava/lang/String;", sig := { parameters := [.int], returnType := some (.object "java/lang/String") }, accessFlags := 1, code := some k7c7 }
def k7c8 : Code := { maxStack := 3, maxLocals := 5, code := jdk_42_method_92_code, exceptionTable := #[], attributes := #[] }
def k7m8 : Method := { name := "substring", desc := "(II)Ljava/lang/String;", sig := { parameters := [.int, .int], returnType := some (.object "java/lang/String") }, accessFlags := 1, code := some k7c8 }
def k7c9 : Code := { maxStack := 4, maxLocals := 6, code := jdk_42_method_149_code, exceptionTable := #[], attributes := #[] }
def k7m9 : Method := { name := "<init>", desc := "([CIILjava/lang/Void;)V", sig := { parameters := [(.array .char), .int, .int, (.object "java/lang/Void")], returnType := none }, accessFlags := 2, code := some k7c9 }
def k7c10 : Code := { maxStack := 2, maxLocals := 3, code := jdk_42_method_151_code, exceptionTable := #[], attributes := #[] }
def k7m10 : Method := { name := "<init>", desc := "([BB)V", sig := { parameters := [(.array .byte), .byte], returnType := none }, accessFlags := 0, code := some k7c10 }
def k7c11 : Code := { maxStack := 1, maxLocals := 1, code := jdk_42_method_152_code, exceptionTable := #[], attributes := #[] }
def k7m11 : Method := { name := "coder", desc := "()B", sig := { parameters := [], returnType := some .byte }, accessFlags := 0, code := some k7c11 }
def k7c12 : Code := { maxStack := 1, maxLocals := 1, code := jdk_42_method_154_code, exceptionTable := #[], attributes := #[] }
def k7m12 : Method := { name := "isLatin1", desc := "()Z", sig := { parameters := [], returnType := some .boolean }, accessFlags := 0, code := some k7c12 }
def k7c13 : Code := { maxStack := 3, maxLocals := 2, code := jdk_42_method_155_code, exceptionTable := #[], attributes := #[] }
def k7m13 : Method := { name := "checkIndex", desc := "(II)V", sig := { parameters := [.int, .int], returnType := none }, accessFlags := 8, code := some k7c13 }
def k7c14 : Code := { maxStack := 4, maxLocals := 3, code := jdk_42_method_158_code, exceptionTable := #[], attributes := #[] }
def k7m14 : Method := { name := "checkBoundsBeginEnd", desc := "(III)V", sig := { parameters := [.int, .int, .int], returnType := none }, accessFlags := 8, code := some k7c14 }
/-- java/lang/String -/
def k7 : Class := { plain "java/lang/String" (some 0) with
  accessFlags := 49
  interfaces := #[2, 3, 4, 5, 6]
  cf := some (fileOf pool7 10 #[.nestMembers #[1103]] #[{ accessFlags := 1, nameIndex := 5, descriptorIndex := 6, attributes := #[] }, { accessFlags := 1, nameIndex := 5, descriptorIndex := 1010, attributes := #[] }, { accessFlags := 1, nameIndex := 507, descriptorIndex := 334, attributes := #[] }, { accessFlags := 1, nameIndex := 692, descriptorIndex := 142, attributes := #[] }, { accessFlags := 1, nameIndex := 497, descriptorIndex := 427, attributes := #[] }, { accessFlags := 1, nameIndex := 643, descriptorIndex := 765, attributes := #[] }, { accessFlags := 1, nameIndex := 643, descriptorIndex := 636, attributes := #[] }, { accessFlags := 1, nameIndex := 683, descriptorIndex := 892, attributes := #[] }, { accessFlags := 1, nameIndex := 683, descriptorIndex := 684, attributes := #[] }, { accessFlags := 2, nameIndex := 5, descriptorIndex := 29, attributes := #[] }, { accessFlags := 0, nameIndex := 5, descriptorIndex := 211, attributes := #[] }, { accessFlags := 0, nameIndex := 17, descriptorIndex := 337, attributes := #[] }, { accessFlags := 0, nameIndex := 494, descriptorIndex := 142, attributes := #[] }, { accessFlags := 8, nameIndex := 501, descriptorIndex := 391, attributes := #[] }, { accessFlags := 8, nameIndex := 523, descriptorIndex := 524, attributes := #[] }] 49 2 #[1106, 1108, 575, 1110, 1112] #[{ accessFlags := 18, nameIndex := 13, descriptorIndex := 14, attributes := #[] }, { accessFlags := 18, nameIndex := 17, descriptorIndex := 18, attributes := #[] }, { accessFlags := 2, nameIndex := 21, descriptorIndex := 22, attributes := #[] }, { accessFlags := 2, nameIndex := 25, descriptorIndex := 26, attributes := #[] }, { accessFlags := 26, nameIndex := 1116, descriptorIndex := 1117, attributes := #[] }, { accessFlags := 24, nameIndex := 40, descriptorIndex := 26, attributes := #[] }, { accessFlags := 26, nameIndex := 1101, descriptorIndex := 1102, attributes := #[] }, { accessFlags := 26, nameIndex := 1121, descriptorIndex := 1122, attributes := #[] }, { accessFlags := 25, nameIndex := 599, descriptorIndex := 600, attributes := #[] }, { accessFlags := 24, nameIndex := 1125, descriptorIndex := 18, attributes := #[] }, { accessFlags := 24, nameIndex := 1127, descriptorIndex := 18, attributes := #[] }])
  fields := #[{ name := "value", type := (.array .byte), accessFlags := 18, slot := 0, constantValue := 0 }, { name := "coder", type := .byte, accessFlags := 18, slot := 1, constantValue := 0 }, { name := "hash", type := .int, accessFlags := 2, slot := 2, constantValue := 0 }, { name := "hashIsZero", type := .boolean, accessFlags := 2, slot := 3, constantValue := 0 }, { name := "serialVersionUID", type := .long, accessFlags := 26, slot := 0, constantValue := 0 }, { name := "COMPACT_STRINGS", type := .boolean, accessFlags := 24, slot := 1, constantValue := 0 }, { name := "serialPersistentFields", type := (.array (.object "java/io/ObjectStreamField")), accessFlags := 26, slot := 2, constantValue := 0 }, { name := "REPL", type := .char, accessFlags := 26, slot := 3, constantValue := 0 }, { name := "CASE_INSENSITIVE_ORDER", type := (.object "java/util/Comparator"), accessFlags := 25, slot := 4, constantValue := 0 }, { name := "LATIN1", type := .byte, accessFlags := 24, slot := 5, constantValue := 0 }, { name := "UTF16", type := .byte, accessFlags := 24, slot := 6, constantValue := 0 }]
  methods := #[k7m0, k7m1, k7m2, k7m3, k7m4, k7m5, k7m6, k7m7, k7m8, k7m9, k7m10, k7m11, k7m12, k7m13, k7m14]
  instanceTypes := #[(.array .byte), .byte, .int, .boolean]
  staticTypes := #[.long, .boolean, (.array (.object "java/io/ObjectStreamField")), .char, (.object "java/util/Comparator"), .byte, .byte]
  resolved := Array.replicate 1451 none
  statics := some 0 }

def pool8 : Array CpInfo := pool [(2, .class_ 4), (1, u "java/lang/Object"), (3, .class_ 10), (1, u "com/example/matchmaker/matchmaker/registry/ServiceId"), (0, u "value"), (0, u "Ljava/lang/String;"), (30, .class_ 45), (1, u "java/lang/String"), (41, u "(Ljava/lang/String;)Ljava/lang/String;"), (5, .methodref 43 94), (0, .nameAndType 95 96), (0, u "lastIndexOf"), (0, u "(I)I"), (2, u "substring"), (1, .string 102), (0, u ""), (0, .methodref 8 104), (0, .nameAndType 105 106), (0, u "extensionDot"), (0, u "(Ljava/lang/String;)I"), (0, .methodref 43 108), (0, .nameAndType 99 109), (0, u "(I)Ljava/lang/String;"), (10, u "extensionOf")] 17

def k8c0 : Code := { maxStack := 3, maxLocals := 3, code := prog_36_method_4_code, exceptionTable := #[], attributes := #[] }
def k8m0 : Method := { name := "extensionOf", desc := "(Ljava/lang/String;)Ljava/lang/String;", sig := { parameters := [(.object "java/lang/String")], returnType := some (.object "java/lang/String") }, accessFlags := 8, code := some k8c0 }
def k8c1 : Code := { maxStack := 2, maxLocals := 1, code := prog_36_method_6_code, exceptionTable := #[], attributes := #[] }
def k8m1 : Method := { name := "extensionDot", desc := "(Ljava/lang/String;)I", sig := { parameters := [(.object "java/lang/String")], returnType := some .int }, accessFlags := 10, code := some k8c1 }
/-- com/example/matchmaker/matchmaker/registry/ServiceId -/
def k8 : Class := { plain "com/example/matchmaker/matchmaker/registry/ServiceId" (some 0) with
  accessFlags := 49
  interfaces := #[]
  cf := some (fileOf pool8 8 #[] #[{ accessFlags := 8, nameIndex := 120, descriptorIndex := 87, attributes := #[] }, { accessFlags := 10, nameIndex := 105, descriptorIndex := 106, attributes := #[] }] 49 2 #[] #[{ accessFlags := 18, nameIndex := 11, descriptorIndex := 12, attributes := #[] }])
  fields := #[{ name := "value", type := (.object "java/lang/String"), accessFlags := 18, slot := 0, constantValue := 0 }]
  methods := #[k8m0, k8m1]
  instanceTypes := #[(.object "java/lang/String")]
  staticTypes := #[]
  resolved := Array.replicate 138 none
  statics := none }

def pool9 : Array CpInfo := pool [(1, .class_ 2), (0, u "java/lang/String"), (1, .class_ 6), (1, u "java/lang/Object"), (0, u "<init>"), (0, u "()V"), (0, .methodref 1 10), (0, .nameAndType 11 12), (0, u "checkIndex"), (0, u "(II)V"), (1, .class_ 16), (1, u "java/lang/StringLatin1"), (21, .methodref 39 40), (0, .class_ 41), (0, .nameAndType 42 43), (0, u "java/lang/Math"), (0, u "min"), (0, u "(II)I"), (9, u "([BI)C"), (34, .methodref 14 89), (0, .nameAndType 90 91), (0, u "canEncode"), (0, u "(I)Z"), (20, .methodref 1 113), (0, .nameAndType 7 114), (0, u "([BB)V"), (6, u "$assertionsDisabled"), (0, u "Z"), (8, .class_ 133), (1, u "java/util/Arrays"), (17, .string 152), (0, u ""), (43, u "newString"), (0, u "([BII)Ljava/lang/String;"), (23, .class_ 223), (1, u "java/lang/StringLatin1$LinesSpliterator"), (8, .methodref 131 233), (0, .nameAndType 234 235), (0, u "copyOfRange"), (0, u "([BII)[B"), (16, u "charAt"), (8, u "([BII)I"), (47, u "lastIndexOf"), (80, .class_ 391), (0, u "java/lang/StringLatin1$CharsSpliterator")] 3

def k9m0 : Method := { name := "<init>", desc := "()V", sig := { parameters := [], returnType := none }, accessFlags := 0, code := none }
def k9c1 : Code := { maxStack := 2, maxLocals := 2, code := jdk_43_method_2_code, exceptionTable := #[], attributes := #[] }
def k9m1 : Method := { name := "charAt", desc := "([BI)C", sig := { parameters := [(.array .byte), .int], returnType := some .char }, accessFlags := 9, code := some k9c1 }
def k9c2 : Code := { maxStack := 2, maxLocals := 1, code := jdk_43_method_4_code, exceptionTable := #[], attributes := #[] }
def k9m2 : Method := { name := "canEncode", desc := "(I)Z", sig := { parameters := [.int], returnType := some .boolean }, accessFlags := 9, code := some k9c2 }
def k9c3 : Code := { maxStack := 3, maxLocals := 4, code := jdk_43_method_27_code, exceptionTable := #[], attributes := #[] }
def k9m3 : Method := { name := "lastIndexOf", desc := "([BII)I", sig := { parameters := [(.array .byte), .int, .int], returnType := some .int }, accessFlags := 9, code := some k9c3 }
def k9c4 : Code := { maxStack := 6, maxLocals := 3, code := jdk_43_method_47_code, exceptionTable := #[], attributes := #[] }
def k9m4 : Method := { name := "newString", desc := "([BII)Ljava/lang/String;", sig := { parameters := [(.array .byte), .int, .int], returnType := some (.object "java/lang/String") }, accessFlags := 9, code := some k9c4 }
/-- java/lang/StringLatin1 -/
def k9 : Class := { plain "java/lang/StringLatin1" (some 0) with
  accessFlags := 48
  interfaces := #[]
  cf := some (fileOf pool9 14 #[.nestMembers #[390, 221]] #[{ accessFlags := 0, nameIndex := 7, descriptorIndex := 8, attributes := #[] }, { accessFlags := 9, nameIndex := 252, descriptorIndex := 53, attributes := #[] }, { accessFlags := 9, nameIndex := 90, descriptorIndex := 91, attributes := #[] }, { accessFlags := 9, nameIndex := 309, descriptorIndex := 261, attributes := #[] }, { accessFlags := 9, nameIndex := 196, descriptorIndex := 197, attributes := #[] }] 48 4 #[] #[{ accessFlags := 4120, nameIndex := 121, descriptorIndex := 122, attributes := #[] }])
  fields := #[{ name := "$assertionsDisabled", type := .boolean, accessFlags := 4120, slot := 0, constantValue := 0 }]
  methods := #[k9m0, k9m1, k9m2, k9m3, k9m4]
  instanceTypes := #[]
  staticTypes := #[.boolean]
  resolved := Array.replicate 395 none
  statics := none }

def pool10 : Array CpInfo := pool [(1, .class_ 2), (0, u "java/lang/Math"), (1, .class_ 6), (1, u "java/lang/Object"), (0, u "<init>"), (0, u "()V"), (89, .class_ 100), (1, u "java/lang/Math$RandomNumberGeneratorHolder"), (71, u "negativeZeroFloatBits"), (0, u "J"), (2, u "negativeZeroDoubleBits"), (24, u "min"), (43, u "$assertionsDisabled"), (0, u "Z"), (88, u "(II)I"), (2, u "twoToTheDoubleScaleDown"), (0, u "D"), (4, u "twoToTheDoubleScaleUp"), (9, u "E"), (3, u "PI"), (2, u "TAU"), (2, u "DEGREES_TO_RADIANS"), (0, u "RADIANS_TO_DEGREES")] 94

def k10m0 : Method := { name := "<init>", desc := "()V", sig := { parameters := [], returnType := none }, accessFlags := 2, code := none }
def k10c1 : Code := { maxStack := 2, maxLocals := 2, code := jdk_29_method_69_code, exceptionTable := #[], attributes := #[] }
def k10m1 : Method := { name := "min", desc := "(II)I", sig := { parameters := [.int, .int], returnType := some .int }, accessFlags := 9, code := some k10c1 }
/-- java/lang/Math -/
def k10 : Class := { plain "java/lang/Math" (some 0) with
  accessFlags := 49
  interfaces := #[]
  cf := some (fileOf pool10 1 #[.nestMembers #[98]] #[{ accessFlags := 2, nameIndex := 7, descriptorIndex := 8, attributes := #[] }, { accessFlags := 9, nameIndex := 201, descriptorIndex := 335, attributes := #[] }] 49 4 #[] #[{ accessFlags := 25, nameIndex := 354, descriptorIndex := 339, attributes := #[] }, { accessFlags := 25, nameIndex := 358, descriptorIndex := 339, attributes := #[] }, { accessFlags := 25, nameIndex := 361, descriptorIndex := 339, attributes := #[] }, { accessFlags := 26, nameIndex := 364, descriptorIndex := 339, attributes := #[] }, { accessFlags := 26, nameIndex := 365, descriptorIndex := 339, attributes := #[] }, { accessFlags := 26, nameIndex := 172, descriptorIndex := 173, attributes := #[] }, { accessFlags := 26, nameIndex := 176, descriptorIndex := 173, attributes := #[] }, { accessFlags := 8, nameIndex := 344, descriptorIndex := 339, attributes := #[] }, { accessFlags := 8, nameIndex := 338, descriptorIndex := 339, attributes := #[] }, { accessFlags := 4120, nameIndex := 245, descriptorIndex := 246, attributes := #[] }])
  fields := #[{ name := "E", type := .double, accessFlags := 25, slot := 0, constantValue := 0 }, { name := "PI", type := .double, accessFlags := 25, slot := 1, constantValue := 0 }, { name := "TAU", type := .double, accessFlags := 25, slot := 2, constantValue := 0 }, { name := "DEGREES_TO_RADIANS", type := .double, accessFlags := 26, slot := 3, constantValue := 0 }, { name := "RADIANS_TO_DEGREES", type := .double, accessFlags := 26, slot := 4, constantValue := 0 }, { name := "negativeZeroFloatBits", type := .long, accessFlags := 26, slot := 5, constantValue := 0 }, { name := "negativeZeroDoubleBits", type := .long, accessFlags := 26, slot := 6, constantValue := 0 }, { name := "twoToTheDoubleScaleUp", type := .double, accessFlags := 8, slot := 7, constantValue := 0 }, { name := "twoToTheDoubleScaleDown", type := .double, accessFlags := 8, slot := 8, constantValue := 0 }, { name := "$assertionsDisabled", type := .boolean, accessFlags := 4120, slot := 9, constantValue := 0 }]
  methods := #[k10m0, k10m1]
  instanceTypes := #[]
  staticTypes := #[.double, .double, .double, .double, .double, .long, .long, .double, .double, .boolean]
  resolved := Array.replicate 460 none
  statics := none }

def pool11 : Array CpInfo := pool [(6, .class_ 8), (1, u "java/lang/Object"), (0, u "<init>"), (0, u "()V"), (1, .class_ 14), (1, u "java/lang/StringUTF16"), (31, u "$assertionsDisabled"), (0, u "Z"), (13, u "HI_BYTE_SHIFT"), (0, u "I"), (2, u "LO_BYTE_SHIFT"), (49, .methodref 12 116), (0, .nameAndType 117 118), (0, u "compress"), (0, u "([CI[BII)I"), (3, u "([CII)[B"), (138, u "coderFromArrayLen"), (0, u "([BI)B"), (106, .class_ 371), (1, u "java/lang/StringUTF16$LinesSpliterator"), (58, u "MAX_LENGTH"), (196, .class_ 628), (0, u "java/lang/StringUTF16$CodePointsSpliterator"), (0, .class_ 630), (0, u "java/lang/StringUTF16$CharsSpliterator")] 4

def k11m0 : Method := { name := "<init>", desc := "()V", sig := { parameters := [], returnType := none }, accessFlags := 0, code := none }
def k11c1 : Code := { maxStack := 2, maxLocals := 2, code := jdk_52_method_15_code, exceptionTable := #[], attributes := #[] }
def k11m1 : Method := { name := "coderFromArrayLen", desc := "([BI)B", sig := { parameters := [(.array .byte), .int], returnType := some .byte }, accessFlags := 8, code := some k11c1 }
def k11c2 : Code := { maxStack := 5, maxLocals := 6, code := jdk_52_method_16_code, exceptionTable := #[], attributes := #[] }
def k11m2 : Method := { name := "compress", desc := "([CII)[B", sig := { parameters := [(.array .char), .int, .int], returnType := some (.array .byte) }, accessFlags := 9, code := some k11c2 }
def k11c3 : Code := { maxStack := 3, maxLocals := 7, code := jdk_52_method_21_code, exceptionTable := #[], attributes := #[] }
def k11m3 : Method := { name := "compress", desc := "([CI[BII)I", sig := { parameters := [(.array .char), .int, (.array .byte), .int, .int], returnType := some .int }, accessFlags := 9, code := some k11c3 }
/-- java/lang/StringUTF16 -/
def k11 : Class := { plain "java/lang/StringUTF16" (some 0) with
  accessFlags := 48
  interfaces := #[]
  cf := some (fileOf pool11 12 #[.nestMembers #[627, 629, 369]] #[{ accessFlags := 0, nameIndex := 9, descriptorIndex := 10, attributes := #[] }, { accessFlags := 8, nameIndex := 261, descriptorIndex := 262, attributes := #[] }, { accessFlags := 9, nameIndex := 117, descriptorIndex := 122, attributes := #[] }, { accessFlags := 9, nameIndex := 117, descriptorIndex := 118, attributes := #[] }] 48 6 #[] #[{ accessFlags := 26, nameIndex := 61, descriptorIndex := 62, attributes := #[] }, { accessFlags := 26, nameIndex := 65, descriptorIndex := 62, attributes := #[] }, { accessFlags := 24, nameIndex := 430, descriptorIndex := 62, attributes := #[] }, { accessFlags := 4120, nameIndex := 46, descriptorIndex := 47, attributes := #[] }])
  fields := #[{ name := "HI_BYTE_SHIFT", type := .int, accessFlags := 26, slot := 0, constantValue := 0 }, { name := "LO_BYTE_SHIFT", type := .int, accessFlags := 26, slot := 1, constantValue := 0 }, { name := "MAX_LENGTH", type := .int, accessFlags := 24, slot := 2, constantValue := 0 }, { name := "$assertionsDisabled", type := .boolean, accessFlags := 4120, slot := 3, constantValue := 0 }]
  methods := #[k11m0, k11m1, k11m2, k11m3]
  instanceTypes := #[]
  staticTypes := #[.int, .int, .int, .boolean]
  resolved := Array.replicate 635 none
  statics := none }

def pool12 : Array CpInfo := pool [(2, .class_ 4), (1, u "java/lang/Object"), (0, u "<init>"), (0, u "()V"), (17, .class_ 26), (1, u "jdk/internal/util/Preconditions"), (6, u "checkIndex"), (13, u "checkFromToIndex"), (7, .class_ 56), (0, u "jdk/internal/util/Preconditions$4"), (57, .class_ 115), (0, u "jdk/internal/util/Preconditions$1"), (7, u "SIOOBE_FORMATTER"), (0, u "Ljava/util/function/BiFunction;"), (0, .class_ 126), (0, u "jdk/internal/util/Preconditions$2"), (3, u "AIOOBE_FORMATTER"), (0, .class_ 132), (0, u "jdk/internal/util/Preconditions$3"), (3, u "IOOBE_FORMATTER"), (41, u "(IILjava/util/function/BiFunction;)I"), (4, u "(IIILjava/util/function/BiFunction;)I")] 10

def k12m0 : Method := { name := "<init>", desc := "()V", sig := { parameters := [], returnType := none }, accessFlags := 1, code := none }
def k12c1 : Code := { maxStack := 3, maxLocals := 3, code := jdk_41_method_11_code, exceptionTable := #[], attributes := #[] }
def k12m1 : Method := { name := "checkIndex", desc := "(IILjava/util/function/BiFunction;)I", sig := { parameters := [.int, .int, (.object "java/util/function/BiFunction")], returnType := some .int }, accessFlags := 9, code := some k12c1 }
def k12c2 : Code := { maxStack := 4, maxLocals := 4, code := jdk_41_method_12_code, exceptionTable := #[], attributes := #[] }
def k12m2 : Method := { name := "checkFromToIndex", desc := "(IIILjava/util/function/BiFunction;)I", sig := { parameters := [.int, .int, .int, (.object "java/util/function/BiFunction")], returnType := some .int }, accessFlags := 9, code := some k12c2 }
/-- jdk/internal/util/Preconditions -/
def k12 : Class := { plain "jdk/internal/util/Preconditions" (some 0) with
  accessFlags := 33
  interfaces := #[]
  cf := some (fileOf pool12 24 #[.nestMembers #[55, 131, 125, 114]] #[{ accessFlags := 1, nameIndex := 5, descriptorIndex := 6, attributes := #[] }, { accessFlags := 9, nameIndex := 33, descriptorIndex := 178, attributes := #[] }, { accessFlags := 9, nameIndex := 47, descriptorIndex := 183, attributes := #[] }] 33 2 #[] #[{ accessFlags := 25, nameIndex := 123, descriptorIndex := 124, attributes := #[] }, { accessFlags := 25, nameIndex := 130, descriptorIndex := 124, attributes := #[] }, { accessFlags := 25, nameIndex := 136, descriptorIndex := 124, attributes := #[] }])
  fields := #[{ name := "SIOOBE_FORMATTER", type := (.object "java/util/function/BiFunction"), accessFlags := 25, slot := 0, constantValue := 0 }, { name := "AIOOBE_FORMATTER", type := (.object "java/util/function/BiFunction"), accessFlags := 25, slot := 1, constantValue := 0 }, { name := "IOOBE_FORMATTER", type := (.object "java/util/function/BiFunction"), accessFlags := 25, slot := 2, constantValue := 0 }]
  methods := #[k12m0, k12m1, k12m2]
  instanceTypes := #[]
  staticTypes := #[(.object "java/util/function/BiFunction"), (.object "java/util/function/BiFunction"), (.object "java/util/function/BiFunction")]
  resolved := Array.replicate 194 none
  statics := some 1 }

def pool13 : Array CpInfo := pool [(2, .class_ 4), (1, u "java/lang/Object"), (0, u "<init>"), (0, u "()V"), (7, .class_ 16), (1, u "java/util/Arrays"), (57, .class_ 76), (1, u "java/util/Arrays$NaturalOrder"), (36, .class_ 115), (1, u "java/util/Arrays$LegacyMergeSort"), (1, u "Z"), (21, u "copyOfRange"), (10, .methodref 151 152), (0, .class_ 153), (0, .nameAndType 154 155), (0, u "java/lang/System"), (0, u "arraycopy"), (0, u "(Ljava/lang/Object;ILjava/lang/Object;II)V"), (148, .methodref 305 306), (0, .class_ 307), (0, .nameAndType 308 309), (0, u "java/lang/Math"), (0, u "min"), (0, u "(II)I"), (29, .methodref 14 340), (0, .nameAndType 341 342), (0, u "copyOfRangeByte"), (0, u "([BII)[B"), (0, .methodref 14 344), (0, .nameAndType 345 346), (0, u "checkLength"), (0, u "(II)V"), (28, .class_ 376), (0, u "java/util/Arrays$ArrayList"), (68, u "$assertionsDisabled"), (269, u "MIN_ARRAY_SORT_GRAN"), (0, u "I"), (2, u "INSERTIONSORT_THRESHOLD"), (255, .class_ 976), (0, u "java/util/Arrays$ArrayItr")] 52

def k13m0 : Method := { name := "<init>", desc := "()V", sig := { parameters := [], returnType := none }, accessFlags := 2, code := none }
def k13c1 : Code := { maxStack := 4, maxLocals := 2, code := jdk_65_method_131_code, exceptionTable := #[], attributes := #[] }
def k13m1 : Method := { name := "checkLength", desc := "(II)V", sig := { parameters := [.int, .int], returnType := none }, accessFlags := 10, code := some k13c1 }
def k13c2 : Code := { maxStack := 3, maxLocals := 3, code := jdk_65_method_132_code, exceptionTable := #[], attributes := #[] }
def k13m2 : Method := { name := "copyOfRange", desc := "([BII)[B", sig := { parameters := [(.array .byte), .int, .int], returnType := some (.array .byte) }, accessFlags := 9, code := some k13c2 }
def k13c3 : Code := { maxStack := 6, maxLocals := 5, code := jdk_65_method_133_code, exceptionTable := #[], attributes := #[] }
def k13m3 : Method := { name := "copyOfRangeByte", desc := "([BII)[B", sig := { parameters := [(.array .byte), .int, .int], returnType := some (.array .byte) }, accessFlags := 10, code := some k13c3 }
/-- java/util/Arrays -/
def k13 : Class := { plain "java/util/Arrays" (some 0) with
  accessFlags := 49
  interfaces := #[]
  cf := some (fileOf pool13 14 #[.nestMembers #[975, 375, 113, 74]] #[{ accessFlags := 2, nameIndex := 5, descriptorIndex := 6, attributes := #[] }, { accessFlags := 10, nameIndex := 345, descriptorIndex := 346, attributes := #[] }, { accessFlags := 9, nameIndex := 139, descriptorIndex := 342, attributes := #[] }, { accessFlags := 10, nameIndex := 341, descriptorIndex := 342, attributes := #[] }] 49 2 #[] #[{ accessFlags := 26, nameIndex := 715, descriptorIndex := 716, attributes := #[] }, { accessFlags := 26, nameIndex := 719, descriptorIndex := 716, attributes := #[] }, { accessFlags := 4120, nameIndex := 445, descriptorIndex := 117, attributes := #[] }])
  fields := #[{ name := "MIN_ARRAY_SORT_GRAN", type := .int, accessFlags := 26, slot := 0, constantValue := 0 }, { name := "INSERTIONSORT_THRESHOLD", type := .int, accessFlags := 26, slot := 1, constantValue := 0 }, { name := "$assertionsDisabled", type := .boolean, accessFlags := 4120, slot := 2, constantValue := 0 }]
  methods := #[k13m0, k13m1, k13m2, k13m3]
  instanceTypes := #[]
  staticTypes := #[.int, .int, .boolean]
  resolved := Array.replicate 1029 none
  statics := none }

def pool14 : Array CpInfo := pool [(2, .class_ 4), (1, u "java/lang/Object"), (0, u "<init>"), (0, u "()V"), (1, .class_ 10), (1, u "java/lang/System"), (0, u "allowSecurityManager"), (0, u "I"), (16, u "cons"), (0, u "Ljava/io/Console;"), (77, .class_ 110), (1, u "java/lang/System$CallersHolder"), (43, u "initialErrStream"), (0, u "Ljava/io/PrintStream;"), (19, u "security"), (0, u "Ljava/lang/SecurityManager;"), (31, .class_ 209), (0, u "java/lang/System$1"), (7, u "props"), (0, u "Ljava/util/Properties;"), (2, u "lineSeparator"), (0, u "Ljava/lang/String;"), (96, .class_ 321), (1, u "java/lang/System$LoggerFinder"), (5, .class_ 328), (0, u "java/lang/System$Logger"), (67, u "err"), (2, u "out"), (91, u "notSupportedJnuEncoding"), (15, u "in"), (17, u "initialIn"), (0, u "Ljava/io/InputStream;"), (35, u "bootLayer"), (0, u "Ljava/lang/ModuleLayer;"), (99, .class_ 664), (0, u "java/lang/System$2"), (9, u "NEVER"), (2, u "MAYBE"), (49, u "arraycopy"), (0, u "(Ljava/lang/Object;ILjava/lang/Object;II)V"), (72, .class_ 802), (0, u "java/lang/System$Logger$Level")] 31

def k14m0 : Method := { name := "<init>", desc := "()V", sig := { parameters := [], returnType := none }, accessFlags := 2, code := none }
def k14m1 : Method := { name := "arraycopy", desc := "(Ljava/lang/Object;ILjava/lang/Object;II)V", sig := { parameters := [(.object "java/lang/Object"), .int, (.object "java/lang/Object"), .int, .int], returnType := none }, accessFlags := 265, code := none }
/-- java/lang/System -/
def k14 : Class := { plain "java/lang/System" (some 0) with
  accessFlags := 49
  interfaces := #[]
  cf := some (fileOf pool14 8 #[.nestMembers #[319, 327, 801, 108, 663, 208]] #[{ accessFlags := 2, nameIndex := 5, descriptorIndex := 6, attributes := #[] }, { accessFlags := 265, nameIndex := 727, descriptorIndex := 728, attributes := #[] }] 49 2 #[] #[{ accessFlags := 25, nameIndex := 507, descriptorIndex := 526, attributes := #[] }, { accessFlags := 25, nameIndex := 399, descriptorIndex := 155, attributes := #[] }, { accessFlags := 25, nameIndex := 396, descriptorIndex := 155, attributes := #[] }, { accessFlags := 10, nameIndex := 525, descriptorIndex := 526, attributes := #[] }, { accessFlags := 26, nameIndex := 674, descriptorIndex := 12, attributes := #[] }, { accessFlags := 26, nameIndex := 677, descriptorIndex := 12, attributes := #[] }, { accessFlags := 10, nameIndex := 11, descriptorIndex := 12, attributes := #[] }, { accessFlags := 74, nameIndex := 175, descriptorIndex := 176, attributes := #[] }, { accessFlags := 10, nameIndex := 491, descriptorIndex := 222, attributes := #[] }, { accessFlags := 74, nameIndex := 29, descriptorIndex := 30, attributes := #[] }, { accessFlags := 74, nameIndex := 154, descriptorIndex := 155, attributes := #[] }, { accessFlags := 10, nameIndex := 217, descriptorIndex := 218, attributes := #[] }, { accessFlags := 10, nameIndex := 221, descriptorIndex := 222, attributes := #[] }, { accessFlags := 8, nameIndex := 562, descriptorIndex := 563, attributes := #[] }])
  fields := #[{ name := "in", type := (.object "java/io/InputStream"), accessFlags := 25, slot := 0, constantValue := 0 }, { name := "out", type := (.object "java/io/PrintStream"), accessFlags := 25, slot := 1, constantValue := 0 }, { name := "err", type := (.object "java/io/PrintStream"), accessFlags := 25, slot := 2, constantValue := 0 }, { name := "initialIn", type := (.object "java/io/InputStream"), accessFlags := 10, slot := 3, constantValue := 0 }, { name := "NEVER", type := .int, accessFlags := 26, slot := 4, constantValue := 0 }, { name := "MAYBE", type := .int, accessFlags := 26, slot := 5, constantValue := 0 }, { name := "allowSecurityManager", type := .int, accessFlags := 10, slot := 6, constantValue := 0 }, { name := "security", type := (.object "java/lang/SecurityManager"), accessFlags := 74, slot := 7, constantValue := 0 }, { name := "notSupportedJnuEncoding", type := (.object "java/lang/String"), accessFlags := 10, slot := 8, constantValue := 0 }, { name := "cons", type := (.object "java/io/Console"), accessFlags := 74, slot := 9, constantValue := 0 }, { name := "initialErrStream", type := (.object "java/io/PrintStream"), accessFlags := 74, slot := 10, constantValue := 0 }, { name := "props", type := (.object "java/util/Properties"), accessFlags := 10, slot := 11, constantValue := 0 }, { name := "lineSeparator", type := (.object "java/lang/String"), accessFlags := 10, slot := 12, constantValue := 0 }, { name := "bootLayer", type := (.object "java/lang/ModuleLayer"), accessFlags := 8, slot := 13, constantValue := 0 }]
  methods := #[k14m0, k14m1]
  instanceTypes := #[]
  staticTypes := #[(.object "java/io/InputStream"), (.object "java/io/PrintStream"), (.object "java/io/PrintStream"), (.object "java/io/InputStream"), .int, .int, .int, (.object "java/lang/SecurityManager"), (.object "java/lang/String"), (.object "java/io/Console"), (.object "java/io/PrintStream"), (.object "java/util/Properties"), (.object "java/lang/String"), (.object "java/lang/ModuleLayer")]
  resolved := Array.replicate 834 none
  statics := none }

def pool15 : Array CpInfo := pool [(9, u "<init>"), (6, .class_ 18), (1, u "java/lang/Object"), (0, u "()V"), (1, .class_ 23), (1, u "jdk/internal/util/ArraysSupport"), (0, u "LOG2_ARRAY_LONG_INDEX_SCALE"), (0, u "I"), (2, u "U"), (0, u "Ljdk/internal/misc/Unsafe;"), (8, u "BIG_ENDIAN"), (0, u "Z"), (8, u "LOG2_BYTE_BIT_SIZE"), (4, u "LOG2_ARRAY_INT_INDEX_SCALE"), (54, u "JLA"), (0, u "Ljdk/internal/access/JavaLangAccess;"), (11, u "LOG2_ARRAY_BOOLEAN_INDEX_SCALE"), (9, u "LOG2_ARRAY_BYTE_INDEX_SCALE"), (5, u "LOG2_ARRAY_CHAR_INDEX_SCALE"), (5, u "LOG2_ARRAY_SHORT_INDEX_SCALE"), (18, u "LOG2_ARRAY_FLOAT_INDEX_SCALE"), (24, u "LOG2_ARRAY_DOUBLE_INDEX_SCALE"), (89, u "T_BOOLEAN"), (2, u "T_CHAR"), (1, u "T_FLOAT"), (1, u "T_DOUBLE"), (1, u "T_BYTE"), (1, u "T_SHORT"), (1, u "T_INT"), (1, u "T_LONG"), (1, u "SOFT_MAX_ARRAY_LENGTH")] 83

def k15m0 : Method := { name := "<init>", desc := "()V", sig := { parameters := [], returnType := none }, accessFlags := 2, code := none }
/-- jdk/internal/util/ArraysSupport -/
def k15 : Class := { plain "jdk/internal/util/ArraysSupport" (some 0) with
  accessFlags := 33
  interfaces := #[]
  cf := some (fileOf pool15 21 #[] #[{ accessFlags := 2, nameIndex := 9, descriptorIndex := 19, attributes := #[] }] 33 16 #[] #[{ accessFlags := 24, nameIndex := 28, descriptorIndex := 29, attributes := #[] }, { accessFlags := 26, nameIndex := 38, descriptorIndex := 39, attributes := #[] }, { accessFlags := 25, nameIndex := 121, descriptorIndex := 25, attributes := #[] }, { accessFlags := 25, nameIndex := 131, descriptorIndex := 25, attributes := #[] }, { accessFlags := 25, nameIndex := 137, descriptorIndex := 25, attributes := #[] }, { accessFlags := 25, nameIndex := 143, descriptorIndex := 25, attributes := #[] }, { accessFlags := 25, nameIndex := 53, descriptorIndex := 25, attributes := #[] }, { accessFlags := 25, nameIndex := 24, descriptorIndex := 25, attributes := #[] }, { accessFlags := 25, nameIndex := 162, descriptorIndex := 25, attributes := #[] }, { accessFlags := 25, nameIndex := 187, descriptorIndex := 25, attributes := #[] }, { accessFlags := 26, nameIndex := 48, descriptorIndex := 25, attributes := #[] }, { accessFlags := 25, nameIndex := 277, descriptorIndex := 25, attributes := #[] }, { accessFlags := 25, nameIndex := 280, descriptorIndex := 25, attributes := #[] }, { accessFlags := 25, nameIndex := 282, descriptorIndex := 25, attributes := #[] }, { accessFlags := 25, nameIndex := 284, descriptorIndex := 25, attributes := #[] }, { accessFlags := 25, nameIndex := 286, descriptorIndex := 25, attributes := #[] }, { accessFlags := 25, nameIndex := 288, descriptorIndex := 25, attributes := #[] }, { accessFlags := 25, nameIndex := 290, descriptorIndex := 25, attributes := #[] }, { accessFlags := 25, nameIndex := 292, descriptorIndex := 25, attributes := #[] }, { accessFlags := 26, nameIndex := 108, descriptorIndex := 109, attributes := #[] }, { accessFlags := 25, nameIndex := 294, descriptorIndex := 25, attributes := #[] }])
  fields := #[{ name := "U", type := (.object "jdk/internal/misc/Unsafe"), accessFlags := 24, slot := 0, constantValue := 0 }, { name := "BIG_ENDIAN", type := .boolean, accessFlags := 26, slot := 1, constantValue := 0 }, { name := "LOG2_ARRAY_BOOLEAN_INDEX_SCALE", type := .int, accessFlags := 25, slot := 2, constantValue := 0 }, { name := "LOG2_ARRAY_BYTE_INDEX_SCALE", type := .int, accessFlags := 25, slot := 3, constantValue := 0 }, { name := "LOG2_ARRAY_CHAR_INDEX_SCALE", type := .int, accessFlags := 25, slot := 4, constantValue := 0 }, { name := "LOG2_ARRAY_SHORT_INDEX_SCALE", type := .int, accessFlags := 25, slot := 5, constantValue := 0 }, { name := "LOG2_ARRAY_INT_INDEX_SCALE", type := .int, accessFlags := 25, slot := 6, constantValue := 0 }, { name := "LOG2_ARRAY_LONG_INDEX_SCALE", type := .int, accessFlags := 25, slot := 7, constantValue := 0 }, { name := "LOG2_ARRAY_FLOAT_INDEX_SCALE", type := .int, accessFlags := 25, slot := 8, constantValue := 0 }, { name := "LOG2_ARRAY_DOUBLE_INDEX_SCALE", type := .int, accessFlags := 25, slot := 9, constantValue := 0 }, { name := "LOG2_BYTE_BIT_SIZE", type := .int, accessFlags := 26, slot := 10, constantValue := 0 }, { name := "T_BOOLEAN", type := .int, accessFlags := 25, slot := 11, constantValue := 0 }, { name := "T_CHAR", type := .int, accessFlags := 25, slot := 12, constantValue := 0 }, { name := "T_FLOAT", type := .int, accessFlags := 25, slot := 13, constantValue := 0 }, { name := "T_DOUBLE", type := .int, accessFlags := 25, slot := 14, constantValue := 0 }, { name := "T_BYTE", type := .int, accessFlags := 25, slot := 15, constantValue := 0 }, { name := "T_SHORT", type := .int, accessFlags := 25, slot := 16, constantValue := 0 }, { name := "T_INT", type := .int, accessFlags := 25, slot := 17, constantValue := 0 }, { name := "T_LONG", type := .int, accessFlags := 25, slot := 18, constantValue := 0 }, { name := "JLA", type := (.object "jdk/internal/access/JavaLangAccess"), accessFlags := 26, slot := 19, constantValue := 0 }, { name := "SOFT_MAX_ARRAY_LENGTH", type := .int, accessFlags := 25, slot := 20, constantValue := 0 }]
  methods := #[k15m0]
  instanceTypes := #[]
  staticTypes := #[(.object "jdk/internal/misc/Unsafe"), .boolean, .int, .int, .int, .int, .int, .int, .int, .int, .int, .int, .int, .int, .int, .int, .int, .int, .int, (.object "jdk/internal/access/JavaLangAccess"), .int]
  resolved := Array.replicate 378 none
  statics := none }

def pool16 : Array CpInfo := pool [(1, u "java/lang/Cloneable"), (0, .class_ 1), (0, u "java/lang/Object"), (0, .class_ 3)] 3

/-- java/lang/Cloneable -/
def k16 : Class := { plain "java/lang/Cloneable" (some 0) with
  accessFlags := 1537
  interfaces := #[]
  cf := some (fileOf pool16 2 #[] #[] 1537 4 #[] #[])
  fields := #[]
  methods := #[]
  instanceTypes := #[]
  staticTypes := #[]
  resolved := Array.replicate 8 none
  statics := none }

/-- the primitive byte -/
def k17 : Class := { plain "byte" none with kind := .primitive 'B', accessFlags := 0x411 }
/-- [B -/
def k18 : Class := { plain "[B" (some 0) with kind := .array 17 .byte, interfaces := #[16, 2], accessFlags := 1041 }

/-- the primitive char -/
def k19 : Class := { plain "char" none with kind := .primitive 'C', accessFlags := 0x411 }
/-- [C -/
def k20 : Class := { plain "[C" (some 0) with kind := .array 19 .char, interfaces := #[16, 2], accessFlags := 1041 }

/-- the primitive int -/
def k21 : Class := { plain "int" none with kind := .primitive 'I', accessFlags := 0x411 }
/-- [I -/
def k22 : Class := { plain "[I" (some 0) with kind := .array 21 .int, interfaces := #[16, 2], accessFlags := 1041 }

def heap : Heap := #[{ cls := 7, slots := #[.long 0, .int 1, .null, .int 0, .null, .int 0, .int 0], vm := .statics 7 },
  { cls := 12, slots := #[.null, .null, .null], vm := .statics 12 }]
def classes : Array Class := #[k0, k1, k2, k3, k4, k5, k6, k7, k8, k9, k10, k11, k12, k13, k14, k15, k16, k17, k18, k19, k20, k21, k22]
def interned : List (Array UInt16 × Addr) := []
def slotsUsed : Nat := 10
def theMethod : MethodId := ⟨1, 3⟩
def args0 : Array Value := #[.int 5, .int 5, .int 5, .int 5, .int 5]
def aboutOver (below : List Frame) : State where
  vm := { classes := classes, interned := interned.toArray }
  heap := heap
  slotsUsed := slotsUsed
  threads := #[{ frames := .invoking theMethod args0 :: below }]
def below0 : List Frame := [.native { method := ⟨0, 0⟩, args := #[] }]
def about1 : State := aboutOver below0
def p0 : Program := .bare "" "" ""
def e0 : Env := launch0.env 0 0 0
theorem w_frames : about1.frames = Frame.invoking theMethod args0 :: below0 := rfl
set_option maxRecDepth 65536 in
theorem w_args : argsFit about1.vm theMethod args0 = true := by decide +kernel
set_option maxRecDepth 65536 in
theorem w_heap : heapFits about1 = true := by decide +kernel
set_option maxRecDepth 65536 in
theorem w_runnable : about1.curStatus? = some .runnable := by decide +kernel
set_option maxRecDepth 65536 in
theorem w_alone : about1.alone = true := by decide +kernel
set_option maxRecDepth 65536 in
theorem w_named : about1.methodNamed? x = some theMethod := by decide +kernel
set_option maxRecDepth 65536 in
theorem w_hears : about1.hears theMethod below0 = true := by decide +kernel
set_option maxRecDepth 65536 in
theorem w_ripe : about1.ripe theMethod args0 below0 = true := by decide +kernel
theorem w_running : about1.status = .running := rfl
set_option maxRecDepth 65536 in
theorem w_room : about1.hasRoom e0.platform room_1 = true :=
  launch0.hasRoom_least _ room_1 (by decide +kernel) (by decide +kernel) (by decide +kernel) (by decide +kernel) (by decide +kernel) (by decide +kernel)
theorem allAtoms_all (ts : List Jvm.Cond) (a : Array Jvm.Value) (st : Jvm.State) : (allAtoms ts).before a st = ts.all (fun c => c.before a st) := by
  induction ts with
  | nil => rfl
  | cons c t ih =>
    show (Jvm.Cond.and c (allAtoms t)).before a st = _
    rw [Jvm.Cond.before_and, ih, List.all_cons]
def words1 : List Jvm.Cond := Jvm.Cond.code x code maxLocals ret :: tables_1
/-- a 'code' word, met by the world's own term for the bytes: nothing is compared byte by byte -/
theorem code_word {y : MethodName} {bytes : ByteArray} {mx : Nat} {rt : Option FieldType} {a : Array Value} {s : State} {m : MethodId} {meth : Method} {c : Code} (h1 : s.methodNamed? y = some m) (h2 : s.vm.method? m = some meth) (h3 : meth.code = some c) (h4 : c.code = bytes)
    (h5 : (c.maxLocals == mx && c.exceptionTable.isEmpty && decide (c.maxStack ≤ mostOperands) && decide (meth.sig.returnType = rt) && !meth.locks && decide (parseMethodDescriptor y.desc = some meth.sig)) = true) : (Jvm.Cond.code y bytes mx rt).before a s = true := by
  simp only [Bool.and_eq_true, beq_iff_eq, Bool.not_eq_true', decide_eq_true_eq] at h5
  obtain ⟨⟨⟨⟨⟨g1, g2⟩, g3⟩, g4⟩, g5⟩, g6⟩ := h5
  simp [Cond.before, Cond.holds, Cond.value, h1, h2, h3, h4, g1, g2, g3, g4, g5, g6]
def isCode : Jvm.Cond → Bool
  | .code _ _ _ _ => true
  | _ => false
theorem all_split {L : List Jvm.Cond} {P : Jvm.Cond → Bool} (h1 : L.all (fun c => isCode c || P c) = true) (h2 : ∀ c ∈ L.filter isCode, P c = true) : L.all P = true := by
  refine List.all_eq_true.mpr fun c hc => ?_
  have h := List.all_eq_true.mp h1 c hc
  rcases Bool.eq_false_or_eq_true (isCode c) with hi | hi
  · exact h2 c (List.mem_filter.mpr ⟨hc, hi⟩)
  · simpa [hi] using h
set_option maxRecDepth 65536 in
theorem w_c0 : (Jvm.Cond.code x code maxLocals ret).before args0 about1 = true := code_word (m := ⟨1, 3⟩) (meth := k1m3) (c := k1c3) (by decide +kernel) rfl rfl rfl (by decide +kernel)
set_option maxRecDepth 65536 in
theorem w_c1 : (Jvm.Cond.code ({ cls := "com/example/matchmaker/matchmaker/registry/ServiceIdExtensionOfPinLaw", name := "ch", desc := "(I)C" } : Jvm.MethodName) method_2_code (2 : Nat) (Option.some Jvm.ClassFile.FieldType.char)).before args0 about1 = true := code_word (m := ⟨1, 1⟩) (meth := k1m1) (c := k1c1) (by decide +kernel) rfl rfl rfl (by decide +kernel)
set_option maxRecDepth 65536 in
theorem w_c2 : (Jvm.Cond.code ({ cls := "java/lang/String", name := "<init>", desc := "([C)V" } : Jvm.MethodName) jdk_42_method_3_code (2 : Nat) (Option.none : Option Jvm.ClassFile.FieldType)).before args0 about1 = true := code_word (m := ⟨7, 1⟩) (meth := k7m1) (c := k7c1) (by decide +kernel) rfl rfl rfl (by decide +kernel)
set_option maxRecDepth 65536 in
theorem w_c3 : (Jvm.Cond.code ({ cls := "java/lang/String", name := "<init>", desc := "([CIILjava/lang/Void;)V" } : Jvm.MethodName) jdk_42_method_149_code (6 : Nat) (Option.none : Option Jvm.ClassFile.FieldType)).before args0 about1 = true := code_word (m := ⟨7, 9⟩) (meth := k7m9) (c := k7c9) (by decide +kernel) rfl rfl rfl (by decide +kernel)
set_option maxRecDepth 65536 in
theorem w_c4 : (Jvm.Cond.code ({ cls := "java/lang/Object", name := "<init>", desc := "()V" } : Jvm.MethodName) object_method_1_code (1 : Nat) (Option.none : Option Jvm.ClassFile.FieldType)).before args0 about1 = true := code_word (m := ⟨0, 0⟩) (meth := k0m0) (c := k0c0) (by decide +kernel) rfl rfl rfl (by decide +kernel)
set_option maxRecDepth 65536 in
theorem w_c5 : (Jvm.Cond.code ({ cls := "com/example/matchmaker/matchmaker/registry/ServiceId", name := "extensionOf", desc := "(Ljava/lang/String;)Ljava/lang/String;" } : Jvm.MethodName) prog_36_method_4_code (3 : Nat) (Option.some (Jvm.ClassFile.FieldType.object "java/lang/String"))).before args0 about1 = true := code_word (m := ⟨8, 0⟩) (meth := k8m0) (c := k8c0) (by decide +kernel) rfl rfl rfl (by decide +kernel)
set_option maxRecDepth 65536 in
theorem w_c6 : (Jvm.Cond.code ({ cls := "com/example/matchmaker/matchmaker/registry/ServiceId", name := "extensionDot", desc := "(Ljava/lang/String;)I" } : Jvm.MethodName) prog_36_method_6_code (1 : Nat) (Option.some Jvm.ClassFile.FieldType.int)).before args0 about1 = true := code_word (m := ⟨8, 1⟩) (meth := k8m1) (c := k8c1) (by decide +kernel) rfl rfl rfl (by decide +kernel)
set_option maxRecDepth 65536 in
theorem w_c7 : (Jvm.Cond.code ({ cls := "java/lang/String", name := "lastIndexOf", desc := "(I)I" } : Jvm.MethodName) jdk_42_method_82_code (2 : Nat) (Option.some Jvm.ClassFile.FieldType.int)).before args0 about1 = true := code_word (m := ⟨7, 5⟩) (meth := k7m5) (c := k7c5) (by decide +kernel) rfl rfl rfl (by decide +kernel)
set_option maxRecDepth 65536 in
theorem w_c8 : (Jvm.Cond.code ({ cls := "java/lang/String", name := "length", desc := "()I" } : Jvm.MethodName) jdk_42_method_54_code (1 : Nat) (Option.some Jvm.ClassFile.FieldType.int)).before args0 about1 = true := code_word (m := ⟨7, 2⟩) (meth := k7m2) (c := k7c2) (by decide +kernel) rfl rfl rfl (by decide +kernel)
set_option maxRecDepth 65536 in
theorem w_c9 : (Jvm.Cond.code ({ cls := "java/lang/String", name := "coder", desc := "()B" } : Jvm.MethodName) jdk_42_method_152_code (1 : Nat) (Option.some Jvm.ClassFile.FieldType.byte)).before args0 about1 = true := code_word (m := ⟨7, 11⟩) (meth := k7m11) (c := k7c11) (by decide +kernel) rfl rfl rfl (by decide +kernel)
set_option maxRecDepth 65536 in
theorem w_c10 : (Jvm.Cond.code ({ cls := "java/lang/String", name := "lastIndexOf", desc := "(II)I" } : Jvm.MethodName) jdk_42_method_83_code (3 : Nat) (Option.some Jvm.ClassFile.FieldType.int)).before args0 about1 = true := code_word (m := ⟨7, 6⟩) (meth := k7m6) (c := k7c6) (by decide +kernel) rfl rfl rfl (by decide +kernel)
set_option maxRecDepth 65536 in
theorem w_c11 : (Jvm.Cond.code ({ cls := "java/lang/String", name := "isLatin1", desc := "()Z" } : Jvm.MethodName) jdk_42_method_154_code (1 : Nat) (Option.some Jvm.ClassFile.FieldType.boolean)).before args0 about1 = true := code_word (m := ⟨7, 12⟩) (meth := k7m12) (c := k7c12) (by decide +kernel) rfl rfl rfl (by decide +kernel)
set_option maxRecDepth 65536 in
theorem w_c12 : (Jvm.Cond.code ({ cls := "java/lang/StringLatin1", name := "lastIndexOf", desc := "([BII)I" } : Jvm.MethodName) jdk_43_method_27_code (4 : Nat) (Option.some Jvm.ClassFile.FieldType.int)).before args0 about1 = true := code_word (m := ⟨9, 3⟩) (meth := k9m3) (c := k9c3) (by decide +kernel) rfl rfl rfl (by decide +kernel)
set_option maxRecDepth 65536 in
theorem w_c13 : (Jvm.Cond.code ({ cls := "java/lang/StringLatin1", name := "canEncode", desc := "(I)Z" } : Jvm.MethodName) jdk_43_method_4_code (1 : Nat) (Option.some Jvm.ClassFile.FieldType.boolean)).before args0 about1 = true := code_word (m := ⟨9, 2⟩) (meth := k9m2) (c := k9c2) (by decide +kernel) rfl rfl rfl (by decide +kernel)
set_option maxRecDepth 65536 in
theorem w_c14 : (Jvm.Cond.code ({ cls := "java/lang/Math", name := "min", desc := "(II)I" } : Jvm.MethodName) jdk_29_method_69_code (2 : Nat) (Option.some Jvm.ClassFile.FieldType.int)).before args0 about1 = true := code_word (m := ⟨10, 1⟩) (meth := k10m1) (c := k10c1) (by decide +kernel) rfl rfl rfl (by decide +kernel)
set_option maxRecDepth 65536 in
theorem w_c15 : (Jvm.Cond.code ({ cls := "java/lang/String", name := "isEmpty", desc := "()Z" } : Jvm.MethodName) jdk_42_method_55_code (1 : Nat) (Option.some Jvm.ClassFile.FieldType.boolean)).before args0 about1 = true := code_word (m := ⟨7, 3⟩) (meth := k7m3) (c := k7c3) (by decide +kernel) rfl rfl rfl (by decide +kernel)
set_option maxRecDepth 65536 in
theorem w_c16 : (Jvm.Cond.code ({ cls := "java/lang/StringUTF16", name := "compress", desc := "([CII)[B" } : Jvm.MethodName) jdk_52_method_16_code (6 : Nat) (Option.some (Jvm.ClassFile.FieldType.array Jvm.ClassFile.FieldType.byte))).before args0 about1 = true := code_word (m := ⟨11, 2⟩) (meth := k11m2) (c := k11c2) (by decide +kernel) rfl rfl rfl (by decide +kernel)
set_option maxRecDepth 65536 in
theorem w_c17 : (Jvm.Cond.code ({ cls := "java/lang/StringUTF16", name := "compress", desc := "([CI[BII)I" } : Jvm.MethodName) jdk_52_method_21_code (7 : Nat) (Option.some Jvm.ClassFile.FieldType.int)).before args0 about1 = true := code_word (m := ⟨11, 3⟩) (meth := k11m3) (c := k11c3) (by decide +kernel) rfl rfl rfl (by decide +kernel)
set_option maxRecDepth 65536 in
theorem w_c18 : (Jvm.Cond.code ({ cls := "java/lang/StringUTF16", name := "coderFromArrayLen", desc := "([BI)B" } : Jvm.MethodName) jdk_52_method_15_code (2 : Nat) (Option.some Jvm.ClassFile.FieldType.byte)).before args0 about1 = true := code_word (m := ⟨11, 1⟩) (meth := k11m1) (c := k11c1) (by decide +kernel) rfl rfl rfl (by decide +kernel)
set_option maxRecDepth 65536 in
theorem w_c19 : (Jvm.Cond.code ({ cls := "java/lang/String", name := "substring", desc := "(I)Ljava/lang/String;" } : Jvm.MethodName) jdk_42_method_91_code (2 : Nat) (Option.some (Jvm.ClassFile.FieldType.object "java/lang/String"))).before args0 about1 = true := code_word (m := ⟨7, 7⟩) (meth := k7m7) (c := k7c7) (by decide +kernel) rfl rfl rfl (by decide +kernel)
set_option maxRecDepth 65536 in
theorem w_c20 : (Jvm.Cond.code ({ cls := "java/lang/String", name := "substring", desc := "(II)Ljava/lang/String;" } : Jvm.MethodName) jdk_42_method_92_code (5 : Nat) (Option.some (Jvm.ClassFile.FieldType.object "java/lang/String"))).before args0 about1 = true := code_word (m := ⟨7, 8⟩) (meth := k7m8) (c := k7c8) (by decide +kernel) rfl rfl rfl (by decide +kernel)
set_option maxRecDepth 65536 in
theorem w_c21 : (Jvm.Cond.code ({ cls := "java/lang/String", name := "checkBoundsBeginEnd", desc := "(III)V" } : Jvm.MethodName) jdk_42_method_158_code (3 : Nat) (Option.none : Option Jvm.ClassFile.FieldType)).before args0 about1 = true := code_word (m := ⟨7, 14⟩) (meth := k7m14) (c := k7c14) (by decide +kernel) rfl rfl rfl (by decide +kernel)
set_option maxRecDepth 65536 in
theorem w_c22 : (Jvm.Cond.code ({ cls := "jdk/internal/util/Preconditions", name := "checkFromToIndex", desc := "(IIILjava/util/function/BiFunction;)I" } : Jvm.MethodName) jdk_41_method_12_code (4 : Nat) (Option.some Jvm.ClassFile.FieldType.int)).before args0 about1 = true := code_word (m := ⟨12, 2⟩) (meth := k12m2) (c := k12c2) (by decide +kernel) rfl rfl rfl (by decide +kernel)
set_option maxRecDepth 65536 in
theorem w_c23 : (Jvm.Cond.code ({ cls := "java/lang/StringLatin1", name := "newString", desc := "([BII)Ljava/lang/String;" } : Jvm.MethodName) jdk_43_method_47_code (3 : Nat) (Option.some (Jvm.ClassFile.FieldType.object "java/lang/String"))).before args0 about1 = true := code_word (m := ⟨9, 4⟩) (meth := k9m4) (c := k9c4) (by decide +kernel) rfl rfl rfl (by decide +kernel)
set_option maxRecDepth 65536 in
theorem w_c24 : (Jvm.Cond.code ({ cls := "java/util/Arrays", name := "copyOfRange", desc := "([BII)[B" } : Jvm.MethodName) jdk_65_method_132_code (3 : Nat) (Option.some (Jvm.ClassFile.FieldType.array Jvm.ClassFile.FieldType.byte))).before args0 about1 = true := code_word (m := ⟨13, 2⟩) (meth := k13m2) (c := k13c2) (by decide +kernel) rfl rfl rfl (by decide +kernel)
set_option maxRecDepth 65536 in
theorem w_c25 : (Jvm.Cond.code ({ cls := "java/util/Arrays", name := "copyOfRangeByte", desc := "([BII)[B" } : Jvm.MethodName) jdk_65_method_133_code (5 : Nat) (Option.some (Jvm.ClassFile.FieldType.array Jvm.ClassFile.FieldType.byte))).before args0 about1 = true := code_word (m := ⟨13, 3⟩) (meth := k13m3) (c := k13c3) (by decide +kernel) rfl rfl rfl (by decide +kernel)
set_option maxRecDepth 65536 in
theorem w_c26 : (Jvm.Cond.code ({ cls := "java/util/Arrays", name := "checkLength", desc := "(II)V" } : Jvm.MethodName) jdk_65_method_131_code (2 : Nat) (Option.none : Option Jvm.ClassFile.FieldType)).before args0 about1 = true := code_word (m := ⟨13, 1⟩) (meth := k13m1) (c := k13c1) (by decide +kernel) rfl rfl rfl (by decide +kernel)
set_option maxRecDepth 65536 in
theorem w_c27 : (Jvm.Cond.code ({ cls := "java/lang/String", name := "<init>", desc := "([BB)V" } : Jvm.MethodName) jdk_42_method_151_code (3 : Nat) (Option.none : Option Jvm.ClassFile.FieldType)).before args0 about1 = true := code_word (m := ⟨7, 10⟩) (meth := k7m10) (c := k7c10) (by decide +kernel) rfl rfl rfl (by decide +kernel)
set_option maxRecDepth 65536 in
theorem w_c28 : (Jvm.Cond.code ({ cls := "java/lang/String", name := "charAt", desc := "(I)C" } : Jvm.MethodName) jdk_42_method_56_code (2 : Nat) (Option.some Jvm.ClassFile.FieldType.char)).before args0 about1 = true := code_word (m := ⟨7, 4⟩) (meth := k7m4) (c := k7c4) (by decide +kernel) rfl rfl rfl (by decide +kernel)
set_option maxRecDepth 65536 in
theorem w_c29 : (Jvm.Cond.code ({ cls := "java/lang/StringLatin1", name := "charAt", desc := "([BI)C" } : Jvm.MethodName) jdk_43_method_2_code (2 : Nat) (Option.some Jvm.ClassFile.FieldType.char)).before args0 about1 = true := code_word (m := ⟨9, 1⟩) (meth := k9m1) (c := k9c1) (by decide +kernel) rfl rfl rfl (by decide +kernel)
set_option maxRecDepth 65536 in
theorem w_c30 : (Jvm.Cond.code ({ cls := "java/lang/String", name := "checkIndex", desc := "(II)V" } : Jvm.MethodName) jdk_42_method_155_code (2 : Nat) (Option.none : Option Jvm.ClassFile.FieldType)).before args0 about1 = true := code_word (m := ⟨7, 13⟩) (meth := k7m13) (c := k7c13) (by decide +kernel) rfl rfl rfl (by decide +kernel)
set_option maxRecDepth 65536 in
theorem w_c31 : (Jvm.Cond.code ({ cls := "jdk/internal/util/Preconditions", name := "checkIndex", desc := "(IILjava/util/function/BiFunction;)I" } : Jvm.MethodName) jdk_41_method_11_code (3 : Nat) (Option.some Jvm.ClassFile.FieldType.int)).before args0 about1 = true := code_word (m := ⟨12, 1⟩) (meth := k12m1) (c := k12c1) (by decide +kernel) rfl rfl rfl (by decide +kernel)
set_option maxRecDepth 65536 in
theorem w_c32 : (Jvm.Cond.code ({ cls := "com/example/matchmaker/matchmaker/registry/ServiceIdExtensionOfPinLaw", name := "pick", desc := "(ICCCC)C" } : Jvm.MethodName) method_3_code (5 : Nat) (Option.some Jvm.ClassFile.FieldType.char)).before args0 about1 = true := code_word (m := ⟨1, 2⟩) (meth := k1m2) (c := k1c2) (by decide +kernel) rfl rfl rfl (by decide +kernel)
def codes1 : List Jvm.Cond := [Jvm.Cond.code x code maxLocals ret, Jvm.Cond.code ({ cls := "com/example/matchmaker/matchmaker/registry/ServiceIdExtensionOfPinLaw", name := "ch", desc := "(I)C" } : Jvm.MethodName) method_2_code (2 : Nat) (Option.some Jvm.ClassFile.FieldType.char), Jvm.Cond.code ({ cls := "java/lang/String", name := "<init>", desc := "([C)V" } : Jvm.MethodName) jdk_42_method_3_code (2 : Nat) (Option.none : Option Jvm.ClassFile.FieldType), Jvm.Cond.code ({ cls := "java/lang/String", name := "<init>", desc := "([CIILjava/lang/Void;)V" } : Jvm.MethodName) jdk_42_method_149_code (6 : Nat) (Option.none : Option Jvm.ClassFile.FieldType), Jvm.Cond.code ({ cls := "java/lang/Object", name := "<init>", desc := "()V" } : Jvm.MethodName) object_method_1_code (1 : Nat) (Option.none : Option Jvm.ClassFile.FieldType), Jvm.Cond.code ({ cls := "com/example/matchmaker/matchmaker/registry/ServiceId", name := "extensionOf", desc := "(Ljava/lang/String;)Ljava/lang/String;" } : Jvm.MethodName) prog_36_method_4_code (3 : Nat) (Option.some (Jvm.ClassFile.FieldType.object "java/lang/String")), Jvm.Cond.code ({ cls := "com/example/matchmaker/matchmaker/registry/ServiceId", name := "extensionDot", desc := "(Ljava/lang/String;)I" } : Jvm.MethodName) prog_36_method_6_code (1 : Nat) (Option.some Jvm.ClassFile.FieldType.int), Jvm.Cond.code ({ cls := "java/lang/String", name := "lastIndexOf", desc := "(I)I" } : Jvm.MethodName) jdk_42_method_82_code (2 : Nat) (Option.some Jvm.ClassFile.FieldType.int), Jvm.Cond.code ({ cls := "java/lang/String", name := "length", desc := "()I" } : Jvm.MethodName) jdk_42_method_54_code (1 : Nat) (Option.some Jvm.ClassFile.FieldType.int), Jvm.Cond.code ({ cls := "java/lang/String", name := "coder", desc := "()B" } : Jvm.MethodName) jdk_42_method_152_code (1 : Nat) (Option.some Jvm.ClassFile.FieldType.byte), Jvm.Cond.code ({ cls := "java/lang/String", name := "lastIndexOf", desc := "(II)I" } : Jvm.MethodName) jdk_42_method_83_code (3 : Nat) (Option.some Jvm.ClassFile.FieldType.int), Jvm.Cond.code ({ cls := "java/lang/String", name := "isLatin1", desc := "()Z" } : Jvm.MethodName) jdk_42_method_154_code (1 : Nat) (Option.some Jvm.ClassFile.FieldType.boolean), Jvm.Cond.code ({ cls := "java/lang/StringLatin1", name := "lastIndexOf", desc := "([BII)I" } : Jvm.MethodName) jdk_43_method_27_code (4 : Nat) (Option.some Jvm.ClassFile.FieldType.int), Jvm.Cond.code ({ cls := "java/lang/StringLatin1", name := "canEncode", desc := "(I)Z" } : Jvm.MethodName) jdk_43_method_4_code (1 : Nat) (Option.some Jvm.ClassFile.FieldType.boolean), Jvm.Cond.code ({ cls := "java/lang/Math", name := "min", desc := "(II)I" } : Jvm.MethodName) jdk_29_method_69_code (2 : Nat) (Option.some Jvm.ClassFile.FieldType.int), Jvm.Cond.code ({ cls := "java/lang/String", name := "isEmpty", desc := "()Z" } : Jvm.MethodName) jdk_42_method_55_code (1 : Nat) (Option.some Jvm.ClassFile.FieldType.boolean), Jvm.Cond.code ({ cls := "java/lang/StringUTF16", name := "compress", desc := "([CII)[B" } : Jvm.MethodName) jdk_52_method_16_code (6 : Nat) (Option.some (Jvm.ClassFile.FieldType.array Jvm.ClassFile.FieldType.byte)), Jvm.Cond.code ({ cls := "java/lang/StringUTF16", name := "compress", desc := "([CI[BII)I" } : Jvm.MethodName) jdk_52_method_21_code (7 : Nat) (Option.some Jvm.ClassFile.FieldType.int), Jvm.Cond.code ({ cls := "java/lang/StringUTF16", name := "coderFromArrayLen", desc := "([BI)B" } : Jvm.MethodName) jdk_52_method_15_code (2 : Nat) (Option.some Jvm.ClassFile.FieldType.byte), Jvm.Cond.code ({ cls := "java/lang/String", name := "substring", desc := "(I)Ljava/lang/String;" } : Jvm.MethodName) jdk_42_method_91_code (2 : Nat) (Option.some (Jvm.ClassFile.FieldType.object "java/lang/String")), Jvm.Cond.code ({ cls := "java/lang/String", name := "substring", desc := "(II)Ljava/lang/String;" } : Jvm.MethodName) jdk_42_method_92_code (5 : Nat) (Option.some (Jvm.ClassFile.FieldType.object "java/lang/String")), Jvm.Cond.code ({ cls := "java/lang/String", name := "checkBoundsBeginEnd", desc := "(III)V" } : Jvm.MethodName) jdk_42_method_158_code (3 : Nat) (Option.none : Option Jvm.ClassFile.FieldType), Jvm.Cond.code ({ cls := "jdk/internal/util/Preconditions", name := "checkFromToIndex", desc := "(IIILjava/util/function/BiFunction;)I" } : Jvm.MethodName) jdk_41_method_12_code (4 : Nat) (Option.some Jvm.ClassFile.FieldType.int), Jvm.Cond.code ({ cls := "java/lang/StringLatin1", name := "newString", desc := "([BII)Ljava/lang/String;" } : Jvm.MethodName) jdk_43_method_47_code (3 : Nat) (Option.some (Jvm.ClassFile.FieldType.object "java/lang/String")), Jvm.Cond.code ({ cls := "java/util/Arrays", name := "copyOfRange", desc := "([BII)[B" } : Jvm.MethodName) jdk_65_method_132_code (3 : Nat) (Option.some (Jvm.ClassFile.FieldType.array Jvm.ClassFile.FieldType.byte)), Jvm.Cond.code ({ cls := "java/util/Arrays", name := "copyOfRangeByte", desc := "([BII)[B" } : Jvm.MethodName) jdk_65_method_133_code (5 : Nat) (Option.some (Jvm.ClassFile.FieldType.array Jvm.ClassFile.FieldType.byte)), Jvm.Cond.code ({ cls := "java/util/Arrays", name := "checkLength", desc := "(II)V" } : Jvm.MethodName) jdk_65_method_131_code (2 : Nat) (Option.none : Option Jvm.ClassFile.FieldType), Jvm.Cond.code ({ cls := "java/lang/String", name := "<init>", desc := "([BB)V" } : Jvm.MethodName) jdk_42_method_151_code (3 : Nat) (Option.none : Option Jvm.ClassFile.FieldType), Jvm.Cond.code ({ cls := "java/lang/String", name := "charAt", desc := "(I)C" } : Jvm.MethodName) jdk_42_method_56_code (2 : Nat) (Option.some Jvm.ClassFile.FieldType.char), Jvm.Cond.code ({ cls := "java/lang/StringLatin1", name := "charAt", desc := "([BI)C" } : Jvm.MethodName) jdk_43_method_2_code (2 : Nat) (Option.some Jvm.ClassFile.FieldType.char), Jvm.Cond.code ({ cls := "java/lang/String", name := "checkIndex", desc := "(II)V" } : Jvm.MethodName) jdk_42_method_155_code (2 : Nat) (Option.none : Option Jvm.ClassFile.FieldType), Jvm.Cond.code ({ cls := "jdk/internal/util/Preconditions", name := "checkIndex", desc := "(IILjava/util/function/BiFunction;)I" } : Jvm.MethodName) jdk_41_method_11_code (3 : Nat) (Option.some Jvm.ClassFile.FieldType.int), Jvm.Cond.code ({ cls := "com/example/matchmaker/matchmaker/registry/ServiceIdExtensionOfPinLaw", name := "pick", desc := "(ICCCC)C" } : Jvm.MethodName) method_3_code (5 : Nat) (Option.some Jvm.ClassFile.FieldType.char)]
set_option maxRecDepth 65536 in
theorem codes_eq : words1.filter isCode = codes1 := rfl
theorem w_codes : ∀ c ∈ words1.filter isCode, c.before args0 about1 = true := by
  rw [codes_eq]
  intro c hc
  simp only [codes1, List.mem_cons, List.not_mem_nil, or_false] at hc
  rcases hc with rfl | rfl | rfl | rfl | rfl | rfl | rfl | rfl | rfl | rfl | rfl | rfl | rfl | rfl | rfl | rfl | rfl | rfl | rfl | rfl | rfl | rfl | rfl | rfl | rfl | rfl | rfl | rfl | rfl | rfl | rfl | rfl | rfl
  · exact w_c0
  · exact w_c1
  · exact w_c2
  · exact w_c3
  · exact w_c4
  · exact w_c5
  · exact w_c6
  · exact w_c7
  · exact w_c8
  · exact w_c9
  · exact w_c10
  · exact w_c11
  · exact w_c12
  · exact w_c13
  · exact w_c14
  · exact w_c15
  · exact w_c16
  · exact w_c17
  · exact w_c18
  · exact w_c19
  · exact w_c20
  · exact w_c21
  · exact w_c22
  · exact w_c23
  · exact w_c24
  · exact w_c25
  · exact w_c26
  · exact w_c27
  · exact w_c28
  · exact w_c29
  · exact w_c30
  · exact w_c31
  · exact w_c32
set_option maxRecDepth 65536 in
theorem w_t1 : (words1.take 24).all (fun c => isCode c || c.before args0 about1) = true := by decide +kernel
set_option maxRecDepth 65536 in
theorem w_t2 : ((words1.drop 24).take 24).all (fun c => isCode c || c.before args0 about1) = true := by decide +kernel
set_option maxRecDepth 65536 in
theorem w_t3 : (((words1.drop 24).drop 24).take 24).all (fun c => isCode c || c.before args0 about1) = true := by decide +kernel
set_option maxRecDepth 65536 in
theorem w_t4 : ((((words1.drop 24).drop 24).drop 24).take 24).all (fun c => isCode c || c.before args0 about1) = true := by decide +kernel
set_option maxRecDepth 65536 in
theorem w_t5 : (((((words1.drop 24).drop 24).drop 24).drop 24).take 24).all (fun c => isCode c || c.before args0 about1) = true := by decide +kernel
set_option maxRecDepth 65536 in
theorem w_t6 : ((((((words1.drop 24).drop 24).drop 24).drop 24).drop 24).take 24).all (fun c => isCode c || c.before args0 about1) = true := by decide +kernel
set_option maxRecDepth 65536 in
theorem w_t7 : ((((((words1.drop 24).drop 24).drop 24).drop 24).drop 24).drop 24).all (fun c => isCode c || c.before args0 about1) = true := by decide +kernel
theorem w_tables : (allAtoms (Jvm.Cond.code x code maxLocals ret :: tables_1)).before args0 about1 = true := by
  rw [allAtoms_all]
  show words1.all (fun c => c.before args0 about1) = true
  refine all_split ?_ w_codes
  rw [← List.take_append_drop 24 words1, List.all_append, w_t1, ← List.take_append_drop 24 (words1.drop 24), List.all_append, w_t2, ← List.take_append_drop 24 ((words1.drop 24).drop 24), List.all_append, w_t3, ← List.take_append_drop 24 (((words1.drop 24).drop 24).drop 24), List.all_append, w_t4, ← List.take_append_drop 24 ((((words1.drop 24).drop 24).drop 24).drop 24), List.all_append, w_t5, ← List.take_append_drop 24 (((((words1.drop 24).drop 24).drop 24).drop 24).drop 24), List.all_append, w_t6, w_t7]
  rfl
set_option maxRecDepth 65536 in
theorem w_rest : rest_1_c.before args0 about1 = true := by decide +kernel
set_option maxRecDepth 65536 in
theorem w_case : (Jvm.Cond.and given_1 narrow_1).before args0 about1 = true := by decide +kernel
set_option maxRecDepth 65536 in
theorem w_consts : constsHeld consts_1 about1 := Jvm.Lit.constsHeldB_iff.mp (by decide +kernel)
theorem w_applies : (headSpec (Jvm.Cond.code x code maxLocals ret :: tables_1) room_1).applies x e0.platform about1 = true :=
  (Spec.applies_iff w_frames).mpr ⟨w_running, w_runnable, w_alone, w_named, w_hears, w_ripe, w_room, w_tables⟩
theorem atStart : AtStart classFile x code maxLocals ret World_1 tables_1 room_1 Calls_1 rest_1 Pre_1 launch0 p0 e0 about1 theMethod args0 below0 :=
  ⟨lists_1, trivial, launch0.admits_env _ _ _, launch0.least_env, fairChoices_fair.cas, fairChoices_fair.clock, w_frames, w_args, w_heap, w_applies, ⟨w_consts, trivial⟩, w_rest, w_case⟩
end start1
theorem witness_1 : WitnessClaimed_1 := ⟨start1.p0, start1.e0, start1.about1, start1.theMethod, start1.args0, start1.below0, start1.atStart⟩
end Jvm.Pilot.@@N@@
