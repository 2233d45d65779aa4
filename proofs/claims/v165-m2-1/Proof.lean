import JvmDerived
import JvmDerived.Pilot.@@N@@Statement
import JvmDerived.Pilot.@@N@@Code
set_option linter.unusedVariables false
set_option linter.unusedSimpArgs false
namespace Jvm.RoadKit
section OwnHeaps
variable {h h' h2 hm : Heap} {ws : List Addr}
theorem Ext.oRefl (h : Heap) : Ext h h := ⟨Nat.le_refl _, fun _ _ q => q⟩
theorem Ext.oTrans (A : Ext h h') (B : Ext h' h2) : Ext h h2 := ⟨Nat.le_trans A.1 B.1, fun x c q => B.2 x c (A.2 x c q)⟩
theorem Keep.oExt (K : Keep h h' []) : Ext h h' := ⟨K.1, fun x c q => K.2.1 x c q (fun z => nomatch z)⟩
theorem Ext.oKeepOf (E : Ext h h') (ws : List Addr) : Keep h h' ws := (Keep.refl h ws).ext E
theorem Ext.oKeep (A : Ext hm h) (K : Keep h h' ws) (q : ∀ x ∈ ws, hm.size ≤ x) : Ext hm h' :=
  ⟨Nat.le_trans A.1 K.1, fun x c hx => K.2.1 x c (A.2 x c hx) fun z => absurd (Array.getElem?_eq_some_iff.mp hx).1 (Nat.not_lt.mpr (q x z))⟩
end OwnHeaps
end Jvm.RoadKit
namespace Jvm.OwnKit
open Sem ClassFile Op Lib Jvm.Stand Jvm.Free Jvm.LawKit Jvm.RoadKit Bundle
/-! the author's own layer: a walk as a chain of goals 'from this frame the body ends right' -/
/-- from this frame on the body comes to an end of which Q holds -/
def Goes (tb : Tables) (e : Env) (below : List Frame) (Q : Outcome → State → Prop) (T : State) (g : JFrame) : Prop :=
  ∃ s₂ o, Steps tb e below (T.setTop g) s₂ ∧ s₂.status = .running ∧ Ended s₂ below o ∧ Q o s₂
section Core
variable {tb : Tables} {e : Env} {below : List Frame} {Q : Outcome → State → Prop} {T T' : State} {g g' : JFrame}
theorem Goes.go (st : ∀ t, Steps tb e below (T'.setTop g') t → Steps tb e below (T.setTop g) t) (k : Goes tb e below Q T' g') : Goes tb e below Q T g := by
  obtain ⟨s₂, o, h1, h2⟩ := k
  exact ⟨s₂, o, st _ h1, h2⟩
theorem Goes.via (st : Steps tb e below (T.setTop g) (T'.setTop g')) (k : Goes tb e below Q T' g') : Goes tb e below Q T g := Goes.go (fun _ h => st.trans h) k
theorem Goes.cast {g1 : JFrame} (q : g = g1) (k : Goes tb e below Q T g1) : Goes tb e below Q T g := q ▸ k
end Core
/-! heaps -/
section Heaps
variable {Z : State} {EL : List (String × Nat)} {vm vm0 : Vm} {h h' h0 h2 hm : Heap} {ws : List Addr} {a b : Addr}
/-- safe under whatever alike tables -/
def SafeA (Z : State) (EL : List (String × Nat)) (h : Heap) (x : Addr) : Prop := ∀ vm : Vm, Z.vm.Alike vm → Safe Z EL vm h x
theorem SafeA.exa {C : String} (E : Exa Z h a C) (h1 : C ≠ "java/lang/String") (h2 : C ≠ "[B") : SafeA Z EL h a := fun _ hal => Safe.exa hal E h1 h2
theorem SafeA.arv {k : ClassId} {ty : FieldType} {z : Int32} {vs : List Value} {dv : Value} (A : Arv Z h a k ty z vs dv) (ht : ty ≠ .byte) : SafeA Z EL h a := fun _ hal => Safe.arv hal A ht
theorem SafeA.nil : SafeA Z [] h a := fun _ _ B => by obtain ⟨p, hp, -⟩ := B; cases hp
/-- how the mark goes on: it stays where only younger cells were written; or it is set anew, where what was written is younger or safe -/
def Mark (Z : State) (EL : List (String × Nat)) (hm h : Heap) (ws : List Addr) (h' hm' : Heap) : Prop :=
  (hm' = hm ∧ ∀ x ∈ ws, hm.size ≤ x) ∨ (hm' = h' ∧ ∀ x ∈ ws, hm.size ≤ x ∨ SafeA Z EL h x)
theorem Mark.stay (q : ∀ x ∈ ws, hm.size ≤ x) : Mark Z EL hm h ws h' hm := Or.inl ⟨rfl, q⟩
theorem Mark.anew (q : ∀ x ∈ ws, hm.size ≤ x ∨ SafeA Z EL h x) : Mark Z EL hm h ws h' h' := Or.inr ⟨rfl, q⟩
theorem mark_go {vs : Vm} {hs hm' : Heap} (hal : Z.vm.Alike vm0) (C : CHr Z EL vs hs vm0 hm) (E : Ext hm h) (K : Keep h h' ws) (M : Mark Z EL hm h ws h' hm') : CHr Z EL vs hs vm0 hm' ∧ Ext hm' h' := by
  rcases M with ⟨rfl, q⟩ | ⟨rfl, q⟩
  · exact ⟨C, E.oKeep K q⟩
  · have C1 := C.trans (CHr.ext E C.1)
    exact ⟨C1.trans (CHr.keep K (fun x hx => (q x hx).elim (fun y => Safe.ext E C.1 (Safe.new y)) (fun y => y _ hal)) C1.1), Ext.oRefl _⟩
end Heaps
/-! the walk -/
/-- where a walk stands: N: it may not have interned; hm: the mark (literals that the tables book lie in it); h: the heap -/
def Wk (N : Prop) (p : Program) (l : Launch) (e : Env) (R : Room) (s : State) (m : MethodId) (args : Array Value) (below : List Frame) (meth : Method) (c : Code) (Z : State) (own : String) (EL : List (String × Nat)) (hm : Heap) (T : State) (h : Heap) (cells slots : Nat) : Prop :=
  ∃ (vm0 : Vm) (locs : List Loc) (k0 : Nat), (N → vm0 = s.vm) ∧ Stand p l e R (s.setVm vm0) m args below meth c T locs cells slots ∧ T.heap = h ∧ p.tables.exec = Jvm.exec ∧ Z.Warmed39 vm0 ∧ vm0.findClass own = some m.cls ∧ Fr Z.heap.size locs ∧ s.Since vm0 k0 ∧ k0 ≤ h.size ∧ CHr Z EL s.vm s.heap vm0 hm ∧ Ext hm h ∧ Ext Z.heap h
/-- the two kinds of end -/
def EndN (Z s : State) (C S : Nat) (Qv : Option Value → Heap → Prop) (o : Outcome) (U : State) : Prop := ∃ v L, o = .returned v ∧ (Qv v U.heap ∧ Fr Z.heap.size L) ∧ FrameEnd s o U L C S
def EndS (Z s : State) (EL : List (String × Nat)) (C S : Nat) (Qv : Option Value → Heap → Prop) (o : Outcome) (U : State) : Prop := ∃ v L, o = .returned v ∧ (Qv v U.heap ∧ Fr Z.heap.size L) ∧ CHr Z EL s.vm s.heap U.vm U.heap ∧ ReturnedEndW s o U L C S
/-- a callee's contract: it interns nothing -/
def CtrN (l : Launch) (Z : State) (y : MethodName) (bytes : ByteArray) (maxL : Nat) (ret : Option FieldType) (rm : Room) (as' : Array Value) (h0 : Heap) (Qv : Option Value → Heap → Prop) : Prop :=
  ∀ ws, MetFree l y (head1 (Cond.code y bytes maxL ret :: ws) rm) (fun a U => a = as' ∧ Z.Warmed39 U.vm ∧ U.heap = h0) (fun _ _ _ _ _ => True) (fun _ U o U' => EndN Z U rm.cells rm.slots Qv o U')
/-- a callee's contract: it may intern -/
def CtrS (l : Launch) (Z : State) (EL : List (String × Nat)) (y : MethodName) (bytes : ByteArray) (maxL : Nat) (ret : Option FieldType) (rm : Room) (as' : Array Value) (h0 : Heap) (Qv : Option Value → Heap → Prop) : Prop :=
  ∀ ws, MetFree l y (head1 (Cond.code y bytes maxL ret :: ws) rm) (fun a U => a = as' ∧ Z.Warmed39 U.vm ∧ U.heap = h0 ∧ CHv Z EL U.vm h0) (fun _ _ _ _ _ => True) (fun _ U o U' => EndS Z U EL rm.cells rm.slots Qv o U')
section Walk
variable {N : Prop} {p : Program} {l : Launch} {e : Env} {R : Room} {s : State} {m : MethodId} {args : Array Value} {below : List Frame} {meth : Method} {c : Code} {Z : State} {a0 : Array Value} {own : String} {EL : List (String × Nat)} {hm : Heap} {T : State} {h : Heap} {cells slots : Nat} {Q : Outcome → State → Prop} {g : JFrame}
theorem Wk.here (X : Wk N p l e R s m args below meth c Z own EL hm T h cells slots) : At T m c below := by obtain ⟨_, _, _, _, X, _⟩ := X; exact X.here
theorem Wk.ex (X : Wk N p l e R s m args below meth c Z own EL hm T h cells slots) : p.tables.exec = Jvm.exec := by obtain ⟨_, _, _, _, _, _, q, _⟩ := X; exact q
theorem Wk.ext (X : Wk N p l e R s m args below meth c Z own EL hm T h cells slots) : Ext hm h := by obtain ⟨_, _, _, _, _, _, _, _, _, _, _, _, _, q, _⟩ := X; exact q
theorem Wk.old (X : Wk N p l e R s m args below meth c Z own EL hm T h cells slots) : Ext Z.heap h := by obtain ⟨_, _, _, _, _, _, _, _, _, _, _, _, _, _, q⟩ := X; exact q
theorem Wk.free (X : Wk N p l e R s m args below meth c Z own EL hm T h cells slots) : Wk False p l e R s m args below meth c Z own EL hm T h cells slots := by
  obtain ⟨vm0, locs, k0, _, r⟩ := X; exact ⟨vm0, locs, k0, fun q => q.elim, r⟩
/-- the mark may be set anew at any time -/
theorem Wk.mark (X : Wk N p l e R s m args below meth c Z own EL hm T h cells slots) : Wk N p l e R s m args below meth c Z own EL h T h cells slots := by
  obtain ⟨vm0, locs, k0, h1, h2, h3, h4, h5, h6, h7, h8, h9, h10, h11, h12⟩ := X
  exact ⟨vm0, locs, k0, h1, h2, h3, h4, h5, h6, h7, h8, h9, h10.trans (CHr.ext h11 h10.1), Ext.oRefl _, h12⟩
theorem Wk.mono {c' n' : Nat} (X : Wk N p l e R s m args below meth c Z own EL hm T h cells slots) (hc : cells ≤ c') (hn : slots ≤ n') : Wk N p l e R s m args below meth c Z own EL hm T h c' n' := by
  obtain ⟨vm0, locs, k0, h1, h2, r⟩ := X
  exact ⟨vm0, locs, k0, h1, h2.mono hc hn, r⟩
theorem Wk.start {s₁ : State} {h0 : Heap} (X : Stand p l e R s m args below meth c s₁ [] 0 0) (e0 : s₁.heap = h0) (es : s.heap = h0) (hx : p.tables.exec = Jvm.exec) (hZ : Z.Warmed39 s.vm) (hown : s.vm.findClass own = some m.cls) (H : CHv Z EL s.vm h0) (hO : Ext Z.heap h0) :
    Wk N p l e R s m args below meth c Z own EL h0 s₁ h0 0 0 :=
  ⟨s.vm, [], s.heap.size, fun _ => rfl, X, e0, hx, hZ, hown, Fr.nil _, (State.WarmedH.refl s).since _, by rw [es]; exact Nat.le_refl _, by rw [es]; exact CHr.refl H, Ext.oRefl _, hO⟩
/-! leaving -/
theorem Goes.outN {C S : Nat} {Qv : Option Value → Heap → Prop} (X : Wk True p l e R s m args below meth c Z own EL hm T h cells slots) {v : Option Value} (hv : meth.sig.returnType = none → v = none) (hlk : meth.locks = false)
    (st : ∀ fs, (∀ (f : JFrame) (acts : List Action), f.method = m → f.locked = none → f.entered = [] → (doReturn e (T.setTop f) acts v).1 = T.setFrames fs) → Steps p.tables e below (T.setTop g) (T.setFrames fs))
    (hq : Qv v h) (hc : cells ≤ C) (hs : slots ≤ S) : Goes p.tables e below (EndN Z s C S Qv) T g := by
  obtain ⟨vm0, locs, k0, h1, X, h3, h4, h5, h6, h7, h8, h9, h10, h11, h12⟩ := X
  obtain rfl := h1 trivial
  obtain ⟨fs, hr, hrun, hended, hW, hsame⟩ := X.leave (v := v) hv hlk
  exact ⟨_, _, st fs hr, hrun, hended, v, locs, rfl, ⟨by rw [← h3] at hq; exact hq, h7⟩, ⟨v, rfl⟩, hW, hsame.mono hc hs⟩
theorem Goes.outS {C S : Nat} {Qv : Option Value → Heap → Prop} (X : Wk N p l e R s m args below meth c Z own EL hm T h cells slots) (hEL : EW Z a0 EL) {v : Option Value} (hv : meth.sig.returnType = none → v = none) (hlk : meth.locks = false)
    (st : ∀ fs, (∀ (f : JFrame) (acts : List Action), f.method = m → f.locked = none → f.entered = [] → (doReturn e (T.setTop f) acts v).1 = T.setFrames fs) → Steps p.tables e below (T.setTop g) (T.setFrames fs))
    (hq : Qv v h) (hc : cells ≤ C) (hs : slots ≤ S) : Goes p.tables e below (EndS Z s EL C S Qv) T g := by
  obtain ⟨vm0, locs, k0, h1, X, h3, h4, h5, h6, h7, h8, h9, h10, h11, h12⟩ := X
  have h9' : k0 ≤ T.heap.size := by rw [h3]; exact h9
  obtain ⟨fs, hr, hrun, hended, r1, r2, r3, r4⟩ := X.leaveW h8 h9' (v := v) hv hlk
  have C1 := h10.trans (CHr.ext h11 h10.1)
  have C2 : CHr Z EL vm0 h T.vm h := CHv.at X h5 hEL C1.1
  refine ⟨_, _, st fs hr, hrun, hended, v, locs, rfl, ⟨by rw [← h3] at hq; exact hq, h7⟩, ?_, r1, r2, r3, r4.mono hc hs⟩
  have C3 := C1.trans C2
  rw [← h3] at C3
  exact C3
/-- the six returns; t: what is owed at the end (EndN or EndS) by outN, outS -/
theorem st_int {vm0 : Vm} {locs : List Loc} (X : Stand p l e R (s.setVm vm0) m args below meth c T locs cells slots) (hx : p.tables.exec = Jvm.exec) {pc : Nat} {Ls : Array Slot} {z : Int32} {rest : List Value} (hret : meth.sig.returnType = some .int) (hd : decode c.code pc = .ok (.ireturn, 1)) :
    ∀ fs, (∀ (f : JFrame) (acts : List Action), f.method = m → f.locked = none → f.entered = [] → (doReturn e (T.setTop f) acts (some (.int z))).1 = T.setFrames fs) → Steps p.tables e below (T.setTop (mkF m pc Ls (.int z :: rest))) (T.setFrames fs) :=
  fun fs hl => retOut X hx hret rfl (Or.inl ⟨rfl, Or.inl rfl, z, rfl⟩) hd hl
theorem Wk.rI (X : Wk N p l e R s m args below meth c Z own EL hm T h cells slots) {pc : Nat} {Ls : Array Slot} {z : Int32} {rest : List Value} (hret : meth.sig.returnType = some .int) (hd : decode c.code pc = .ok (.ireturn, 1)) :
    ∀ fs, (∀ (f : JFrame) (acts : List Action), f.method = m → f.locked = none → f.entered = [] → (doReturn e (T.setTop f) acts (some (.int z))).1 = T.setFrames fs) → Steps p.tables e below (T.setTop (mkF m pc Ls (.int z :: rest))) (T.setFrames fs) := by
  obtain ⟨vm0, locs, k0, h1, X', h3, h4, r⟩ := X
  exact fun fs hl => retOut X' h4 hret rfl (Or.inl ⟨rfl, Or.inl rfl, z, rfl⟩) hd hl
theorem Wk.rB (X : Wk N p l e R s m args below meth c Z own EL hm T h cells slots) {t : FieldType} {pc : Nat} {Ls : Array Slot} {z : Int32} {rest : List Value} (hret : meth.sig.returnType = some t) (ht : t = .boolean ∨ t = .byte ∨ t = .char ∨ t = .short) (hd : decode c.code pc = .ok (.ireturn, 1)) :
    ∀ fs, (∀ (f : JFrame) (acts : List Action), f.method = m → f.locked = none → f.entered = [] → (doReturn e (T.setTop f) acts (some (.int (nar t z)))).1 = T.setFrames fs) → Steps p.tables e below (T.setTop (mkF m pc Ls (.int z :: rest))) (T.setFrames fs) := by
  obtain ⟨vm0, locs, k0, h1, X', h3, h4, r⟩ := X
  exact fun fs hl => retN X' h4 hret ht hd hl
theorem Wk.rJ (X : Wk N p l e R s m args below meth c Z own EL hm T h cells slots) {pc : Nat} {Ls : Array Slot} {z : Int64} {rest : List Value} (hret : meth.sig.returnType = some .long) (hd : decode c.code pc = .ok (.lreturn, 1)) :
    ∀ fs, (∀ (f : JFrame) (acts : List Action), f.method = m → f.locked = none → f.entered = [] → (doReturn e (T.setTop f) acts (some (.long z))).1 = T.setFrames fs) → Steps p.tables e below (T.setTop (mkF m pc Ls (.long z :: rest))) (T.setFrames fs) := by
  obtain ⟨vm0, locs, k0, h1, X', h3, h4, r⟩ := X
  exact fun fs hl => retOut X' h4 hret rfl (Or.inr (Or.inl ⟨rfl, rfl, z, rfl⟩)) hd hl
theorem Wk.rA (X : Wk N p l e R s m args below meth c Z own EL hm T h cells slots) {t : FieldType} {pc : Nat} {Ls : Array Slot} {w : Value} {rest : List Value} (hret : meth.sig.returnType = some t) (ht : t.isReference = true) (hw : w.isRef = true) (hd : decode c.code pc = .ok (.areturn, 1)) :
    ∀ fs, (∀ (f : JFrame) (acts : List Action), f.method = m → f.locked = none → f.entered = [] → (doReturn e (T.setTop f) acts (some w)).1 = T.setFrames fs) → Steps p.tables e below (T.setTop (mkF m pc Ls (w :: rest))) (T.setFrames fs) := by
  obtain ⟨vm0, locs, k0, h1, X', h3, h4, r⟩ := X
  have hn : narrow t w = w := by
    rcases ref_cases hw with rfl | ⟨_, rfl⟩ <;> cases t <;> first | rfl | exact absurd ht (by decide)
  exact fun fs hl => retOut X' h4 hret hn (Or.inr (Or.inr (Or.inr (Or.inr ⟨rfl, ht, hw⟩)))) hd hl
theorem Wk.rV (X : Wk N p l e R s m args below meth c Z own EL hm T h cells slots) {pc : Nat} {Ls : Array Slot} (hret : meth.sig.returnType = none) (hd : decode c.code pc = .ok (.return_, 1)) :
    ∀ fs, (∀ (f : JFrame) (acts : List Action), f.method = m → f.locked = none → f.entered = [] → (doReturn e (T.setTop f) acts none).1 = T.setFrames fs) → Steps p.tables e below (T.setTop (mkF m pc Ls [])) (T.setFrames fs) := by
  obtain ⟨vm0, locs, k0, h1, X', h3, h4, r⟩ := X
  exact fun fs hl => X'.returnOut h4 hret hd hl
/-! steps that move the tables or the heap -/
theorem Wk.getF (X : Wk N p l e R s m args below meth c Z own EL hm T h cells slots) {R0 O n d host : String} {index : Nat} (w : (Cond.fieldLink own index R0 n d).before a0 Z = true ∨ (Cond.fieldLinkNest own index R0 n d host).before a0 Z = true) (via : Via Z R0 O n d) {a : Addr} {v : Value} (F : Fld Z h a O n d v)
    {g : JFrame} (hg : g.method = m) {rest : List Value} (hs : g.stack = .ref a :: rest) (hd : decode c.code g.pc = .ok (.getfield index, 3))
    (k : ∀ T', Wk N p l e R s m args below meth c Z own EL hm T' h cells slots → Goes p.tables e below Q T' { g with pc := g.pc + 3, stack := v :: rest }) : Goes p.tables e below Q T g := by
  obtain ⟨vm0, locs, k0, h1, X', h3, h4, h5, h6, r⟩ := X
  obtain ⟨T', X2, e2, st⟩ := RoadKit.getF (s := s.setVm vm0) X' h4 h5 h6 w via h3 F hg hs hd
  exact Goes.go st (k T' ⟨vm0, locs, k0, h1, X2, e2, h4, h5, h6, r⟩)
theorem Wk.getS (X : Wk N p l e R s m args below meth c Z own EL hm T h cells slots) {R0 O n d host : String} {index : Nat} (w : (Cond.fieldLink own index R0 n d).before a0 Z = true ∨ (Cond.fieldLinkNest own index R0 n d host).before a0 Z = true) (via : Via Z R0 O n d) {v : Value} (F : Sta Z Z.heap O n d v)
    {g : JFrame} (hg : g.method = m) (hd : decode c.code g.pc = .ok (.getstatic index, 3))
    (k : ∀ T', Wk N p l e R s m args below meth c Z own EL hm T' h cells slots → Goes p.tables e below Q T' { g with pc := g.pc + 3, stack := v :: g.stack }) : Goes p.tables e below Q T g := by
  have hOld := X.old
  obtain ⟨vm0, locs, k0, h1, X', h3, h4, h5, h6, r⟩ := X
  obtain ⟨T', X2, e2, st⟩ := getS2 (s := s.setVm vm0) X' h4 h5 h6 w via h3 (F.ext hOld) hg hd
  exact Goes.go st (k T' ⟨vm0, locs, k0, h1, X2, e2, h4, h5, h6, r⟩)
theorem Wk.new (X : Wk N p l e R s m args below meth c Z own EL hm T h cells slots) {C : String} {index n : Nat} (w : (Cond.classLink own index C).before a0 Z = true) (wi : (Cond.instantiable C n).before a0 Z = true) (wz : (Cond.initialized C).before a0 Z = true)
    {g : JFrame} (hg : g.method = m) (hd : decode c.code g.pc = .ok (.new index, 3)) (hc : cells + 1 ≤ R.cells) (hl : slots + n ≤ R.slots)
    (k : ∀ (T' : State) (h' : Heap) (a : Addr), a = h.size → Wk N p l e R s m args below meth c Z own EL hm T' h' (cells + 1) (slots + n) → Ext h h' → Exa Z h' a C → (∀ {O nm d : String} {ty : FieldType}, Laid Z a0 C O nm d → parseFieldDescriptor d = some ty → Fld Z h' a O nm d (defaultValue ty)) →
      Goes p.tables e below Q T' { g with pc := g.pc + 3, stack := .ref a :: g.stack }) : Goes p.tables e below Q T g := by
  obtain ⟨vm0, locs, k0, h1, X', h3, h4, h5, h6, h7, h8, h9, h10, h11, h12⟩ := X
  obtain ⟨T', h', X2, e2, E, A, D, -, st⟩ := newO (s := s.setVm vm0) X' h4 h5 h6 w wi wz h3 hg hd hc hl
  exact Goes.go st (k T' h' _ rfl ⟨vm0, locs, k0, h1, X2, e2, h4, h5, h6, h7, h8, Nat.le_trans h9 E.1, h10, h11.oTrans E, h12.oTrans E⟩ E A D)
theorem Wk.newA (X : Wk N p l e R s m args below meth c Z own EL hm T h cells slots) {aty : ArrayType} (w : (Cond.arrayClass (newarray.typeOf aty)).before a0 Z = true)
    {g : JFrame} (hg : g.method = m) (hd : decode c.code g.pc = .ok (.newarray aty, 2)) {n : Int32} {rest : List Value} (hs : g.stack = .int n :: rest) (hn : ¬ n < 0) {cap : Nat} (hcap : n.toNatClampNeg ≤ cap) (hb : cap * 8 ≤ 536870912) (hc : cells + 1 ≤ R.cells) (hl : slots + cap ≤ R.slots)
    (k : ∀ (T' : State) (h' : Heap) (a : Addr) (kA : ClassId), a = h.size → Wk N p l e R s m args below meth c Z own EL hm T' h' (cells + 1) (slots + cap) → Ext h h' → Arv Z h' a kA (newarray.typeOf aty) n [] (defaultValue (newarray.typeOf aty)) → Exa Z h' a ("[" ++ (newarray.typeOf aty).toString) →
      Goes p.tables e below Q T' { g with pc := g.pc + 2, stack := .ref a :: rest }) : Goes p.tables e below Q T g := by
  obtain ⟨vm0, locs, k0, h1, X', h3, h4, h5, h6, h7, h8, h9, h10, h11, h12⟩ := X
  obtain ⟨T', h', kA, X2, e2, E, A, B, st⟩ := newPE (s := s.setVm vm0) X' h4 h5 w h3 hg hd hs hn hcap hb hc hl rfl
  exact Goes.go st (k T' h' _ kA rfl ⟨vm0, locs, k0, h1, X2, e2, h4, h5, h6, h7, h8, Nat.le_trans h9 E.1, h10, h11.oTrans E, h12.oTrans E⟩ E (Arv.new A hn) B)
theorem own_fitC {a : Addr} {kA : ClassId} {ty : FieldType} {z : Int32} {vs : List Value} {dv : Value} {cl : Cell} (A : Arr Z h a cl ty) (Hh : Has cl vs dv) (G : ∀ i, i < cl.slots.size → fits ty (vs.getD i dv) = true) : FitC Z cl := by
  intro i v hv
  obtain ⟨-, kk, hk, comp, hkind⟩ := A.2.1
  have hi : i < cl.slots.size := (Array.getElem?_eq_some_iff.mp hv).1
  have e := Hh i hi
  rw [hv] at e
  cases e
  have e2 : Z.slotType? cl.cls .none i = some ty := by simp [State.slotType?, hk, hkind]
  simpa [State.fitsSlot, e2] using G i hi
theorem Wk.cloneV (X : Wk N p l e R s m args below meth c Z own EL hm T h cells slots) {ad : String} {index : Nat}
    (w1 : (Cond.methodLink own index ⟨ad, "clone", "()Ljava/lang/Object;"⟩).before a0 Z = true) (w2 : (Cond.sameMethod ad "java/lang/Object" "clone" "()Ljava/lang/Object;").before a0 Z = true) (w3 : (Cond.native ⟨"java/lang/Object", "clone", "()Ljava/lang/Object;"⟩).before a0 Z = true)
    (w4 : (Cond.instanceMethod ⟨"java/lang/Object", "clone", "()Ljava/lang/Object;"⟩).before a0 Z = true) (w5 : (Cond.selects ad ⟨ad, "clone", "()Ljava/lang/Object;"⟩ ⟨"java/lang/Object", "clone", "()Ljava/lang/Object;"⟩).before a0 Z = true) (w6 : (Cond.castable ad "java/lang/Cloneable").before a0 Z = true)
    {a : Addr} {kA : ClassId} {ty : FieldType} {z : Int32} {vs : List Value} {dv : Value} (A : Arv Z h a kA ty z vs dv) (E : Exa Z h a ad) {g : JFrame} (hg : g.method = m) (hsize : g.locals.size = c.maxLocals) {rest : List Value} (hs : g.stack = .ref a :: rest) (hd : decode c.code g.pc = .ok (.invokevirtual index, 3))
    (hf : 1 ≤ R.frames) {W cap : Nat} (hW : 2 * g.monitorRoom + (rest.map fun v => v.category).sum ≤ W) (hl : W + 14 ≤ R.locals) (hcap : z.toNatClampNeg ≤ cap) (hc : cells + 1 ≤ R.cells) (hsl : slots + cap ≤ R.slots)
    (k : ∀ (T' : State) (h' : Heap) (b : Addr), b = h.size → Wk N p l e R s m args below meth c Z own EL hm T' h' (cells + 1) (slots + cap) → Ext h h' → Arv Z h' b kA ty z vs dv → Exa Z h' b ad →
      Goes p.tables e below Q T' { g with pc := g.pc + 3, stack := .ref b :: rest }) : Goes p.tables e below Q T g := by
  obtain ⟨vm0, locs, k0, h1, X', h3, h4, h5, h6, h7, h8, h9, h10, h11, h12⟩ := X
  obtain ⟨cl, Ar, q, Sz, Nn, Hh, G⟩ := A
  obtain ⟨T', h', X2, e2, E2, A2, B2, st⟩ := cloneA (s := s.setVm vm0) X' h4 h5 h6 w1 w2 w3 w4 w5 w6 h3 Ar E (own_fitC (kA := kA) (z := z) Ar Hh G) hg hsize hs hd hf hW hl (cap := cap) (by rw [Sz]; exact hcap) hc hsl
  exact Goes.go st (k T' h' _ rfl ⟨vm0, locs, k0, h1, X2, e2, h4, h5, h6, h7, h8, Nat.le_trans h9 E2.1, h10, h11.oTrans E2, h12.oTrans E2⟩ E2 ⟨_, A2, q, Sz, Nn, Hh, G⟩ B2)
/-- the core of every write of one slot -/
theorem Wk.wrote {vm0 : Vm} {locs : List Loc} {k0 : Nat} {T' : State} {h' hm' : Heap} {a : Addr} {sl : Nat} {v : Value} (h1 : N → vm0 = s.vm) (h4 : p.tables.exec = Jvm.exec) (h5 : Z.Warmed39 vm0) (h6 : vm0.findClass own = some m.cls) (h7 : Fr Z.heap.size locs) (h8 : s.Since vm0 k0) (h9 : k0 ≤ h.size) (h10 : CHr Z EL s.vm s.heap vm0 hm) (h11 : Ext hm h) (h12 : Ext Z.heap h)
    (X2 : Stand p l e R (s.setVm vm0) m args below meth c T' (locs ++ [⟨a, sl⟩]) cells slots) (e2 : T'.heap = h') (W : Wr h h' a sl v) (ga : Z.heap.size ≤ a) (M : Mark Z EL hm h [a] h' hm') : Wk N p l e R s m args below meth c Z own EL hm' T' h' cells slots := by
  have K := Keep.of_wr W
  obtain ⟨C, E⟩ := mark_go h5.alike h10 h11 K M
  exact ⟨vm0, _, k0, h1, X2, e2, h4, h5, h6, Fr.snoc X2 h7 ga, h8, Nat.le_trans h9 K.1, C, E, h12.oKeep K (fun x hx => by cases List.mem_singleton.mp hx; exact ga)⟩
theorem Wk.putF {hm' : Heap → Heap} (X : Wk N p l e R s m args below meth c Z own EL hm T h cells slots) {R0 O n d host C : String} {index kk : Nat} {ty : FieldType} (w : (Cond.fieldLink own index R0 n d).before a0 Z = true ∨ (Cond.fieldLinkNest own index R0 n d host).before a0 Z = true) (via : Via Z R0 O n d)
    {a : Addr} {v old : Value} (F : Fld Z h a O n d old) (E : Exa Z h a C) (L : (Cond.lays C O n d).before a0 Z = true ∨ ((Cond.laysFinal C O n d).before a0 Z = true ∧ own = O ∧ meth.name = "<init>")) (wi : (Cond.instantiable C kk).before a0 Z = true)
    (hty : parseFieldDescriptor d = some ty) (hn : narrow ty v = v) (hf : fits ty v = true) (ga : Z.heap.size ≤ a) (M : ∀ h', Mark Z EL hm h [a] h' (hm' h')) {g : JFrame} (hg : g.method = m) {rest : List Value} (hs : g.stack = v :: .ref a :: rest) (hd : decode c.code g.pc = .ok (.putfield index, 3))
    (k : ∀ (T' : State) (h' : Heap), Wk N p l e R s m args below meth c Z own EL (hm' h') T' h' cells slots → Wr h h' a (Jvm.RoadKit.slotOf Z O n d) v → Goes p.tables e below Q T' { g with pc := g.pc + 3, stack := rest }) : Goes p.tables e below Q T g := by
  obtain ⟨vm0, locs, k0, h1, X', h3, h4, h5, h6, h7, h8, h9, h10, h11, h12⟩ := X
  obtain ⟨T', h', X2, e2, W, st⟩ := RoadKit.putF (s := s.setVm vm0) X' h4 h5 h6 w via h3 F E L wi hty hn hf hg hs hd
  exact Goes.go st (k T' h' (Wk.wrote h1 h4 h5 h6 h7 h8 h9 h10 h11 h12 X2 e2 W ga (M h')) W)
theorem Wk.putFN {hm' : Heap → Heap} (X : Wk N p l e R s m args below meth c Z own EL hm T h cells slots) {R0 O n d C : String} {index kk : Nat} {ty : FieldType} (w : (Cond.fieldLink own index R0 n d).before a0 Z = true) (via : Via Z R0 O n d)
    {a : Addr} {v v' old : Value} (F : Fld Z h a O n d old) (E : Exa Z h a C) (L : (Cond.lays C O n d).before a0 Z = true ∨ ((Cond.laysFinal C O n d).before a0 Z = true ∧ own = O ∧ meth.name = "<init>")) (wi : (Cond.instantiable C kk).before a0 Z = true)
    (hty : parseFieldDescriptor d = some ty) (hn : narrow ty v = v') (hf : fits ty v' = true) (ga : Z.heap.size ≤ a) (M : ∀ h', Mark Z EL hm h [a] h' (hm' h')) {g : JFrame} (hg : g.method = m) {rest : List Value} (hs : g.stack = v :: .ref a :: rest) (hd : decode c.code g.pc = .ok (.putfield index, 3))
    (k : ∀ (T' : State) (h' : Heap), Wk N p l e R s m args below meth c Z own EL (hm' h') T' h' cells slots → Wr h h' a (Jvm.RoadKit.slotOf Z O n d) v' → Goes p.tables e below Q T' { g with pc := g.pc + 3, stack := rest }) : Goes p.tables e below Q T g := by
  obtain ⟨vm0, locs, k0, h1, X', h3, h4, h5, h6, h7, h8, h9, h10, h11, h12⟩ := X
  obtain ⟨T', h', X2, e2, W, st⟩ := RoadKit.putFN (s := s.setVm vm0) X' h4 h5 h6 w via h3 F E L wi hty hn hf hg hs hd
  exact Goes.go st (k T' h' (Wk.wrote h1 h4 h5 h6 h7 h8 h9 h10 h11 h12 X2 e2 W ga (M h')) W)
theorem wr_same {O n d : String} {h' : Heap} {a : Addr} {v : Value} (W : Wr h h' a (Jvm.RoadKit.slotOf Z O n d) v) (F : Fld Z h a O n d v) : h' = h := by
  obtain ⟨cell, h1, -, hlt, rfl⟩ := W
  obtain ⟨c2, cf, k, i, f, g1, g2, -, -, -, -, g7⟩ := F
  cases h1.symm.trans g1
  have es : Jvm.RoadKit.slotOf Z O n d = f.slot := by simp [Jvm.RoadKit.slotOf, g2]
  have e1 : cell.setSlot f.slot v = cell := by
    have e2 : cell.slots.setIfInBounds f.slot v = cell.slots := by
      apply Array.ext_getElem?
      intro j
      by_cases q : f.slot = j
      · subst q
        rw [Array.getElem?_setIfInBounds_self_of_lt (Array.getElem?_eq_some_iff.mp g7).1, g7]
      · rw [Array.getElem?_setIfInBounds_ne q]
    show { cell with slots := cell.slots.setIfInBounds f.slot v } = cell
    rw [e2]
  rw [es, e1]
  apply Array.ext_getElem?
  intro j
  by_cases q : a = j
  · subst q
    rw [Array.getElem?_setIfInBounds_self_of_lt (Array.getElem?_eq_some_iff.mp h1).1, h1]
  · rw [Array.getElem?_setIfInBounds_ne q]
theorem Wk.putFNsame (X : Wk N p l e R s m args below meth c Z own EL hm T h cells slots) {R0 O n d C : String} {index kk : Nat} {ty : FieldType} (w : (Cond.fieldLink own index R0 n d).before a0 Z = true) (via : Via Z R0 O n d)
    {a : Addr} {v v' : Value} (F : Fld Z h a O n d v') (E : Exa Z h a C) (L : (Cond.lays C O n d).before a0 Z = true ∨ ((Cond.laysFinal C O n d).before a0 Z = true ∧ own = O ∧ meth.name = "<init>")) (wi : (Cond.instantiable C kk).before a0 Z = true)
    (hty : parseFieldDescriptor d = some ty) (hn : narrow ty v = v') (hf : fits ty v' = true) (ga : Z.heap.size ≤ a) {g : JFrame} (hg : g.method = m) {rest : List Value} (hs : g.stack = v :: .ref a :: rest) (hd : decode c.code g.pc = .ok (.putfield index, 3))
    (k : ∀ (T' : State), Wk N p l e R s m args below meth c Z own EL hm T' h cells slots → Goes p.tables e below Q T' { g with pc := g.pc + 3, stack := rest }) : Goes p.tables e below Q T g := by
  obtain ⟨vm0, locs, k0, h1, X', h3, h4, h5, h6, h7, h8, h9, h10, h11, h12⟩ := X
  obtain ⟨T', h', X2, e2, W, st⟩ := RoadKit.putFN (s := s.setVm vm0) X' h4 h5 h6 w via h3 F E L wi hty hn hf hg hs hd
  obtain rfl := wr_same W F
  exact Goes.go st (k T' ⟨vm0, _, k0, h1, X2, e2, h4, h5, h6, Fr.snoc X2 h7 ga, h8, h9, h10, h11, h12⟩)
theorem Wk.castore {hm' : Heap → Heap} (X : Wk N p l e R s m args below meth c Z own EL hm T h cells slots) {a : Addr} {kA : ClassId} {z j x : Int32} {vs : List Value} {dv : Value} (A : Arv Z h a kA .char z vs dv) (hj : ¬ j < 0 ∧ j < z) {i : Nat} (hi : j.toNatClampNeg = i) (hl : i < vs.length) (ga : Z.heap.size ≤ a) (M : ∀ h', Mark Z EL hm h [a] h' (hm' h'))
    {g : JFrame} (hg : g.method = m) {rest : List Value} (hs : g.stack = .int x :: .int j :: .ref a :: rest) (hd : decode c.code g.pc = .ok (.castore, 1))
    (k : ∀ (T' : State) (h' : Heap), Wk N p l e R s m args below meth c Z own EL (hm' h') T' h' cells slots → Wr h h' a j.toNatClampNeg (.int (nar .char x)) → Arv Z h' a kA .char z (vs.set i (.int (nar .char x))) dv → Goes p.tables e below Q T' { g with pc := g.pc + 1, stack := rest }) : Goes p.tables e below Q T g := by
  obtain ⟨vm0, locs, k0, h1, X', h3, h4, h5, h6, h7, h8, h9, h10, h11, h12⟩ := X
  obtain ⟨cl, Ar, q, Sz, Nn, Hh, G⟩ := A
  obtain ⟨T', h', X2, e2, W, st⟩ := stC (s := s.setVm vm0) X' h4 h5 h3 Ar (j := j) (inb_of Sz hj) hg hs hd
  exact Goes.go st (k T' h' (Wk.wrote h1 h4 h5 h6 h7 h8 h9 h10 h11 h12 X2 e2 W ga (M h')) W (Arv.set Ar q Sz Nn Hh G (fits_nar_char _) W i hi hl))
theorem Wk.lastore {hm' : Heap → Heap} (X : Wk N p l e R s m args below meth c Z own EL hm T h cells slots) {a : Addr} {kA : ClassId} {z j : Int32} {x : Int64} {vs : List Value} {dv : Value} (A : Arv Z h a kA .long z vs dv) (hj : ¬ j < 0 ∧ j < z) {i : Nat} (hi : j.toNatClampNeg = i) (hl : i < vs.length) (ga : Z.heap.size ≤ a) (M : ∀ h', Mark Z EL hm h [a] h' (hm' h'))
    {g : JFrame} (hg : g.method = m) {rest : List Value} (hs : g.stack = .long x :: .int j :: .ref a :: rest) (hd : decode c.code g.pc = .ok (.lastore, 1))
    (k : ∀ (T' : State) (h' : Heap), Wk N p l e R s m args below meth c Z own EL (hm' h') T' h' cells slots → Wr h h' a j.toNatClampNeg (.long x) → Arv Z h' a kA .long z (vs.set i (.long x)) dv → Goes p.tables e below Q T' { g with pc := g.pc + 1, stack := rest }) : Goes p.tables e below Q T g := by
  obtain ⟨vm0, locs, k0, h1, X', h3, h4, h5, h6, h7, h8, h9, h10, h11, h12⟩ := X
  obtain ⟨cl, Ar, q, Sz, Nn, Hh, G⟩ := A
  obtain ⟨T', h', X2, e2, W, st⟩ := stJ (s := s.setVm vm0) X' h4 h5 h3 Ar (j := j) (inb_of Sz hj) hg hs hd
  exact Goes.go st (k T' h' (Wk.wrote h1 h4 h5 h6 h7 h8 h9 h10 h11 h12 X2 e2 W ga (M h')) W (Arv.set Ar q Sz Nn Hh G rfl W i hi hl))
theorem Wk.bastore {hm' : Heap → Heap} (X : Wk N p l e R s m args below meth c Z own EL hm T h cells slots) {a : Addr} {kA : ClassId} {z j x : Int32} {vs : List Value} {dv : Value} (A : Arv Z h a kA .byte z vs dv) (hj : ¬ j < 0 ∧ j < z) {i : Nat} (hi : j.toNatClampNeg = i) (hl : i < vs.length) (ga : Z.heap.size ≤ a) (M : ∀ h', Mark Z EL hm h [a] h' (hm' h'))
    {g : JFrame} (hg : g.method = m) {rest : List Value} (hs : g.stack = .int x :: .int j :: .ref a :: rest) (hd : decode c.code g.pc = .ok (.bastore, 1))
    (k : ∀ (T' : State) (h' : Heap), Wk N p l e R s m args below meth c Z own EL (hm' h') T' h' cells slots → Wr h h' a j.toNatClampNeg (.int (nar .byte x)) → Arv Z h' a kA .byte z (vs.set i (.int (nar .byte x))) dv → Goes p.tables e below Q T' { g with pc := g.pc + 1, stack := rest }) : Goes p.tables e below Q T g := by
  obtain ⟨vm0, locs, k0, h1, X', h3, h4, h5, h6, h7, h8, h9, h10, h11, h12⟩ := X
  obtain ⟨cl, Ar, q, Sz, Nn, Hh, G⟩ := A
  obtain ⟨T', h', X2, e2, W, st⟩ := stB (s := s.setVm vm0) X' h4 h5 h3 Ar (j := j) (inb_of Sz hj) hg hs hd
  exact Goes.go st (k T' h' (Wk.wrote h1 h4 h5 h6 h7 h8 h9 h10 h11 h12 X2 e2 W ga (M h')) W (Arv.set Ar q Sz Nn Hh G (fits_nar_byte _) W i hi hl))
/-! loads out of arrays, lengths -/
theorem Wk.caload (X : Wk N p l e R s m args below meth c Z own EL hm T h cells slots) {a : Addr} {kA : ClassId} {z j : Int32} {vs : List Value} {dv v : Value} (A : Arv Z h a kA .char z vs dv) (hj : ¬ j < 0 ∧ j < z) (hv : vs.getD j.toNatClampNeg dv = v)
    {g : JFrame} (hg : g.method = m) {rest : List Value} (hs : g.stack = .int j :: .ref a :: rest) (hd : decode c.code g.pc = .ok (.caload, 1)) : ∀ t, Steps p.tables e below (T.setTop { g with pc := g.pc + 1, stack := v :: rest }) t → Steps p.tables e below (T.setTop g) t := by
  obtain ⟨vm0, locs, k0, h1, X', h3, h4, h5, r⟩ := X
  obtain ⟨cl, Ar, q, Sz, Nn, Hh, G⟩ := A
  intro t k
  exact X'.caload h4 (j := j) (v := v) (by rw [h3]; exact Ar.1) (State.isArrayOf_alike h5.alike Ar.2.1) Ar.2.2 (inb_of Sz hj) (Hh.at (inb_of Sz hj) hv) hg hs hd t k
theorem Wk.laload (X : Wk N p l e R s m args below meth c Z own EL hm T h cells slots) {a : Addr} {kA : ClassId} {z j : Int32} {vs : List Value} {dv v : Value} (A : Arv Z h a kA .long z vs dv) (hj : ¬ j < 0 ∧ j < z) (hv : vs.getD j.toNatClampNeg dv = v)
    {g : JFrame} (hg : g.method = m) {rest : List Value} (hs : g.stack = .int j :: .ref a :: rest) (hd : decode c.code g.pc = .ok (.laload, 1)) : ∀ t, Steps p.tables e below (T.setTop { g with pc := g.pc + 1, stack := v :: rest }) t → Steps p.tables e below (T.setTop g) t := by
  obtain ⟨vm0, locs, k0, h1, X', h3, h4, h5, r⟩ := X
  obtain ⟨cl, Ar, q, Sz, Nn, Hh, G⟩ := A
  intro t k
  exact X'.laload h4 (j := j) (v := v) (by rw [h3]; exact Ar.1) (State.isArrayOf_alike h5.alike Ar.2.1) Ar.2.2 (inb_of Sz hj) (Hh.at (inb_of Sz hj) hv) hg hs hd t k
theorem Wk.baload (X : Wk N p l e R s m args below meth c Z own EL hm T h cells slots) {a : Addr} {kA : ClassId} {z j : Int32} {vs : List Value} {dv v : Value} (A : Arv Z h a kA .byte z vs dv) (hj : ¬ j < 0 ∧ j < z) (hv : vs.getD j.toNatClampNeg dv = v)
    {g : JFrame} (hg : g.method = m) {rest : List Value} (hs : g.stack = .int j :: .ref a :: rest) (hd : decode c.code g.pc = .ok (.baload, 1)) : ∀ t, Steps p.tables e below (T.setTop { g with pc := g.pc + 1, stack := v :: rest }) t → Steps p.tables e below (T.setTop g) t := by
  obtain ⟨vm0, locs, k0, h1, X', h3, h4, h5, r⟩ := X
  obtain ⟨cl, Ar, q, Sz, Nn, Hh, G⟩ := A
  intro t k
  exact X'.baloadBytes h4 (j := j) (v := v) (by rw [h3]; exact Ar.1) (State.isArrayOf_alike h5.alike Ar.2.1) Ar.2.2 (inb_of Sz hj) (Hh.at (inb_of Sz hj) hv) hg hs hd t k
theorem Wk.alen (X : Wk N p l e R s m args below meth c Z own EL hm T h cells slots) {a : Addr} {kA : ClassId} {ty : FieldType} {z : Int32} {vs : List Value} {dv : Value} (A : Arv Z h a kA ty z vs dv)
    {g : JFrame} (hg : g.method = m) {rest : List Value} (hs : g.stack = .ref a :: rest) (hd : decode c.code g.pc = .ok (.arraylength, 1)) : ∀ t, Steps p.tables e below (T.setTop { g with pc := g.pc + 1, stack := .int z :: rest }) t → Steps p.tables e below (T.setTop g) t := by
  obtain ⟨vm0, locs, k0, h1, X', h3, h4, h5, r⟩ := X
  obtain ⟨cl, Ar, q, Sz, Nn, Hh, G⟩ := A
  intro t k
  rw [← len_of Sz Nn] at k
  exact X'.arraylength h4 (by rw [h3]; exact Ar.1) (State.isArrayOf_alike h5.alike Ar.2.1) hg hs hd t k
theorem Wk.acopy {hm' : Heap → Heap} (X : Wk N p l e R s m args below meth c Z own EL hm T h cells slots) {index : Nat}
    (w1 : (Cond.methodLink own index Jvm.Stand.acN).before a0 Z = true) (w2 : (Cond.native Jvm.Stand.acN).before a0 Z = true) (w3 : (Cond.static Jvm.Stand.acN).before a0 Z = true) (w4 : (Cond.initialized "java/lang/System").before a0 Z = true)
    {a b : Addr} {k' kA : ClassId} {ty ty' : FieldType} {z z' sp dp nn : Int32} {vs vd us : List Value} {dv dd : Value} (A : Arv Z h a kA ty z vs dv) (B : Arv Z h b k' ty' z' vd dd) (hty : ty = ty' ∧ refKind ty = false)
    (h1 : ¬ sp < 0) (h2 : ¬ dp < 0) (h3 : ¬ nn < 0) (h4 : sp.toNatClampNeg + nn.toNatClampNeg ≤ z.toNatClampNeg) (h5 : dp.toNatClampNeg + nn.toNatClampNeg ≤ z'.toNatClampNeg)
    (hus : us = (List.range nn.toNatClampNeg).map fun i => vs.getD (sp.toNatClampNeg + i) dv) (hl : dp.toNatClampNeg + nn.toNatClampNeg ≤ vd.length) (gb : Z.heap.size ≤ b) (M : ∀ h', Mark Z EL hm h [b] h' (hm' h'))
    {g : JFrame} (hg : g.method = m) (hsize : g.locals.size = c.maxLocals) {rest : List Value} (hs : g.stack = .int nn :: .int dp :: .ref b :: .int sp :: .ref a :: rest) (hd : decode c.code g.pc = .ok (.invokestatic index, 3))
    (hf : 1 ≤ R.frames) {W : Nat} (hW : 2 * g.monitorRoom + (rest.map fun v => v.category).sum ≤ W) (hlo : W + (nativeFrameWords "java/lang/System" "arraycopy" 5 + 11) ≤ R.locals)
    (k : ∀ (T' : State) (h' : Heap), Wk N p l e R s m args below meth c Z own EL (hm' h') T' h' cells slots → Keep h h' [b] → Arv Z h' b k' ty' z' (vd.take dp.toNatClampNeg ++ us ++ vd.drop (dp.toNatClampNeg + nn.toNatClampNeg)) dd → Goes p.tables e below Q T' { g with pc := g.pc + 3, stack := rest }) : Goes p.tables e below Q T g := by
  obtain ⟨vm0, locs, k0, x1, X', x3, x4, x5, x6, x7, x8, x9, x10, x11, x12⟩ := X
  obtain ⟨T', h', L, X2, e2, FL, K, A2, st⟩ := cpA (s := s.setVm vm0) X' x4 x5 x6 w1 w2 w3 w4 x3 A B (Or.inl hty) h1 h2 h3 h4 h5 hus hl x7 gb hg hsize hs hd hf hW hlo
  obtain ⟨C, E⟩ := mark_go x5.alike x10 x11 K (M h')
  exact Goes.go st (k T' h' ⟨vm0, L, k0, x1, X2, e2, x4, x5, x6, FL, x8, Nat.le_trans x9 K.1, C, E, x12.oKeep K (fun x hx => by cases List.mem_singleton.mp hx; exact gb)⟩ K A2)
theorem Wk.ldcI (X : Wk N p l e R s m args below meth c Z own EL hm T h cells slots) {index : Nat} {v : Int32} (w : (Cond.constant own index v).before a0 Z = true) {g : JFrame} (hg : g.method = m) (hd : decode c.code g.pc = .ok (.ldc index, 2)) : ∀ t, Steps p.tables e below (T.setTop { g with pc := g.pc + 2, stack := .int v :: g.stack }) t → Steps p.tables e below (T.setTop g) t := by
  obtain ⟨vm0, locs, k0, h1, X', h3, h4, h5, h6, r⟩ := X
  exact X'.ldcInt h4 h6 (mv (s := s.setVm vm0) h5 w) hg hd
theorem Wk.ldcL (X : Wk N p l e R s m args below meth c Z own EL hm T h cells slots) {index : Nat} {v : Int64} (w : (Cond.constantLong own index v).before a0 Z = true) {g : JFrame} (hg : g.method = m) (hd : decode c.code g.pc = .ok (.ldc2_w index, 3)) : ∀ t, Steps p.tables e below (T.setTop { g with pc := g.pc + 3, stack := .long v :: g.stack }) t → Steps p.tables e below (T.setTop g) t := by
  obtain ⟨vm0, locs, k0, h1, X', h3, h4, h5, h6, r⟩ := X
  exact X'.ldc2Long h4 h6 (mv (s := s.setVm vm0) h5 w) hg hd
theorem Wk.castY (X : Wk N p l e R s m args below meth c Z own EL hm T h cells slots) {K : String} {index : Nat} (w : (Cond.classLink own index K).before a0 Z = true) {a : Addr} (F : Ins Z h a K true) {g : JFrame} (hg : g.method = m) {rest : List Value} (hs : g.stack = .ref a :: rest) (hd : decode c.code g.pc = .ok (.checkcast index, 3))
    (k : ∀ T', Wk N p l e R s m args below meth c Z own EL hm T' h cells slots → Goes p.tables e below Q T' { g with pc := g.pc + 3 }) : Goes p.tables e below Q T g := by
  obtain ⟨vm0, locs, k0, h1, X', h3, h4, h5, h6, r⟩ := X
  obtain ⟨T', X2, e2, st⟩ := RoadKit.castY (s := s.setVm vm0) X' h4 h5 h6 w h3 F hg hs hd
  exact Goes.go st (k T' ⟨vm0, locs, k0, h1, X2, e2, h4, h5, h6, r⟩)
theorem Wk.instY (X : Wk N p l e R s m args below meth c Z own EL hm T h cells slots) {K : String} {index : Nat} (w : (Cond.classLink own index K).before a0 Z = true) {a : Addr} (F : Ins Z h a K true) {g : JFrame} (hg : g.method = m) {rest : List Value} (hs : g.stack = .ref a :: rest) (hd : decode c.code g.pc = .ok (.instanceof index, 3))
    (k : ∀ T', Wk N p l e R s m args below meth c Z own EL hm T' h cells slots → Goes p.tables e below Q T' { g with pc := g.pc + 3, stack := .int 1 :: rest }) : Goes p.tables e below Q T g := by
  obtain ⟨vm0, locs, k0, h1, X', h3, h4, h5, h6, r⟩ := X
  obtain ⟨T', X2, e2, st⟩ := RoadKit.instY (s := s.setVm vm0) X' h4 h5 h6 w h3 F hg hs hd
  exact Goes.go st (k T' ⟨vm0, locs, k0, h1, X2, e2, h4, h5, h6, r⟩)
theorem Wk.instNo (X : Wk N p l e R s m args below meth c Z own EL hm T h cells slots) {C K : String} {index : Nat} (w : (Cond.classLink own index K).before a0 Z = true) {a : Addr} (E : Exa Z h a C) (F : ∃ c t, Z.vm.findClass C = some c ∧ Z.vm.findClass K = some t ∧ Z.vm.assignable c t = false) {g : JFrame} (hg : g.method = m) {rest : List Value} (hs : g.stack = .ref a :: rest) (hd : decode c.code g.pc = .ok (.instanceof index, 3))
    (k : ∀ T', Wk N p l e R s m args below meth c Z own EL hm T' h cells slots → Goes p.tables e below Q T' { g with pc := g.pc + 3, stack := .int 0 :: rest }) : Goes p.tables e below Q T g := by
  obtain ⟨vm0, locs, k0, h1, X', h3, h4, h5, h6, r⟩ := X
  obtain ⟨T', X2, e2, st⟩ := RoadKit.instNo (s := s.setVm vm0) X' h4 h5 h6 w h3 E F hg hs hd
  exact Goes.go st (k T' ⟨vm0, locs, k0, h1, X2, e2, h4, h5, h6, r⟩)
theorem Wk.instNull (X : Wk N p l e R s m args below meth c Z own EL hm T h cells slots) {index : Nat} {g : JFrame} (hg : g.method = m) {rest : List Value} (hs : g.stack = .null :: rest) (hd : decode c.code g.pc = .ok (.instanceof index, 3)) : ∀ t, Steps p.tables e below (T.setTop { g with pc := g.pc + 3, stack := .int 0 :: rest }) t → Steps p.tables e below (T.setTop g) t := by
  obtain ⟨vm0, locs, k0, h1, X', h3, h4, r⟩ := X
  exact X'.instanceofNull h4 hg hs hd
theorem own_noinst {C S K : String} {n : Nat} (w : (Cond.superclass C S).before a0 Z = true) (wr : (Cond.noSuperclass S).before a0 Z = true) (wi : (Cond.instantiable K n).before a0 Z = true) (n1 : C ≠ K) (n2 : S ≠ K) : ∃ c t, Z.vm.findClass C = some c ∧ Z.vm.findClass K = some t ∧ Z.vm.assignable c t = false := by
  obtain ⟨cS, kS, s1, s2, s3, -, -⟩ := Cond.noSuperclass_spec wr
  obtain ⟨t, kt, t1, t2, t3, t4, -⟩ := Cond.instantiable_spec wi
  have ne2 := ids_ne s1 t1 n2
  have nS : NS Z S K := ⟨cS, t, s1, t1, fun fuel => by
    cases fuel with
    | zero => rfl
    | succ f => simp [Vm.isSubclassAux, ne2, s2, s3]⟩
  obtain ⟨c, t', h0, g0, n3⟩ := NS.step w nS n1
  cases g0.symm.trans t1
  obtain ⟨p', k, kp, h1, h2, h3, h4, h5, -, h7⟩ := Cond.superclass_spec h0 w
  have ne := ids_ne h0 g0 n1
  simp only [Bool.or_eq_false_iff] at t4
  refine ⟨c, _, h0, t1, ?_⟩
  show Z.vm.assignableAux (255 + 1) c _ = false
  simp [Vm.assignableAux, ne, h2, t2, h5, t3, t4.1, Vm.isSubclass, n3]
/-! Object.<init>, literals -/
theorem Wk.initO (X : Wk N p l e R s m args below meth c Z own EL hm T h cells slots) {idx : Nat} (w1 : (Cond.methodLink own idx Lib.objectInit).before a0 Z = true) (w2 : (Cond.instanceMethod Lib.objectInit).before a0 Z = true) (w3 : (Cond.code Lib.objectInit ⟨#[0xb1]⟩ 1 none).before a0 Z = true)
    {g : JFrame} (hg : g.method = m) (hsize : g.locals.size = c.maxLocals) {a : Addr} {rest : List Value} (hs : g.stack = .ref a :: rest) (hd : decode c.code g.pc = .ok (.invokespecial idx, 3)) (hf : 1 ≤ R.frames) {W : Nat} (hW : 2 * g.monitorRoom + (rest.map fun v => v.category).sum ≤ W) (hl : W + 12 ≤ R.locals)
    (k : ∀ T', Wk N p l e R s m args below meth c Z own EL hm T' h cells slots → Goes p.tables e below Q T' { g with pc := g.pc + 3, stack := rest }) : Goes p.tables e below Q T g := by
  obtain ⟨vm0, locs, k0, h1, X', h3, h4, h5, h6, r⟩ := X
  obtain ⟨T', X2, e2, st⟩ := RoadKit.initO (s := s.setVm vm0) X' h4 h5 h6 w1 w2 w3 h3 hg hsize hs hd hf hW hl
  exact Goes.go st (k T' ⟨vm0, locs, k0, h1, X2, e2, h4, h5, h6, r⟩)
theorem Wk.ldcR (X : Wk N p l e R s m args below meth c Z own EL hm T h cells slots) {text : String} {index : Nat} (w : (Cond.stringLink own index text).before a0 Z = true) (wS : ∀ a ∈ Bundle.stringAtoms, a.before a0 Z = true) (hEL : EW Z a0 EL) (hmem : (own, index) ∈ EL)
    {vs : List Value} {z : Int32} (ht : (∀ c ∈ text.toList, c.toNat < 256) ∧ text.toList.map (fun c => Value.int (Jvm.Lit.byteI c.toNat.toUInt16)) = vs) (hz : ¬ z < 0) (hl : z.toNatClampNeg = vs.length)
    {g : JFrame} (hg : g.method = m) (hd : decode c.code g.pc = .ok (.ldc index, 2)) {n : Nat} (hn : 4 * text.toList.length ≤ n) (hbig : n ≤ 536870912) (hc : cells + 2 ≤ R.cells) (hl' : slots + (n + 4) ≤ R.slots)
    (k : ∀ (T' : State) (h' : Heap) (a b : Addr) (kB : ClassId), Wk False p l e R s m args below meth c Z own EL h' T' h' (cells + 2) (slots + (n + 4)) → Ext h h' → Exa Z h' a "java/lang/String" → Fld Z h' a "java/lang/String" "coder" "B" (.int 0) → Fld Z h' a "java/lang/String" "value" "[B" (.ref b) → Arv Z h' b kB .byte z vs (.int 0) →
      Goes p.tables e below Q T' { g with pc := g.pc + 2, stack := .ref a :: g.stack }) : Goes p.tables e below Q T g := by
  obtain ⟨vm0, locs, k0, h1, X', h3, h4, h5, h6, h7, h8, h9, h10, h11, h12⟩ := X
  have C1 := h10.trans (CHr.ext h11 h10.1)
  obtain ⟨a, T', h', k1, b, kB, X2, e2, E, S2, hk2, hW, hf, r1, r2, r3, r4, -, -, C2, -, -, st⟩ := ldcCH X' h4 h5 h6 w wS h3 h8 h9 hEL hmem C1.1 ht hz hl hg hd hn hbig hc hl'
  exact Goes.go st (k T' h' a b kB ⟨T'.vm, locs, k1, fun q => q.elim, X2, e2, h4, hW, hf, h7, S2, hk2, C1.trans C2, Ext.oRefl _, h12.oTrans E⟩ E r1 r2 r3 r4)
theorem Wk.ldcO (X : Wk N p l e R s m args below meth c Z own EL hm T h cells slots) {text : String} {index : Nat} (w : (Cond.stringLink own index text).before a0 Z = true) (wS : ∀ a ∈ Bundle.stringAtoms, a.before a0 Z = true) (hEL : EW Z a0 EL)
    {g : JFrame} (hg : g.method = m) (hd : decode c.code g.pc = .ok (.ldc index, 2)) {n : Nat} (hn : 4 * text.toList.length ≤ n) (hbig : n ≤ 536870912) (hc : cells + 2 ≤ R.cells) (hl' : slots + (n + 4) ≤ R.slots)
    (k : ∀ (T' : State) (h' : Heap) (a : Addr), Wk False p l e R s m args below meth c Z own EL h' T' h' (cells + 2) (slots + (n + 4)) → Ext h h' →
      Goes p.tables e below Q T' { g with pc := g.pc + 2, stack := .ref a :: g.stack }) : Goes p.tables e below Q T g := by
  obtain ⟨vm0, locs, k0, h1, X', h3, h4, h5, h6, h7, h8, h9, h10, h11, h12⟩ := X
  have C1 := h10.trans (CHr.ext h11 h10.1)
  obtain ⟨a, T', h', k1, X2, e2, E, S2, hk2, hW, hf, C2, -, st⟩ := ldcOH X' h4 h5 h6 w wS h3 h8 h9 hEL C1.1 hg hd hn hbig hc hl'
  exact Goes.go st (k T' h' a ⟨T'.vm, locs, k1, fun q => q.elim, X2, e2, h4, hW, hf, h7, S2, hk2, C1.trans C2, Ext.oRefl _, h12.oTrans E⟩ E)
/-! calls -/
theorem CtrN.back {y : MethodName} {bytes : ByteArray} {maxL : Nat} {ret : Option FieldType} {rm : Room} {as' : Array Value} {Qv : Option Value → Heap → Prop} {len W : Nat} (K : CtrN l Z y bytes maxL ret rm as' h Qv) {vm0 : Vm} (hZ : Z.Warmed39 vm0) (wc : (Cond.code y bytes maxL ret).before a0 Z = true) (wz : (Cond.initialized y.cls).before a0 Z = true) (hf : rm.frames + 1 ≤ R.frames) (hl : W + (maxL + 11) + rm.locals ≤ R.locals) :
    Back l R p e below (s.setVm vm0) args y len W (fun A a => a = as' ∧ A.U.heap = h ∧ A.cells + rm.cells ≤ R.cells ∧ A.slots + rm.slots ≤ R.slots) (fun A _ v B => ∃ L, (Qv v B.U.heap ∧ Fr Z.heap.size L) ∧ B.locs = A.locs ++ L ∧ B.cells = A.cells + rm.cells ∧ B.slots = A.slots + rm.slots) :=
  backOf (s := s.setVm vm0) (Q := fun v h' L => Qv v h' ∧ Fr Z.heap.size L) (K []) hZ wc wz hf hl
theorem CtrS.back {y : MethodName} {bytes : ByteArray} {maxL : Nat} {ret : Option FieldType} {rm : Room} {as' : Array Value} {Qv : Option Value → Heap → Prop} {len W : Nat} (K : CtrS l Z EL y bytes maxL ret rm as' h Qv) {vm0 : Vm} (hZ : Z.Warmed39 vm0) (wc : (Cond.code y bytes maxL ret).before a0 Z = true) (wz : (Cond.initialized y.cls).before a0 Z = true) (hf : rm.frames + 1 ≤ R.frames) (hl : W + (maxL + 11) + rm.locals ≤ R.locals) (hEL : EW Z a0 EL) (H : CHv Z EL vm0 h) :
    BackS l R p e below (s.setVm vm0) args y len W (fun A a => a = as' ∧ A.U.heap = h ∧ A.cells + rm.cells ≤ R.cells ∧ A.slots + rm.slots ≤ R.slots) (fun A _ v B => ∃ L, (Qv v B.U.heap ∧ Fr Z.heap.size L) ∧ B.locs = A.locs ++ L ∧ B.cells = A.cells + rm.cells ∧ B.slots = A.slots + rm.slots ∧ CHr Z EL vm0 h B.U.vm B.U.heap) :=
  backOfSH (Q := fun v h' L => Qv v h' ∧ Fr Z.heap.size L) (K []) hZ wc wz hf hl hEL H
/-- what a payer says that interns nothing -/
def Pays (l : Launch) (R : Room) (p : Program) (e : Env) (below : List Frame) (s : State) (args : Array Value) (Z : State) (y : MethodName) (len W : Nat) (as' : Array Value) (h : Heap) (kc ks : Nat) (QQ : Option Value → Heap → List Loc → Prop) : Prop :=
  ∀ vm0, Z.Warmed39 vm0 → Back l R p e below (s.setVm vm0) args y len W (fun A a => a = as' ∧ A.U.heap = h ∧ A.cells + kc ≤ R.cells ∧ A.slots + ks ≤ R.slots) (fun A _ v B => ∃ L, QQ v B.U.heap L ∧ B.locs = A.locs ++ L ∧ B.cells = A.cells + kc ∧ B.slots = A.slots + ks)
def PaysS (l : Launch) (R : Room) (p : Program) (e : Env) (below : List Frame) (s : State) (args : Array Value) (Z : State) (EL : List (String × Nat)) (y : MethodName) (len W : Nat) (as' : Array Value) (h : Heap) (kc ks : Nat) (QQ : Option Value → Heap → List Loc → Prop) : Prop :=
  ∀ vm0, Z.Warmed39 vm0 → CHv Z EL vm0 h → BackS l R p e below (s.setVm vm0) args y len W (fun A a => a = as' ∧ A.U.heap = h ∧ A.cells + kc ≤ R.cells ∧ A.slots + ks ≤ R.slots) (fun A _ v B => ∃ L, QQ v B.U.heap L ∧ B.locs = A.locs ++ L ∧ B.cells = A.cells + kc ∧ B.slots = A.slots + ks ∧ CHr Z EL vm0 h B.U.vm B.U.heap)
theorem CtrN.pays {y : MethodName} {bytes : ByteArray} {maxL : Nat} {ret : Option FieldType} {rm : Room} {as' : Array Value} {Qv : Option Value → Heap → Prop} {len W : Nat} (K : CtrN l Z y bytes maxL ret rm as' h Qv) (wc : (Cond.code y bytes maxL ret).before a0 Z = true) (wz : (Cond.initialized y.cls).before a0 Z = true) (hf : rm.frames + 1 ≤ R.frames) (hl : W + (maxL + 11) + rm.locals ≤ R.locals) :
    Pays l R p e below s args Z y len W as' h rm.cells rm.slots (fun v h' L => Qv v h' ∧ Fr Z.heap.size L) := fun _ hZ => CtrN.back K hZ wc wz hf hl
theorem CtrS.pays {y : MethodName} {bytes : ByteArray} {maxL : Nat} {ret : Option FieldType} {rm : Room} {as' : Array Value} {Qv : Option Value → Heap → Prop} {len W : Nat} (K : CtrS l Z EL y bytes maxL ret rm as' h Qv) (wc : (Cond.code y bytes maxL ret).before a0 Z = true) (wz : (Cond.initialized y.cls).before a0 Z = true) (hf : rm.frames + 1 ≤ R.frames) (hl : W + (maxL + 11) + rm.locals ≤ R.locals) (hEL : EW Z a0 EL) :
    PaysS l R p e below s args Z EL y len W as' h rm.cells rm.slots (fun v h' L => Qv v h' ∧ Fr Z.heap.size L) := fun _ hZ H => CtrS.back K hZ wc wz hf hl hEL H
theorem Wk.came {vm0 : Vm} {locs L : List Loc} {k0 kc ks : Nat} {T' : State} {hm' : Heap} {ws : List Addr} (h1 : N → vm0 = s.vm) (h4 : p.tables.exec = Jvm.exec) (h5 : Z.Warmed39 vm0) (h6 : vm0.findClass own = some m.cls) (h7 : Fr Z.heap.size locs) (h8 : s.Since vm0 k0) (h9 : k0 ≤ h.size) (h10 : CHr Z EL s.vm s.heap vm0 hm) (h11 : Ext hm h) (h12 : Ext Z.heap h)
    (X2 : Stand p l e R (s.setVm vm0) m args below meth c T' (locs ++ L) (cells + kc) (slots + ks)) (F : Fr Z.heap.size L) (K : Keep h T'.heap ws) (hws : ∀ x ∈ ws, Z.heap.size ≤ x) (M : Mark Z EL hm h ws T'.heap hm') : Wk N p l e R s m args below meth c Z own EL hm' T' T'.heap (cells + kc) (slots + ks) := by
  obtain ⟨C, E⟩ := mark_go h5.alike h10 h11 K M
  exact ⟨vm0, _, k0, h1, X2, rfl, h4, h5, h6, Fr.app h7 F, h8, Nat.le_trans h9 K.1, C, E, h12.oKeep K hws⟩
theorem Wk.cameS {vm0 : Vm} {locs L : List Loc} {k0 kc ks : Nat} {T' : State} {ws : List Addr} (h4 : p.tables.exec = Jvm.exec) (h5 : Z.Warmed39 vm0) (h6 : vm0.findClass own = some m.cls) (h7 : Fr Z.heap.size locs) (h8 : s.Since vm0 k0) (h9 : k0 ≤ h.size) (C1 : CHr Z EL s.vm s.heap vm0 h) (h12 : Ext Z.heap h)
    (X2 : Stand p l e R ((s.setVm vm0).setVm T'.vm) m args below meth c T' (locs ++ L) (cells + kc) (slots + ks)) (S2 : (s.setVm vm0).Since T'.vm T'.heap.size) (F : Fr Z.heap.size L) (K : Keep h T'.heap ws) (hws : ∀ x ∈ ws, Z.heap.size ≤ x) (C2 : CHr Z EL vm0 h T'.vm T'.heap) : Wk False p l e R s m args below meth c Z own EL T'.heap T' T'.heap (cells + kc) (slots + ks) :=
  ⟨T'.vm, _, T'.heap.size, fun q => q.elim, X2, rfl, h4, State.Warmed39.trans (t := s.setVm vm0) h5 S2.1, (S2.1.alike.findClass _ _).trans h6, Fr.app h7 F, h8.trans S2 (Nat.le_trans h9 K.1), Nat.le_refl _, C1.trans C2, Ext.oRefl _, h12.oKeep K hws⟩
theorem Wk.static {hm' : Heap → Heap} {y : MethodName} {bytes : ByteArray} {maxL : Nat} {ret : Option FieldType} {index W kc ks : Nat} {QQ : Option Value → Heap → List Loc → Prop} {argsL rest : List Value} {as' : Array Value} {ws : List Addr} (X : Wk N p l e R s m args below meth c Z own EL hm T h cells slots)
    (w1 : (Cond.methodLink own index y).before a0 Z = true) (w2 : (Cond.static y).before a0 Z = true) (w3 : (Cond.initialized y.cls).before a0 Z = true) (w4 : (Cond.code y bytes maxL ret).before a0 Z = true) (hy : y.cls ≠ "java/lang/invoke/MethodHandle" ∧ y.cls ≠ "java/lang/invoke/VarHandle")
    (hK : Pays l R p e below s args Z y 3 W as' h kc ks QQ) (hQ : ∀ v h' L, QQ v h' L → Fr Z.heap.size L ∧ Keep h h' ws) (hws : ∀ x ∈ ws, Z.heap.size ≤ x) (M : ∀ h', Mark Z EL hm h ws h' (hm' h'))
    {g : JFrame} (hg : g.method = m) (hsize : g.locals.size = c.maxLocals) (hlen : ∀ sig, parseMethodDescriptor y.desc = some sig → argsL.length = sig.parameters.length) (has : argsL.toArray = as') (hstack : g.stack = argsL.reverse ++ rest) (hW : 2 * g.monitorRoom + (rest.map fun v => v.category).sum ≤ W)
    (hdg : decode c.code g.pc = .ok (.invokestatic index, 3)) (hc : cells + kc ≤ R.cells) (hs : slots + ks ≤ R.slots)
    (k : ∀ (T' : State) (h' : Heap) (v : Option Value) (L : List Loc), Wk N p l e R s m args below meth c Z own EL (hm' h') T' h' (cells + kc) (slots + ks) → QQ v h' L → Keep h h' ws → Goes p.tables e below Q T' { g with pc := g.pc + 3, stack := v.toList ++ rest }) : Goes p.tables e below Q T g := by
  obtain ⟨vm0, locs, k0, h1, X', h3, h4, h5, h6, h7, h8, h9, h10, h11, h12⟩ := X
  obtain ⟨v, vm₁, ⟨T', L', k', n'⟩, -, X2, ⟨L, q, l2, y2, z2⟩, st⟩ := Jvm.LawKit.callS (s := s.setVm vm0) X' h4 h6 (mvT (s := s.setVm vm0) h5 w1) (mvT (s := s.setVm vm0) h5 w2) (mvT (s := s.setVm vm0) h5 w3) (mvT (s := s.setVm vm0) h5 w4) hy (hK vm0 h5) hg hsize hlen hstack hW hdg (fun _ _ => ⟨has, h3, hc, hs⟩)
  dsimp only [Pt.U, Pt.locs, Pt.cells, Pt.slots] at X2 l2 y2 z2 st q
  subst l2 y2 z2
  obtain ⟨F, K⟩ := hQ _ _ _ q
  exact Goes.go st (k T' T'.heap v L (Wk.came h1 h4 h5 h6 h7 h8 h9 h10 h11 h12 X2 F K hws (M _)) q K)
theorem Wk.special {hm' : Heap → Heap} {y : MethodName} {bytes : ByteArray} {maxL : Nat} {index W kc ks : Nat} {QQ : Option Value → Heap → List Loc → Prop} {a : Addr} {argsL rest : List Value} {as' : Array Value} {ws : List Addr} (X : Wk N p l e R s m args below meth c Z own EL hm T h cells slots)
    (hy1 : y.name = "<init>") (w1 : (Cond.methodLink own index y).before a0 Z = true) (w2 : (Cond.instanceMethod y).before a0 Z = true) (w4 : (Cond.code y bytes maxL none).before a0 Z = true) (hy : y.cls ≠ "java/lang/invoke/MethodHandle" ∧ y.cls ≠ "java/lang/invoke/VarHandle")
    (hK : Pays l R p e below s args Z y 3 W as' h kc ks QQ) (hQ : ∀ v h' L, QQ v h' L → Fr Z.heap.size L ∧ Keep h h' ws) (hws : ∀ x ∈ ws, Z.heap.size ≤ x) (M : ∀ h', Mark Z EL hm h ws h' (hm' h'))
    {g : JFrame} (hg : g.method = m) (hsize : g.locals.size = c.maxLocals) (hlen : ∀ sig, parseMethodDescriptor y.desc = some sig → argsL.length = sig.parameters.length) (has : (.ref a :: argsL).toArray = as') (hstack : g.stack = argsL.reverse ++ .ref a :: rest) (hW : 2 * g.monitorRoom + (rest.map fun v => v.category).sum ≤ W)
    (hdg : decode c.code g.pc = .ok (.invokespecial index, 3)) (hc : cells + kc ≤ R.cells) (hs : slots + ks ≤ R.slots)
    (k : ∀ (T' : State) (h' : Heap) (v : Option Value) (L : List Loc), Wk N p l e R s m args below meth c Z own EL (hm' h') T' h' (cells + kc) (slots + ks) → QQ v h' L → Keep h h' ws → Goes p.tables e below Q T' { g with pc := g.pc + 3, stack := v.toList ++ rest }) : Goes p.tables e below Q T g := by
  obtain ⟨vm0, locs, k0, h1, X', h3, h4, h5, h6, h7, h8, h9, h10, h11, h12⟩ := X
  obtain ⟨v, vm₁, ⟨T', L', k', n'⟩, -, X2, ⟨L, q, l2, y2, z2⟩, st⟩ := Stand.specialBack (s := s.setVm vm0) X' h4 hy1 h6 (mvT (s := s.setVm vm0) h5 w1) (mvT (s := s.setVm vm0) h5 w2) (mvT (s := s.setVm vm0) h5 w4) hy (hK vm0 h5) hg hsize (Steps.refl _) hlen hstack hW hdg (fun _ _ => ⟨has, h3, hc, hs⟩)
  dsimp only [Pt.U, Pt.locs, Pt.cells, Pt.slots] at X2 l2 y2 z2 st q
  subst l2 y2 z2
  obtain ⟨F, K⟩ := hQ _ _ _ q
  exact Goes.via st (k T' T'.heap v L (Wk.came h1 h4 h5 h6 h7 h8 h9 h10 h11 h12 X2 F K hws (M _)) q K)
theorem Wk.virtual {hm' : Heap → Heap} {C : String} {y z : MethodName} {index W kc ks : Nat} {QQ : Option Value → Heap → List Loc → Prop} {b : Addr} {argsL rest : List Value} {as' : Array Value} {ws : List Addr} (X : Wk N p l e R s m args below meth c Z own EL hm T h cells slots)
    (w1 : (Cond.methodLink own index y).before a0 Z = true) (w2 : (Cond.declares y).before a0 Z = true) (w3 : (Cond.selects C y z).before a0 Z = true) (w4 : (Cond.instanceMethod z).before a0 Z = true) (hy : y.cls ≠ "java/lang/invoke/MethodHandle" ∧ y.cls ≠ "java/lang/invoke/VarHandle") (E : Exa Z h b C)
    (hnf : ∀ vm0, Z.Warmed39 vm0 → NotFace (s.setVm vm0) y)
    (hK : Pays l R p e below s args Z z 3 W as' h kc ks QQ) (hQ : ∀ v h' L, QQ v h' L → Fr Z.heap.size L ∧ Keep h h' ws) (hws : ∀ x ∈ ws, Z.heap.size ≤ x) (M : ∀ h', Mark Z EL hm h ws h' (hm' h'))
    {g : JFrame} (hg : g.method = m) (hsize : g.locals.size = c.maxLocals) (hlen : ∀ sig, parseMethodDescriptor y.desc = some sig → argsL.length = sig.parameters.length) (has : (.ref b :: argsL).toArray = as') (hstack : g.stack = argsL.reverse ++ .ref b :: rest) (hW : 2 * g.monitorRoom + (rest.map fun v => v.category).sum ≤ W)
    (hdg : decode c.code g.pc = .ok (.invokevirtual index, 3)) (hc : cells + kc ≤ R.cells) (hs : slots + ks ≤ R.slots)
    (k : ∀ (T' : State) (h' : Heap) (v : Option Value) (L : List Loc), Wk N p l e R s m args below meth c Z own EL (hm' h') T' h' (cells + kc) (slots + ks) → QQ v h' L → Keep h h' ws → Goes p.tables e below Q T' { g with pc := g.pc + 3, stack := v.toList ++ rest }) : Goes p.tables e below Q T g := by
  obtain ⟨vm0, locs, k0, h1, X', h3, h4, h5, h6, h7, h8, h9, h10, h11, h12⟩ := X
  obtain ⟨cq, kq, qa, qb, qc⟩ := isOf (s := s.setVm vm0) h5 h3 E
  obtain ⟨v, vm₁, ⟨T', L', k', n'⟩, -, X2, ⟨L, q, l2, y2, z2⟩, st⟩ := Stand.virtualBack (s := s.setVm vm0) X' h4 h6 (mvT (s := s.setVm vm0) h5 w1) (mvT (s := s.setVm vm0) h5 w2) (hnf vm0 h5) (mvT (s := s.setVm vm0) h5 w3) (mvT (s := s.setVm vm0) h5 w4) hy (hK vm0 h5) qa qc hg hsize (Steps.refl _) hlen hstack hW hdg (fun _ _ => ⟨has, h3, hc, hs⟩)
  dsimp only [Pt.U, Pt.locs, Pt.cells, Pt.slots] at X2 l2 y2 z2 st q
  subst l2 y2 z2
  obtain ⟨F, K⟩ := hQ _ _ _ q
  exact Goes.via st (k T' T'.heap v L (Wk.came h1 h4 h5 h6 h7 h8 h9 h10 h11 h12 X2 F K hws (M _)) q K)
theorem Wk.staticS {y : MethodName} {bytes : ByteArray} {maxL : Nat} {ret : Option FieldType} {index W kc ks : Nat} {QQ : Option Value → Heap → List Loc → Prop} {argsL rest : List Value} {as' : Array Value} {ws : List Addr} (X : Wk N p l e R s m args below meth c Z own EL hm T h cells slots)
    (w1 : (Cond.methodLink own index y).before a0 Z = true) (w2 : (Cond.static y).before a0 Z = true) (w3 : (Cond.initialized y.cls).before a0 Z = true) (w4 : (Cond.code y bytes maxL ret).before a0 Z = true) (hy : y.cls ≠ "java/lang/invoke/MethodHandle" ∧ y.cls ≠ "java/lang/invoke/VarHandle")
    (hK : PaysS l R p e below s args Z EL y 3 W as' h kc ks QQ) (hQ : ∀ v h' L, QQ v h' L → Fr Z.heap.size L ∧ Keep h h' ws) (hws : ∀ x ∈ ws, Z.heap.size ≤ x)
    {g : JFrame} (hg : g.method = m) (hsize : g.locals.size = c.maxLocals) (hlen : ∀ sig, parseMethodDescriptor y.desc = some sig → argsL.length = sig.parameters.length) (has : argsL.toArray = as') (hstack : g.stack = argsL.reverse ++ rest) (hW : 2 * g.monitorRoom + (rest.map fun v => v.category).sum ≤ W)
    (hdg : decode c.code g.pc = .ok (.invokestatic index, 3)) (hc : cells + kc ≤ R.cells) (hs : slots + ks ≤ R.slots)
    (k : ∀ (T' : State) (h' : Heap) (v : Option Value) (L : List Loc), Wk False p l e R s m args below meth c Z own EL h' T' h' (cells + kc) (slots + ks) → QQ v h' L → Keep h h' ws → Goes p.tables e below Q T' { g with pc := g.pc + 3, stack := v.toList ++ rest }) : Goes p.tables e below Q T g := by
  obtain ⟨vm0, locs, k0, h1, X', h3, h4, h5, h6, h7, h8, h9, h10, h11, h12⟩ := X
  have C1 := h10.trans (CHr.ext h11 h10.1)
  obtain ⟨v, vm₁, ⟨T', L', k', n'⟩, -, X2, S2, -, ⟨L, q, l2, y2, z2, C2⟩, st⟩ := callSS (s := s.setVm vm0) X' h4 h6 (mvT (s := s.setVm vm0) h5 w1) (mvT (s := s.setVm vm0) h5 w2) (mvT (s := s.setVm vm0) h5 w3) (mvT (s := s.setVm vm0) h5 w4) hy (hK vm0 h5 C1.1) hg hsize hlen hstack hW hdg (fun _ _ => ⟨has, h3, hc, hs⟩)
  dsimp only [Pt.U, Pt.locs, Pt.cells, Pt.slots] at X2 S2 l2 y2 z2 st q C2
  subst l2 y2 z2
  obtain ⟨F, K⟩ := hQ _ _ _ q
  exact Goes.via st (k T' T'.heap v L (Wk.cameS h4 h5 h6 h7 h8 h9 C1 h12 X2 S2 F K hws C2) q K)
theorem Wk.specialS {y : MethodName} {bytes : ByteArray} {maxL : Nat} {index W kc ks : Nat} {QQ : Option Value → Heap → List Loc → Prop} {a : Addr} {argsL rest : List Value} {as' : Array Value} {ws : List Addr} (X : Wk N p l e R s m args below meth c Z own EL hm T h cells slots)
    (hy1 : y.name = "<init>") (w1 : (Cond.methodLink own index y).before a0 Z = true) (w2 : (Cond.instanceMethod y).before a0 Z = true) (w4 : (Cond.code y bytes maxL none).before a0 Z = true) (hy : y.cls ≠ "java/lang/invoke/MethodHandle" ∧ y.cls ≠ "java/lang/invoke/VarHandle")
    (hK : PaysS l R p e below s args Z EL y 3 W as' h kc ks QQ) (hQ : ∀ v h' L, QQ v h' L → Fr Z.heap.size L ∧ Keep h h' ws) (hws : ∀ x ∈ ws, Z.heap.size ≤ x)
    {g : JFrame} (hg : g.method = m) (hsize : g.locals.size = c.maxLocals) (hlen : ∀ sig, parseMethodDescriptor y.desc = some sig → argsL.length = sig.parameters.length) (has : (.ref a :: argsL).toArray = as') (hstack : g.stack = argsL.reverse ++ .ref a :: rest) (hW : 2 * g.monitorRoom + (rest.map fun v => v.category).sum ≤ W)
    (hdg : decode c.code g.pc = .ok (.invokespecial index, 3)) (hc : cells + kc ≤ R.cells) (hs : slots + ks ≤ R.slots)
    (k : ∀ (T' : State) (h' : Heap) (v : Option Value) (L : List Loc), Wk False p l e R s m args below meth c Z own EL h' T' h' (cells + kc) (slots + ks) → QQ v h' L → Keep h h' ws → Goes p.tables e below Q T' { g with pc := g.pc + 3, stack := v.toList ++ rest }) : Goes p.tables e below Q T g := by
  obtain ⟨vm0, locs, k0, h1, X', h3, h4, h5, h6, h7, h8, h9, h10, h11, h12⟩ := X
  have C1 := h10.trans (CHr.ext h11 h10.1)
  obtain ⟨v, vm₁, ⟨T', L', k', n'⟩, -, X2, S2, -, ⟨L, q, l2, y2, z2, C2⟩, st⟩ := Stand.specialBackS (s := s.setVm vm0) X' h4 hy1 h6 (mvT (s := s.setVm vm0) h5 w1) (mvT (s := s.setVm vm0) h5 w2) (mvT (s := s.setVm vm0) h5 w4) hy (hK vm0 h5 C1.1) hg hsize (Steps.refl _) hlen hstack hW hdg (fun _ _ => ⟨has, h3, hc, hs⟩)
  dsimp only [Pt.U, Pt.locs, Pt.cells, Pt.slots] at X2 S2 l2 y2 z2 st q C2
  subst l2 y2 z2
  obtain ⟨F, K⟩ := hQ _ _ _ q
  exact Goes.via st (k T' T'.heap v L (Wk.cameS h4 h5 h6 h7 h8 h9 C1 h12 X2 S2 F K hws C2) q K)
theorem Wk.virtualS {C : String} {y z : MethodName} {index W kc ks : Nat} {QQ : Option Value → Heap → List Loc → Prop} {b : Addr} {argsL rest : List Value} {as' : Array Value} {ws : List Addr} (X : Wk N p l e R s m args below meth c Z own EL hm T h cells slots)
    (w1 : (Cond.methodLink own index y).before a0 Z = true) (w2 : (Cond.declares y).before a0 Z = true) (w3 : (Cond.selects C y z).before a0 Z = true) (w4 : (Cond.instanceMethod z).before a0 Z = true) (hy : y.cls ≠ "java/lang/invoke/MethodHandle" ∧ y.cls ≠ "java/lang/invoke/VarHandle") (E : Exa Z h b C)
    (hnf : ∀ vm0, Z.Warmed39 vm0 → NotFace (s.setVm vm0) y)
    (hK : PaysS l R p e below s args Z EL z 3 W as' h kc ks QQ) (hQ : ∀ v h' L, QQ v h' L → Fr Z.heap.size L ∧ Keep h h' ws) (hws : ∀ x ∈ ws, Z.heap.size ≤ x)
    {g : JFrame} (hg : g.method = m) (hsize : g.locals.size = c.maxLocals) (hlen : ∀ sig, parseMethodDescriptor y.desc = some sig → argsL.length = sig.parameters.length) (has : (.ref b :: argsL).toArray = as') (hstack : g.stack = argsL.reverse ++ .ref b :: rest) (hW : 2 * g.monitorRoom + (rest.map fun v => v.category).sum ≤ W)
    (hdg : decode c.code g.pc = .ok (.invokevirtual index, 3)) (hc : cells + kc ≤ R.cells) (hs : slots + ks ≤ R.slots)
    (k : ∀ (T' : State) (h' : Heap) (v : Option Value) (L : List Loc), Wk False p l e R s m args below meth c Z own EL h' T' h' (cells + kc) (slots + ks) → QQ v h' L → Keep h h' ws → Goes p.tables e below Q T' { g with pc := g.pc + 3, stack := v.toList ++ rest }) : Goes p.tables e below Q T g := by
  obtain ⟨vm0, locs, k0, h1, X', h3, h4, h5, h6, h7, h8, h9, h10, h11, h12⟩ := X
  obtain ⟨cq, kq, qa, qb, qc⟩ := isOf (s := s.setVm vm0) h5 h3 E
  have C1 := h10.trans (CHr.ext h11 h10.1)
  obtain ⟨v, vm₁, ⟨T', L', k', n'⟩, -, X2, S2, -, ⟨L, q, l2, y2, z2, C2⟩, st⟩ := Stand.virtualBackS (s := s.setVm vm0) X' h4 h6 (mvT (s := s.setVm vm0) h5 w1) (mvT (s := s.setVm vm0) h5 w2) (hnf vm0 h5) (mvT (s := s.setVm vm0) h5 w3) (mvT (s := s.setVm vm0) h5 w4) hy (hK vm0 h5 C1.1) qa qc hg hsize (Steps.refl _) hlen hstack hW hdg (fun _ _ => ⟨has, h3, hc, hs⟩)
  dsimp only [Pt.U, Pt.locs, Pt.cells, Pt.slots] at X2 S2 l2 y2 z2 st q C2
  subst l2 y2 z2
  obtain ⟨F, K⟩ := hQ _ _ _ q
  exact Goes.via st (k T' T'.heap v L (Wk.cameS h4 h5 h6 h7 h8 h9 C1 h12 X2 S2 F K hws C2) q K)
theorem nf_sel {C : String} {y : MethodName} (w3 : (Cond.selects C y y).before a0 Z = true) : ∀ vm0, Z.Warmed39 vm0 → NotFace (s.setVm vm0) y := fun vm0 h5 => notFace_of_selects (args := #[]) (mvT (s := s.setVm vm0) h5 w3)
/-! entering a body -/
theorem CHv.none {vm : Vm} : CHv Z [] vm h := fun _ hp => by cases hp
theorem CtrN.of {y : MethodName} {bytes : ByteArray} {maxL : Nat} {ret : Option FieldType} {rm : Room} {as' : Array Value} {h0 : Heap} {Qv : Option Value → Heap → Prop} (hpn : plainFor y = true) (hO : Ext Z.heap h0)
    (body : ∀ (p : Program) (e : Env) (s : State) (m : MethodId) (below : List Frame) (meth : Method) (c : Code) (T : State), Wk True p l e rm s m as' below meth c Z y.cls [] h0 T h0 0 0 → s.heap = h0 → c.code = bytes → c.maxLocals = maxL → meth.sig.returnType = ret → meth.locks = false → meth.name = y.name →
      Goes p.tables e below (EndN Z s rm.cells rm.slots Qv) T (entryFrame m as' maxL)) : CtrN l Z y bytes maxL ret rm as' h0 Qv := by
  intro ws
  refine MetFree.of_bodySF hpn hisR ?_
  intro p e s m args below meth c s₁ Bd hml0 hP hK
  obtain ⟨rfl, hZ, hh⟩ := hP
  have hown := findClass_of_methodNamed Bd.named
  have hnm := (name_of_methodNamed Bd.named Bd.method).1
  have e0 : s₁.heap = h0 := by rw [← hh, Bd.state]; rfl
  exact body p e s m below meth c s₁ (Wk.start (Stand.of_body Bd) e0 hh Bd.exec hZ hown CHv.none hO) hh Bd.bytes hml0 Bd.returns Bd.notSynchronized hnm
theorem CtrS.of {y : MethodName} {bytes : ByteArray} {maxL : Nat} {ret : Option FieldType} {rm : Room} {as' : Array Value} {h0 : Heap} {Qv : Option Value → Heap → Prop} (hpn : plainFor y = true) (hO : Ext Z.heap h0)
    (body : ∀ (p : Program) (e : Env) (s : State) (m : MethodId) (below : List Frame) (meth : Method) (c : Code) (T : State), Wk False p l e rm s m as' below meth c Z y.cls EL h0 T h0 0 0 → s.heap = h0 → c.code = bytes → c.maxLocals = maxL → meth.sig.returnType = ret → meth.locks = false → meth.name = y.name →
      Goes p.tables e below (EndS Z s EL rm.cells rm.slots Qv) T (entryFrame m as' maxL)) : CtrS l Z EL y bytes maxL ret rm as' h0 Qv := by
  intro ws
  refine MetFree.of_bodySF hpn hisR ?_
  intro p e s m args below meth c s₁ Bd hml0 hP hK
  obtain ⟨rfl, hZ, hh, hC⟩ := hP
  have hown := findClass_of_methodNamed Bd.named
  have hnm := (name_of_methodNamed Bd.named Bd.method).1
  have e0 : s₁.heap = h0 := by rw [← hh, Bd.state]; rfl
  exact body p e s m below meth c s₁ (Wk.start (Stand.of_body Bd) e0 hh Bd.exec hZ hown hC hO) hh Bd.bytes hml0 Bd.returns Bd.notSynchronized hnm
end Walk
/-! branches -/
section Branch
variable {tb : Tables} [Ours tb] {e : Env} {below : List Frame} {Q : Outcome → State → Prop} {T : State} {m : MethodId} {c : Code} {Ls : Array Slot} {rest : List Value} {pc pc' : Nat} {o : Int} {x y : Int32} {cd : ClassFile.Cond}
abbrev cdP (cd : ClassFile.Cond) (x y : Int32) : Prop := match cd with
  | .eq => x = y
  | .ne => ¬ x = y
  | .lt => x < y
  | .ge => ¬ x < y
  | .gt => y < x
  | .le => ¬ y < x
theorem cd_t (h : cdP cd x y) : if_icmp.holds cd x y = true := by
  cases cd
  · exact (teq h).1
  · exact (feq h).2
  · exact (tlt h).1
  · exact (flt h).2.1
  · exact (tlt h).2.2.1
  · exact (flt h).2.2.2
theorem cd_f (h : ¬ cdP cd x y) : if_icmp.holds cd x y = false := by
  cases cd
  · exact (feq h).1
  · exact (teq (Classical.not_not.mp h)).2
  · exact (flt h).1
  · exact (tlt (Classical.not_not.mp h)).2.1
  · exact (flt h).2.2.1
  · exact (tlt (Classical.not_not.mp h)).2.2.2
theorem Goes.icmp (h : At T m c below) (hx : tb.exec = Jvm.exec) (hd : decode c.code pc = .ok (.if_icmp cd o, 3)) (ho : 0 ≤ (pc : Int) + o) (hp : ((pc : Int) + o).toNat = pc')
    (kt : cdP cd x y → Goes tb e below Q T (mkF m pc' Ls rest)) (kf : ¬ cdP cd x y → Goes tb e below Q T (mkF m (pc + 3) Ls rest)) : Goes tb e below Q T (mkF m pc Ls (.int y :: .int x :: rest)) := by
  by_cases q : cdP cd x y
  · exact Goes.go (fun _ => XS.icmpYes h hx rfl rfl hd rfl (cd_t q) ho hp) (kt q)
  · exact Goes.go (fun _ => XS.icmpNo h hx rfl hd rfl (cd_f q)) (kf q)
theorem Goes.ifc (h : At T m c below) (hx : tb.exec = Jvm.exec) (hd : decode c.code pc = .ok (.ifCond cd o, 3)) (ho : 0 ≤ (pc : Int) + o) (hp : ((pc : Int) + o).toNat = pc')
    (kt : cdP cd x 0 → Goes tb e below Q T (mkF m pc' Ls rest)) (kf : ¬ cdP cd x 0 → Goes tb e below Q T (mkF m (pc + 3) Ls rest)) : Goes tb e below Q T (mkF m pc Ls (.int x :: rest)) := by
  by_cases q : cdP cd x 0
  · exact Goes.go (fun _ => XS.ifYes h hx rfl rfl hd rfl ((if0 _ _).trans (cd_t q)) ho hp) (kt q)
  · exact Goes.go (fun _ => XS.ifNo h hx rfl hd rfl ((if0 _ _).trans (cd_f q))) (kf q)
theorem Goes.acmp {ac : ClassFile.ACond} {u v : Value} (h : At T m c below) (hx : tb.exec = Jvm.exec) (hd : decode c.code pc = .ok (.if_acmp ac o, 3)) (r1 : u.isRef = true) (r2 : v.isRef = true) (ho : 0 ≤ (pc : Int) + o) (hp : ((pc : Int) + o).toNat = pc')
    (kt : Jvm.Free.XT.acmp ac u v = true → Goes tb e below Q T (mkF m pc' Ls rest)) (kf : Jvm.Free.XT.acmp ac u v = false → Goes tb e below Q T (mkF m (pc + 3) Ls rest)) : Goes tb e below Q T (mkF m pc Ls (v :: u :: rest)) := by
  cases q : Jvm.Free.XT.acmp ac u v
  · exact Goes.go (fun _ => Jvm.Free.XT.acmpNo h hx rfl hd rfl r1 r2 q) (kf q)
  · exact Goes.go (fun _ => Jvm.Free.XT.acmpYes h hx rfl rfl hd rfl r1 r2 q ho hp) (kt q)
end Branch
/-! Strings of Latin-1 chars -/
section Strs
variable {Z : State} {a0 : Array Value} {h h' : Heap} {a x : Addr} {cs : List Int32}
/-- a String whose chars are cs, each 0 to 255 -/
def LStr (Z : State) (h : Heap) (a : Addr) (cs : List Int32) : Prop :=
  Exa Z h a "java/lang/String" ∧ Fld Z h a "java/lang/String" "coder" "B" (.int 0) ∧ (∃ (t : Addr) (kb : ClassId), Fld Z h a "java/lang/String" "value" "[B" (.ref t) ∧ Arv Z h t kb .byte (Int32.ofNat cs.length) ((cs.map fun c => c.toInt8.toInt32).map Value.int) (.int 0)) ∧ (∀ c ∈ cs, ¬ c < 0 ∧ ¬ (255 : Int32) < c) ∧ cs.length ≤ 4000
theorem LStr.ext (S : LStr Z h a cs) (E : Ext h h') : LStr Z h' a cs := by
  obtain ⟨h1, h2, ⟨t, kb, h3, h4⟩, h5⟩ := S
  exact ⟨h1.ext E, h2.ext E, ⟨t, kb, h3.ext E, h4.ext E⟩, h5⟩
theorem LStr.keep {C : String} {n : Nat} (S : LStr Z h a cs) (K : Keep h h' [x]) (E : Exa Z h x C) (hC : C ≠ "java/lang/String") (wi : (Cond.instantiable C n).before a0 Z = true) : LStr Z h' a cs := by
  obtain ⟨h1, h2, ⟨t, kb, h3, h4⟩, h5⟩ := S
  have n1 : a ∉ [x] := fun q => by cases List.mem_singleton.mp q; exact Exa.ne h1 E (Ne.symm hC) rfl
  have n2 : t ∉ [x] := fun q => by cases List.mem_singleton.mp q; exact Exa.neArv E h4 wi rfl
  exact ⟨h1.keep K, h2.keep K n1, ⟨t, kb, h3.keep K n1, h4.keep K n2⟩, h5⟩
theorem LStr.keep2 {C D : String} {n k : Nat} {y : Addr} (S : LStr Z h a cs) (K : Keep h h' [x, y]) (E : Exa Z h x C) (hC : C ≠ "java/lang/String") (wi : (Cond.instantiable C n).before a0 Z = true) (E' : Exa Z h y D) (hD : D ≠ "java/lang/String") (wi' : (Cond.instantiable D k).before a0 Z = true) : LStr Z h' a cs := by
  obtain ⟨h1, h2, ⟨t, kb, h3, h4⟩, h5⟩ := S
  have n1 : a ∉ [x, y] := ninS (Exa.ne h1 E (Ne.symm hC)) (ninS (Exa.ne h1 E' (Ne.symm hD)) nin0)
  have n2 : t ∉ [x, y] := ninS (Exa.neArv E h4 wi).symm (ninS (Exa.neArv E' h4 wi').symm nin0)
  exact ⟨h1.keep K, h2.keep K n1, ⟨t, kb, h3.keep K n1, h4.keep K n2⟩, h5⟩
/-- a String under construction (its value still null) is no literal's -/
theorem SafeA.null {EL : List (String × Nat)} (E : Exa Z h x "java/lang/String") (V : Fld Z h x "java/lang/String" "value" "[B" .null) : SafeA Z EL h x := fun vm hal B => by
  obtain ⟨p, -, u, a, -, q, -, F, hy⟩ := B
  have Fa := F.ha
  have Fd := F.hd
  obtain ⟨cS, ⟨⟨s1, s2, s3, ⟨cv, kv, iv, s4, s4'⟩, ⟨cc, kc, ic, s5, s5'⟩, s6, s7, s8, s9, s10, s11, s12, s13, s14, s15, s16⟩, hfS, hcS⟩, ⟨kS, k1, k2, k3⟩, hB, hbyt⟩ := F
  obtain ⟨c1, kx, e1, e2, e3, e4, e5⟩ := E
  obtain ⟨c2, cf, k, i, f, v1, v2, v3, v4, v5, v6, v7⟩ := V
  cases e1.symm.trans v1
  rcases hy with rfl | rfl
  · obtain ⟨kv', z4⟩ := ff_back (U := Wst Z vm h) hal s4
    have z4 : Z.fieldFound? "java/lang/String" "value" "[B" = _ := z4
    rw [v2] at z4
    simp only [Option.some.injEq, Prod.mk.injEq] at z4
    cases (show h[q.sa]? = some q.sC from s1).symm.trans e1
    rw [z4.2.2.2, s8] at v7
    cases v7
  · cases (show h[q.sd]? = some q.SA from s10).symm.trans e1
    obtain ⟨-, kA, hkA, comp, hkind⟩ := s11
    have hfS' : vm.findClass "java/lang/String" = some cS := hfS
    rw [hal.findClass] at hfS'
    cases hfS'.symm.trans e2
    cases (show vm.classes[q.SA.cls]? = some kS from k1).symm.trans (show vm.classes[q.SA.cls]? = some kA from hkA)
    rw [k2] at hkind
    cases hkind
theorem LStr.lt (S : LStr Z h a cs) : a < h.size := S.1.lt
end Strs
end Jvm.OwnKit
/- laws to paste: Road.backV, Road.lenW, Road.chN, Road.codOf (cut by pick.py; bodies as the Statement names them) -/
namespace Jvm.Pilot.@@N@@
namespace StrChars
open Jvm Sem ClassFile Op Lib Jvm.Stand Jvm.Free.XT Jvm.Free.ALB Jvm.Free.JM Jvm.Free
open Jvm.Lib.Cold (StaticIs)
/-- a char array whose places are chars -/
def Ch (a : Addr) (A : Cell) (U : State) : Prop := Arr .char a A U ∧ Typed .char A
theorem Ch.mv {a : Addr} {A : Cell} {U U' : State} (h : Ch a A U) (hal : U.vm.Alike U'.vm) (hh : U'.heap = U.heap) : Ch a A U' := ⟨h.1.mv hal hh, h.2⟩
theorem Ch.keep {a : Addr} {A : Cell} {U U' : State} (h : Ch a A U) (hal : U.vm.Alike U'.vm) (hk : U'.heap[a]? = some A) : Ch a A U' := ⟨h.1.keep hal hk, h.2⟩
/-- what place i of a char[]'s cell holds -/
def cv (A : Cell) (i : Nat) : Int32 := match A.slots[i]? with | some (.int x) => x | _ => 0
theorem Ch.get {a : Addr} {A : Cell} {U : State} (h : Ch a A U) {i : Nat} (hi : i < A.slots.size) : A.slots[i]? = some (.int (cv A i)) := by
  have e := Array.getElem?_eq_getElem hi
  have f := h.2 i _ e
  unfold cv; rw [e]
  generalize A.slots[i] = v at f
  cases v <;> simp [fits] at f ⊢
/-- the byte that i2b leaves of a char -/
def lo8 (x : Int32) : Int32 := x.toInt8.toInt32
theorem fits_lo8 (y : Int32) : fits .byte (.int (lo8 y)) = true := by
  have h1 := y.toInt8.le_toInt
  have h2 := y.toInt8.toInt_lt
  simp only [lo8, fits, Bool.and_eq_true, decide_eq_true_eq, Int32.le_iff_toInt_le, Int8.toInt_toInt32, show (-128 : Int32).toInt = -128 from by decide, show (127 : Int32).toInt = 127 from by decide]
  omega
/-- A' is A but that each place j of lo .. hi - 1 holds f j -/
def Laid (A A' : Cell) (lo hi : Nat) (f : Nat → Value) : Prop := A'.cls = A.cls ∧ A'.vm = A.vm ∧ A'.slots.size = A.slots.size ∧ ∀ i, A'.slots[i]? = if lo ≤ i ∧ i < hi then some (f i) else A.slots[i]?
theorem Laid.zero (A : Cell) (lo : Nat) (f : Nat → Value) : Laid A A lo (lo + 0) f := ⟨rfl, rfl, rfl, fun i => by rw [if_neg (by omega)]⟩
theorem Laid.step {A Ak : Cell} {lo k : Nat} {f : Nat → Value} {v : Value} (h : Laid A Ak lo k f) (hlo : lo ≤ k) (hk : k < Ak.slots.size) (hv : v = f k) : Laid A (Ak.setSlot k v) lo (k + 1) f := by
  refine ⟨h.1, h.2.1, by simpa [Cell.setSlot] using h.2.2.1, fun i => ?_⟩
  by_cases e : k = i
  · subst e; rw [Cell.slots_setSlot_self v hk, if_pos (by omega), hv]
  · rw [Cell.slots_setSlot_ne v e, h.2.2.2 i]
    by_cases q : lo ≤ i ∧ i < k
    · rw [if_pos q, if_pos (by omega)]
    · rw [if_neg q, if_neg (by omega)]
def U16 : String := "java/lang/StringUTF16"
namespace Cmp5
def yN : MethodName := ⟨"java/lang/StringUTF16", "compress", "([CI[BII)I"⟩
abbrev yB : ByteArray := jdk_52_method_21_code
theorem d0 : decode yB 0 = .ok (.iconst 0, 1) := by decide +kernel
theorem d1 : decode yB 1 = .ok (.istore 5, 2) := by decide +kernel
theorem d3 : decode yB 3 = .ok (.iload 5, 2) := by decide +kernel
theorem d5 : decode yB 5 = .ok (.iload 4, 2) := by decide +kernel
theorem d7 : decode yB 7 = .ok (.if_icmp (.ge) 37, 3) := by decide +kernel
theorem d10 : decode yB 10 = .ok (.aload_n 0, 1) := by decide +kernel
theorem d11 : decode yB 11 = .ok (.iload_n 1, 1) := by decide +kernel
theorem d12 : decode yB 12 = .ok (.caload, 1) := by decide +kernel
theorem d13 : decode yB 13 = .ok (.istore 6, 2) := by decide +kernel
theorem d15 : decode yB 15 = .ok (.iload 6, 2) := by decide +kernel
theorem d17 : decode yB 17 = .ok (.sipush 255, 3) := by decide +kernel
theorem d20 : decode yB 20 = .ok (.if_icmp (.le) 6, 3) := by decide +kernel
theorem d26 : decode yB 26 = .ok (.aload_n 2, 1) := by decide +kernel
theorem d27 : decode yB 27 = .ok (.iload_n 3, 1) := by decide +kernel
theorem d28 : decode yB 28 = .ok (.iload 6, 2) := by decide +kernel
theorem d30 : decode yB 30 = .ok (.i2b, 1) := by decide +kernel
theorem d31 : decode yB 31 = .ok (.bastore, 1) := by decide +kernel
theorem d32 : decode yB 32 = .ok (.iinc 1 1, 3) := by decide +kernel
theorem d35 : decode yB 35 = .ok (.iinc 3 1, 3) := by decide +kernel
theorem d38 : decode yB 38 = .ok (.iinc 5 1, 3) := by decide +kernel
theorem d41 : decode yB 41 = .ok (.goto (-38), 3) := by decide +kernel
theorem d44 : decode yB 44 = .ok (.iload 4, 2) := by decide +kernel
theorem d46 : decode yB 46 = .ok (.ireturn, 1) := by decide +kernel
def site : List Cond := []
def tab : Cond := tabOf yN yB 7 (some .int) site
def P (b : Addr) (A : Cell) (d : Addr) (B : Cell) (o q len : Nat) (args : Array Value) (s : State) : Prop := args = #[.ref b, .int (Int32.ofNat o), .ref d, .int (Int32.ofNat q), .int (Int32.ofNat len)] ∧ Ch b A s ∧ Arr .byte d B s ∧ b ≠ d ∧ o + len ≤ A.slots.size ∧ q + len ≤ B.slots.size ∧ ∀ i, i < len → ¬ 255 < cv A (o + i)
def E (b : Addr) (A : Cell) (d : Addr) (B : Cell) (o q len : Nat) (r : Option Value) (s u : State) : Prop := r = some (.int (Int32.ofNat len)) ∧ ∃ B', Put d B' s u ∧ Laid B B' q (q + len) (fun j => Value.int (lo8 (cv A (o + (j - q)))))
/-- no char of the range above 255: len; the places written hold each char's low byte -/
theorem law (l : Launch) (b : Addr) (A : Cell) (d : Addr) (B : Cell) (o q len : Nat) : Law l yN 5 5 0 0 yB 7 (some .int) site (P b A d B o q len) (E b A d B o q len) (copyLocs d q len) 0 0 := by
  refine Law.of_walk (plainFor_of_name (by decide +kernel)) (by decide +kernel) (by decide +kernel) (by decide) (fun _ _ h => by rw [h.1]; rfl) (fun _ U U' hal hh h => ⟨h.1, h.2.1.mv hal hh, h.2.2.1.mv hal hh, h.2.2.2⟩) (fun r U U' V V' h1 hal h2 h => ⟨h.1, h.2.elim fun B' q => ⟨B', q.1.mv h1 h2, q.2⟩⟩) ?_
  intro p e s m args below meth c s₁ X0 hexec hbytes hml hret hlk hnm hown hh0 W hP
  obtain ⟨rfl, hA, hB, hne, l1, l2, hp⟩ := hP
  have c1 : Steps p.tables e below (s₁.setTop (entryFrame m #[.ref b, .int (Int32.ofNat o), .ref d, .int (Int32.ofNat q), .int (Int32.ofNat len)] 7)) (s₁.setTop (mkF m 0 #[.val (.ref b), .val (.int (Int32.ofNat o)), .val (.ref d), .val (.int (Int32.ofNat q)), .val (.int (Int32.ofNat len)), .unset, .unset] [])) := entry rfl
  have hA0 := hA.1.mv X0.warmed.alike hh0
  have hB0 := hB.mv X0.warmed.alike hh0
  have a31 := hA.1.2.2.2
  have c2 : Steps p.tables e below (s₁.setTop (entryFrame m #[.ref b, .int (Int32.ofNat o), .ref d, .int (Int32.ofNat q), .int (Int32.ofNat len)] 7)) (s₁.setTop (mkF m 3 #[.val (.ref b), .val (.int (Int32.ofNat o)), .val (.ref d), .val (.int (Int32.ofNat q)), .val (.int (Int32.ofNat len)), .val (.int 0), .unset] [])) := c1.trans (by
    refine iconstV X0.here hexec rfl 0 (hb hbytes d0) (by decide) ?_
    refine XS.istore X0.here hexec rfl (hb hbytes d1) rfl rfl ?_
    exact Steps.refl _)
  have loop : ∀ (r i : Nat), i + r = len → ∀ (z : Slot), (z = .unset ∨ ∃ w, z = .val w ∧ w.category = 1) → ∀ (Tl : State) (Bk : Cell), Stand p l e { frames := 0, locals := 0, cells := 0, slots := 0 } s m #[.ref b, .int (Int32.ofNat o), .ref d, .int (Int32.ofNat q), .int (Int32.ofNat len)] below meth c Tl ([] ++ copyLocs d q i) 0 0 → Put d Bk s₁ Tl → Laid B Bk q (q + i) (fun j => Value.int (lo8 (cv A (o + (j - q))))) →
      Steps p.tables e below (s₁.setTop (entryFrame m #[.ref b, .int (Int32.ofNat o), .ref d, .int (Int32.ofNat q), .int (Int32.ofNat len)] 7)) (Tl.setTop (mkF m 3 #[.val (.ref b), .val (.int (Int32.ofNat (o + i))), .val (.ref d), .val (.int (Int32.ofNat (q + i))), .val (.int (Int32.ofNat len)), .val (.int (Int32.ofNat i)), z] [])) → ∃ (T' : State) (B' : Cell) (z' : Slot), Stand p l e { frames := 0, locals := 0, cells := 0, slots := 0 } s m #[.ref b, .int (Int32.ofNat o), .ref d, .int (Int32.ofNat q), .int (Int32.ofNat len)] below meth c T' ([] ++ copyLocs d q len) 0 0 ∧ Put d B' s₁ T' ∧ Laid B B' q (q + len) (fun j => Value.int (lo8 (cv A (o + (j - q))))) ∧
      Steps p.tables e below (s₁.setTop (entryFrame m #[.ref b, .int (Int32.ofNat o), .ref d, .int (Int32.ofNat q), .int (Int32.ofNat len)] 7)) (T'.setTop (mkF m 3 #[.val (.ref b), .val (.int (Int32.ofNat (o + len))), .val (.ref d), .val (.int (Int32.ofNat (q + len))), .val (.int (Int32.ofNat len)), .val (.int (Int32.ofNat len)), z'] [])) := by
    intro r
    induction r with
    | zero =>
      intro i hi z hz Tl Bk Xl pl fl cl
      have hil : i = len := by omega
      rw [hil] at Xl fl cl
      exact ⟨Tl, Bk, z, Xl, pl, fl, cl⟩
    | succ r ih =>
      intro i hi z hz Tl Bk Xl pl fl cl
      have all := X0.warmed.alike.symm.trans Xl.warmed.alike
      have hAl := hA0.keep all (pl.other hne hA0.1)
      have hBk := hB0.like all pl.1 fl.1 fl.2.1 fl.2.2.1
      have hlt : q + i < Bk.slots.size := by rw [fl.2.2.1]; omega
      have c3 : Steps p.tables e below (s₁.setTop (entryFrame m #[.ref b, .int (Int32.ofNat o), .ref d, .int (Int32.ofNat q), .int (Int32.ofNat len)] 7)) (Tl.setTop (mkF m 12 #[.val (.ref b), .val (.int (Int32.ofNat (o + i))), .val (.ref d), .val (.int (Int32.ofNat (q + i))), .val (.int (Int32.ofNat len)), .val (.int (Int32.ofNat i)), z] [.int (Int32.ofNat (o + i)), .ref b])) := cl.trans (by
        refine XS.iload Xl.here hexec rfl (hb hbytes d3) rfl ?_
        refine XS.iload Xl.here hexec rfl (hb hbytes d5) rfl ?_
        refine XS.icmpNo Xl.here hexec rfl (hb hbytes d7) rfl (ii_ge_f (lt32 (by omega) (by omega))) ?_
        refine XS.aloadN Xl.here hexec rfl (hb hbytes d10) rfl rfl ?_
        refine XS.iloadN Xl.here hexec rfl (hb hbytes d11) rfl ?_
        exact Steps.refl _)
      have c4 : Steps p.tables e below (s₁.setTop (entryFrame m #[.ref b, .int (Int32.ofNat o), .ref d, .int (Int32.ofNat q), .int (Int32.ofNat len)] 7)) (Tl.setTop (mkF m 13 #[.val (.ref b), .val (.int (Int32.ofNat (o + i))), .val (.ref d), .val (.int (Int32.ofNat (q + i))), .val (.int (Int32.ofNat len)), .val (.int (Int32.ofNat i)), z] [.int (cv A (o + i))])) := c3.trans (by
        refine Xl.aget hexec hAl rfl (hA.get (i := o + i) (by omega)) rfl rfl (hb hbytes d12) ?_
        exact Steps.refl _)
      have c5 : Steps p.tables e below (s₁.setTop (entryFrame m #[.ref b, .int (Int32.ofNat o), .ref d, .int (Int32.ofNat q), .int (Int32.ofNat len)] 7)) (Tl.setTop (mkF m 15 #[.val (.ref b), .val (.int (Int32.ofNat (o + i))), .val (.ref d), .val (.int (Int32.ofNat (q + i))), .val (.int (Int32.ofNat len)), .val (.int (Int32.ofNat i)), .val (.int (cv A (o + i)))] [])) := c4.trans (by
        refine XS.istoreS Xl.here hexec rfl (hb hbytes d13) rfl rfl hz ?_
        exact Steps.refl _)
      have c6 : Steps p.tables e below (s₁.setTop (entryFrame m #[.ref b, .int (Int32.ofNat o), .ref d, .int (Int32.ofNat q), .int (Int32.ofNat len)] 7)) (Tl.setTop (mkF m 31 #[.val (.ref b), .val (.int (Int32.ofNat (o + i))), .val (.ref d), .val (.int (Int32.ofNat (q + i))), .val (.int (Int32.ofNat len)), .val (.int (Int32.ofNat i)), .val (.int (cv A (o + i)))] [.int (lo8 (cv A (o + i))), .int (Int32.ofNat (q + i)), .ref d])) := c5.trans (by
        refine XS.iload Xl.here hexec rfl (hb hbytes d15) rfl ?_
        refine sipushV Xl.here hexec rfl 255 (hb hbytes d17) (by decide) ?_
        refine XS.icmpYes Xl.here hexec rfl (pc0 := 20) rfl (hb hbytes d20) rfl (ii_le_t (hp i (by omega))) (by decide) rfl ?_
        refine XS.aloadN Xl.here hexec rfl (hb hbytes d26) rfl rfl ?_
        refine XS.iloadN Xl.here hexec rfl (hb hbytes d27) rfl ?_
        refine XS.iload Xl.here hexec rfl (hb hbytes d28) rfl ?_
        refine i2b Xl.here hexec rfl (hb hbytes d30) rfl ?_
        exact Steps.refl _)
      obtain ⟨T7, X7, p7, st7⟩ := Xl.aput hexec hBk rfl hlt rfl (fits_lo8 (cv A (o + i))) (g := (mkF m 31 #[.val (.ref b), .val (.int (Int32.ofNat (o + i))), .val (.ref d), .val (.int (Int32.ofNat (q + i))), .val (.int (Int32.ofNat len)), .val (.int (Int32.ofNat i)), .val (.int (cv A (o + i)))] [.int (lo8 (cv A (o + i))), .int (Int32.ofNat (q + i)), .ref d])) rfl (rest := []) rfl (hb hbytes d31)
      have c8 : Steps p.tables e below (s₁.setTop (entryFrame m #[.ref b, .int (Int32.ofNat o), .ref d, .int (Int32.ofNat q), .int (Int32.ofNat len)] 7)) (T7.setTop (mkF m 32 #[.val (.ref b), .val (.int (Int32.ofNat (o + i))), .val (.ref d), .val (.int (Int32.ofNat (q + i))), .val (.int (Int32.ofNat len)), .val (.int (Int32.ofNat i)), .val (.int (cv A (o + i)))] [])) := c6.trans (st7 _ (Steps.refl _))
      have c9 : Steps p.tables e below (s₁.setTop (entryFrame m #[.ref b, .int (Int32.ofNat o), .ref d, .int (Int32.ofNat q), .int (Int32.ofNat len)] 7)) (T7.setTop (mkF m 3 #[.val (.ref b), .val (.int (Int32.ofNat (o + i) + 1)), .val (.ref d), .val (.int (Int32.ofNat (q + i) + 1)), .val (.int (Int32.ofNat len)), .val (.int (Int32.ofNat i + 1)), .val (.int (cv A (o + i)))] [])) := c8.trans (by
        refine iincV X7.here hexec rfl 1 (hb hbytes d32) (by decide) rfl rfl ?_
        refine iincV X7.here hexec rfl 1 (hb hbytes d35) (by decide) rfl rfl ?_
        refine iincV X7.here hexec rfl 1 (hb hbytes d38) (by decide) rfl rfl ?_
        refine XS.goto X7.here hexec rfl (pc0 := 41) rfl (hb hbytes d41) (by decide) rfl ?_
        exact Steps.refl _)
      have c10 : Steps p.tables e below (s₁.setTop (entryFrame m #[.ref b, .int (Int32.ofNat o), .ref d, .int (Int32.ofNat q), .int (Int32.ofNat len)] 7)) (T7.setTop (mkF m 3 #[.val (.ref b), .val (.int (Int32.ofNat (o + (i + 1)))), .val (.ref d), .val (.int (Int32.ofNat (q + (i + 1)))), .val (.int (Int32.ofNat len)), .val (.int (Int32.ofNat (i + 1))), .val (.int (cv A (o + i)))] [])) := by
        have := c9
        rw [succ32, succ32, succ32] at this
        exact this
      exact ih (i + 1) (by omega) _ (Or.inr ⟨_, rfl, rfl⟩) T7 _ (by rw [copyLocs_step, ← List.append_assoc]; exact X7) (pl.trans p7) (fl.step (by omega) hlt (by simp)) c10
  obtain ⟨T9, B9, z9, X9, p9, f9, g9⟩ := loop len 0 (by omega) .unset (Or.inl rfl) s₁ B (by simpa [copyLocs] using X0) ⟨hB0.1, fun _ _ => rfl, rfl⟩ (Laid.zero _ _ _) c2
  have c11 : Steps p.tables e below (s₁.setTop (entryFrame m #[.ref b, .int (Int32.ofNat o), .ref d, .int (Int32.ofNat q), .int (Int32.ofNat len)] 7)) (T9.setTop (mkF m 46 #[.val (.ref b), .val (.int (Int32.ofNat (o + len))), .val (.ref d), .val (.int (Int32.ofNat (q + len))), .val (.int (Int32.ofNat len)), .val (.int (Int32.ofNat len)), z9] [.int (Int32.ofNat len)])) := g9.trans (by
    refine XS.iload X9.here hexec rfl (hb hbytes d3) rfl ?_
    refine XS.iload X9.here hexec rfl (hb hbytes d5) rfl ?_
    refine XS.icmpYes X9.here hexec rfl (pc0 := 7) rfl (hb hbytes d7) rfl (ii_ge_t (nlt32 (by omega) (Nat.le_refl _))) (by decide) rfl ?_
    refine XS.iload X9.here hexec rfl (hb hbytes d44) rfl ?_
    exact Steps.refl _)
  exact ⟨T9, some (.int (Int32.ofNat len)), _, _, _, X9, by simp, rfl, rfl, (fun h => by cases h), ⟨rfl, B9, p9.from hh0, f9⟩, fun fs hl => c11.trans (X9.ireturnOut hexec hret rfl (Or.inl rfl) (hb hbytes d46) hl)⟩
end Cmp5
namespace Cmp3
def yN : MethodName := ⟨"java/lang/StringUTF16", "compress", "([CII)[B"⟩
abbrev yB : ByteArray := jdk_52_method_16_code
theorem d0 : decode yB 0 = .ok (.iload_n 2, 1) := by decide +kernel
theorem d1 : decode yB 1 = .ok (.newarray .byte, 2) := by decide +kernel
theorem d3 : decode yB 3 = .ok (.astore_n 3, 1) := by decide +kernel
theorem d4 : decode yB 4 = .ok (.aload_n 0, 1) := by decide +kernel
theorem d5 : decode yB 5 = .ok (.iload_n 1, 1) := by decide +kernel
theorem d6 : decode yB 6 = .ok (.aload_n 3, 1) := by decide +kernel
theorem d7 : decode yB 7 = .ok (.iconst 0, 1) := by decide +kernel
theorem d8 : decode yB 8 = .ok (.iload_n 2, 1) := by decide +kernel
theorem d9 : decode yB 9 = .ok (.invokestatic 115, 3) := by decide +kernel
theorem d12 : decode yB 12 = .ok (.istore 4, 2) := by decide +kernel
theorem d14 : decode yB 14 = .ok (.iload 4, 2) := by decide +kernel
theorem d16 : decode yB 16 = .ok (.iload_n 2, 1) := by decide +kernel
theorem d17 : decode yB 17 = .ok (.if_icmp (.eq) 40, 3) := by decide +kernel
theorem d57 : decode yB 57 = .ok (.aload_n 3, 1) := by decide +kernel
theorem d58 : decode yB 58 = .ok (.areturn, 1) := by decide +kernel
def site : List Cond := [.arrayClass .byte, Cmp5.tab] ++ staticW U16 115 Cmp5.yN
def tab : Cond := tabOf yN yB 6 (some (.array .byte)) site
def P (b : Addr) (A : Cell) (o len : Nat) (args : Array Value) (s : State) : Prop := args = #[.ref b, .int (Int32.ofNat o), .int (Int32.ofNat len)] ∧ Ch b A s ∧ o + len ≤ A.slots.size ∧ len ≤ 536870912 ∧ ∀ i, i < len → ¬ 255 < cv A (o + i)
def E (b : Addr) (A : Cell) (o len : Nat) (r : Option Value) (s u : State) : Prop := NewArr .byte "[B" len (fun j => .int (lo8 (cv A (o + j)))) r s u ∧ u.heap.size = s.heap.size + 1
/-- no char of the range above 255: a new byte[] of their low bytes -/
theorem law (l : Launch) (b : Addr) (A : Cell) (o len : Nat) : Law l yN 3 3 1 18 yB 6 (some (.array .byte)) site (P b A o len) (E b A o len) [] 1 len := by
  refine Law.of_walk (plainFor_of_name (by decide +kernel)) (by decide +kernel) (by decide +kernel) (by decide) (fun _ _ h => by rw [h.1]; rfl) (fun _ U U' hal hh h => ⟨h.1, h.2.1.mv hal hh, h.2.2⟩) (fun r U U' V V' h1 hal h2 h => ⟨NewArr.mv r U U' V V' h1 hal h2 h.1, by rw [h1, h2]; exact h.2⟩) ?_
  intro p e s m args below meth c s₁ X0 hexec hbytes hml hret hlk hnm hown hh0 W hP
  obtain ⟨rfl, hA, l1, l2, hp⟩ := hP
  have a31 := hA.1.2.2.2
  have c1 : Steps p.tables e below (s₁.setTop (entryFrame m #[.ref b, .int (Int32.ofNat o), .int (Int32.ofNat len)] 6)) (s₁.setTop (mkF m 0 #[.val (.ref b), .val (.int (Int32.ofNat o)), .val (.int (Int32.ofNat len)), .unset, .unset, .unset] [])) := entry rfl
  have c2 : Steps p.tables e below (s₁.setTop (entryFrame m #[.ref b, .int (Int32.ofNat o), .int (Int32.ofNat len)] 6)) (s₁.setTop (mkF m 1 #[.val (.ref b), .val (.int (Int32.ofNat o)), .val (.int (Int32.ofNat len)), .unset, .unset, .unset] [.int (Int32.ofNat len)])) := c1.trans (by
    refine XS.iloadN X0.here hexec rfl (hb hbytes d0) rfl ?_
    exact Steps.refl _)
  obtain ⟨T3, B3, X3, ba3, bs3, bv3, bh3, bf3, st3⟩ := X0.anew hexec (atype := .byte) (wk W (.arrayClass .byte)) rfl (by show len * 1 ≤ _; omega) (by omega) (g := (mkF m 1 #[.val (.ref b), .val (.int (Int32.ofNat o)), .val (.int (Int32.ofNat len)), .unset, .unset, .unset] [.int (Int32.ofNat len)])) rfl (hb hbytes d1) (rest := []) rfl (Nat.le_refl _) (by show 0 + len ≤ len; omega)
  rw [hh0] at ba3 st3
  have kp3 : XT.Kept s T3 := (XT.Kept.of_eq hh0).push bh3
  have hA3 := hA.keep X3.warmed.alike (kp3 _ _ hA.1.1)
  have hne : b ≠ s.heap.size := hA.1.ne
  have c4 : Steps p.tables e below (s₁.setTop (entryFrame m #[.ref b, .int (Int32.ofNat o), .int (Int32.ofNat len)] 6)) (T3.setTop (mkF m 3 #[.val (.ref b), .val (.int (Int32.ofNat o)), .val (.int (Int32.ofNat len)), .unset, .unset, .unset] [.ref s.heap.size])) := c2.trans (st3 _ (Steps.refl _))
  have c5 : Steps p.tables e below (s₁.setTop (entryFrame m #[.ref b, .int (Int32.ofNat o), .int (Int32.ofNat len)] 6)) (T3.setTop (mkF m 9 #[.val (.ref b), .val (.int (Int32.ofNat o)), .val (.int (Int32.ofNat len)), .val (.ref s.heap.size), .unset, .unset] [.int (Int32.ofNat len), .int 0, .ref s.heap.size, .int (Int32.ofNat o), .ref b])) := c4.trans (by
    refine XS.astoreN X3.here hexec rfl (hb hbytes d3) rfl rfl rfl ?_
    refine XS.aloadN X3.here hexec rfl (hb hbytes d4) rfl rfl ?_
    refine XS.iloadN X3.here hexec rfl (hb hbytes d5) rfl ?_
    refine XS.aloadN X3.here hexec rfl (hb hbytes d6) rfl rfl ?_
    refine iconstV X3.here hexec rfl 0 (hb hbytes d7) (by decide) ?_
    refine XS.iloadN X3.here hexec rfl (hb hbytes d8) rfl ?_
    exact Steps.refl _)
  obtain ⟨v6, T6, X6, E6, g6⟩ := X3.callS hexec (Cmp5.law l b A s.heap.size B3 o 0 len) hown (wks W (staticW U16 115 Cmp5.yN)) (wk W Cmp5.tab) (W := 0) (Nat.le_of_ble_eq_true rfl) (Nat.le_of_ble_eq_true rfl) (Nat.le_refl _) (by show 0 + len + 0 ≤ len; omega) (g := (mkF m 9 #[.val (.ref b), .val (.int (Int32.ofNat o)), .val (.int (Int32.ofNat len)), .val (.ref s.heap.size), .unset, .unset] [.int (Int32.ofNat len), .int (Int32.ofNat 0), .ref s.heap.size, .int (Int32.ofNat o), .ref b])) rfl (by rw [hml]; rfl) c5 (argsL := [.ref b, .int (Int32.ofNat o), .ref s.heap.size, .int (Int32.ofNat 0), .int (Int32.ofNat len)]) (rest := []) rfl rfl (by show 2 * 0 + 0 ≤ _; decide) (hb hbytes d9) (⟨rfl, hA3, ba3, hne, l1, by rw [bs3]; simp, hp⟩)
  obtain ⟨rfl, B6, p6, f6⟩ := E6
  have c7 : Steps p.tables e below (s₁.setTop (entryFrame m #[.ref b, .int (Int32.ofNat o), .int (Int32.ofNat len)] 6)) (T6.setTop (mkF m 12 #[.val (.ref b), .val (.int (Int32.ofNat o)), .val (.int (Int32.ofNat len)), .val (.ref s.heap.size), .unset, .unset] [.int (Int32.ofNat len)])) := g6
  have c8 : Steps p.tables e below (s₁.setTop (entryFrame m #[.ref b, .int (Int32.ofNat o), .int (Int32.ofNat len)] 6)) (T6.setTop (mkF m 58 #[.val (.ref b), .val (.int (Int32.ofNat o)), .val (.int (Int32.ofNat len)), .val (.ref s.heap.size), .val (.int (Int32.ofNat len)), .unset] [.ref s.heap.size])) := c7.trans (by
    refine XS.istore X6.here hexec rfl (hb hbytes d12) rfl rfl ?_
    refine XS.iload X6.here hexec rfl (hb hbytes d14) rfl ?_
    refine XS.iloadN X6.here hexec rfl (hb hbytes d16) rfl ?_
    refine XS.icmpYes X6.here hexec rfl (pc0 := 17) rfl (hb hbytes d17) rfl (ii_eq_t rfl) (by decide) rfl ?_
    refine XS.aloadN X6.here hexec rfl (hb hbytes d57) rfl rfl ?_
    exact Steps.refl _)
  have X8 := X6.wide (L' := []) (cells' := 1) (slots' := len) (fun x hx hlt => by
    simp only [List.nil_append, copyLocs, List.mem_map, List.mem_range] at hx
    obtain ⟨i, -, rfl⟩ := hx
    exact absurd hlt (Nat.lt_irrefl _)) (Nat.le_refl _) (by omega)
  exact ⟨T6, some (.ref s.heap.size), _, _, _, X8, rfl, rfl, rfl, (fun h => by cases h), ⟨⟨rfl, B6, ba3.like (X3.warmed.alike.symm.trans X6.warmed.alike) p6.1 f6.1 f6.2.1 f6.2.2.1, f6.2.1.trans bv3, by rw [X6.warmed.alike.findClass, f6.1]; exact bf3, by rw [f6.2.2.1, bs3]; simp, fun j hj => by rw [f6.2.2.2 j, if_pos (by omega)]; rfl, kp3.put p6 (Nat.le_refl _)⟩, by rw [p6.2.2, bh3, hh0]; simp⟩, fun fs hl => c8.trans (X8.areturnOut hexec rfl hret rfl (hb hbytes d58) hl)⟩
end Cmp3
namespace CodL
def yN : MethodName := ⟨"java/lang/StringUTF16", "coderFromArrayLen", "([BI)B"⟩
abbrev yB : ByteArray := jdk_52_method_15_code
theorem d0 : decode yB 0 = .ok (.iload_n 1, 1) := by decide +kernel
theorem d1 : decode yB 1 = .ok (.aload_n 0, 1) := by decide +kernel
theorem d2 : decode yB 2 = .ok (.arraylength, 1) := by decide +kernel
theorem d3 : decode yB 3 = .ok (.isub, 1) := by decide +kernel
theorem d4 : decode yB 4 = .ok (.bipush 31, 2) := by decide +kernel
theorem d6 : decode yB 6 = .ok (.iushr, 1) := by decide +kernel
theorem d7 : decode yB 7 = .ok (.i2b, 1) := by decide +kernel
theorem d8 : decode yB 8 = .ok (.ireturn, 1) := by decide +kernel
def site : List Cond := []
def tab : Cond := tabOf yN yB 2 (some .byte) site
def P (d : Addr) (B : Cell) (args : Array Value) (s : State) : Prop := args = #[.ref d, .int (Int32.ofNat B.slots.size)] ∧ Arr .byte d B s
def E (r : Option Value) (s u : State) : Prop := XT.PureE (some (.int 0)) r s u
/-- an array as long as the number of chars: LATIN1 -/
theorem law (l : Launch) (d : Addr) (B : Cell) : Law l yN 2 2 0 0 yB 2 (some .byte) site (P d B) E [] 0 0 := by
  refine Law.of_walk (plainFor_of_name (by decide +kernel)) (by decide +kernel) (by decide +kernel) (by decide) (fun _ _ h => by rw [h.1]; rfl) (fun _ U U' hal hh h => ⟨h.1, h.2.mv hal hh⟩) (fun r U U' V V' h1 hal h2 h => XT.PureE.mv r U U' V V' h1 hal h2 h) ?_
  intro p e s m args below meth c s₁ X0 hexec hbytes hml hret hlk hnm hown hh0 W hP
  obtain ⟨rfl, hB⟩ := hP
  have hB0 := hB.mv X0.warmed.alike hh0
  have c1 : Steps p.tables e below (s₁.setTop (entryFrame m #[.ref d, .int (Int32.ofNat B.slots.size)] 2)) (s₁.setTop (mkF m 0 #[.val (.ref d), .val (.int (Int32.ofNat B.slots.size))] [])) := entry rfl
  have c2 : Steps p.tables e below (s₁.setTop (entryFrame m #[.ref d, .int (Int32.ofNat B.slots.size)] 2)) (s₁.setTop (mkF m 2 #[.val (.ref d), .val (.int (Int32.ofNat B.slots.size))] [.ref d, .int (Int32.ofNat B.slots.size)])) := c1.trans (by
    refine XS.iloadN X0.here hexec rfl (hb hbytes d0) rfl ?_
    refine XS.aloadN X0.here hexec rfl (hb hbytes d1) rfl rfl ?_
    exact Steps.refl _)
  have c3 : Steps p.tables e below (s₁.setTop (entryFrame m #[.ref d, .int (Int32.ofNat B.slots.size)] 2)) (s₁.setTop (mkF m 8 #[.val (.ref d), .val (.int (Int32.ofNat B.slots.size))] [.int (lo8 (ushr (Int32.ofNat B.slots.size - Int32.ofNat B.slots.size) 31))])) := c2.trans (by
    refine X0.alen hexec hB0 rfl rfl (hb hbytes d2) ?_
    refine XS.isub X0.here hexec rfl (hb hbytes d3) rfl ?_
    refine bipushV X0.here hexec rfl 31 (hb hbytes d4) (by decide) ?_
    refine iushr X0.here hexec rfl (hb hbytes d6) rfl ?_
    refine i2b X0.here hexec rfl (hb hbytes d7) rfl ?_
    exact Steps.refl _)
  have e0 : lo8 (ushr (Int32.ofNat B.slots.size - Int32.ofNat B.slots.size) 31) = 0 := by rw [Int32.sub_self]; decide
  rw [e0] at c3
  exact ⟨s₁, some (.int 0), _, _, _, X0, rfl, rfl, rfl, (fun h => by cases h), ⟨rfl, hh0⟩, fun fs hl => c3.trans (X0.ireturnOut hexec hret rfl (Or.inr (Or.inr (Or.inl rfl))) (hb hbytes d8) hl)⟩
end CodL
/-- the String at a is Latin-1 over a new byte[] (the heap's one new cell): the low bytes of the len chars of A from o on; every cell but a is kept -/
def Got (a : Addr) (D : Cell) (fV fC : Field) (A : Cell) (o len : Nat) (r : Option Value) (s u : State) : Prop := r = none ∧ ∃ D' V : Cell, Blank "java/lang/String" a D' u ∧ Same D D' [fV.slot, fC.slot] ∧ D'.slots[fV.slot]? = some (.ref s.heap.size) ∧ D'.slots[fC.slot]? = some (.int 0) ∧ Arr .byte s.heap.size V u ∧ V.vm = .none ∧ u.vm.findClass "[B" = some V.cls ∧ V.slots.size = len ∧ (∀ j, j < len → V.slots[j]? = some (.int (lo8 (cv A (o + j))))) ∧ (∀ (y : Addr) (c : Cell), y ≠ a → s.heap[y]? = some c → u.heap[y]? = some c) ∧ u.heap.size = s.heap.size + 1
theorem Got.mv {a : Addr} {D A : Cell} {fV fC : Field} {o len : Nat} : ∀ r (U U' V V' : State), U'.heap = U.heap → V.vm.Alike V'.vm → V'.heap = V.heap → Got a D fV fC A o len r U V → Got a D fV fC A o len r U' V' :=
  fun r U U' V V' h1 hal h2 ⟨e0, D', X, a1, a2, a3, a4, a5, a6, a7, a8, a9, a10, a11⟩ => ⟨e0, D', X, a1.mv hal h2, a2, by rw [h1]; exact a3, a4, by rw [h1]; exact a5.mv hal h2, a6, by rw [hal.findClass]; exact a7, a8, a9, by rw [h1, h2]; exact a10, by rw [h1, h2]; exact a11⟩
namespace New4
def yN : MethodName := ⟨"java/lang/String", "<init>", "([CIILjava/lang/Void;)V"⟩
abbrev yB : ByteArray := jdk_42_method_149_code
theorem d0 : decode yB 0 = .ok (.aload_n 0, 1) := by decide +kernel
theorem d1 : decode yB 1 = .ok (.invokespecial 1, 3) := by decide +kernel
theorem d4 : decode yB 4 = .ok (.iload_n 3, 1) := by decide +kernel
theorem d5 : decode yB 5 = .ok (.ifCond (.ne) 22, 3) := by decide +kernel
theorem d27 : decode yB 27 = .ok (.getstatic 38, 3) := by decide +kernel
theorem d30 : decode yB 30 = .ok (.ifCond (.eq) 28, 3) := by decide +kernel
theorem d33 : decode yB 33 = .ok (.aload_n 1, 1) := by decide +kernel
theorem d34 : decode yB 34 = .ok (.iload_n 2, 1) := by decide +kernel
theorem d35 : decode yB 35 = .ok (.iload_n 3, 1) := by decide +kernel
theorem d36 : decode yB 36 = .ok (.invokestatic 177, 3) := by decide +kernel
theorem d39 : decode yB 39 = .ok (.astore 5, 2) := by decide +kernel
theorem d41 : decode yB 41 = .ok (.aload_n 0, 1) := by decide +kernel
theorem d42 : decode yB 42 = .ok (.aload 5, 2) := by decide +kernel
theorem d44 : decode yB 44 = .ok (.iload_n 3, 1) := by decide +kernel
theorem d45 : decode yB 45 = .ok (.invokestatic 47, 3) := by decide +kernel
theorem d48 : decode yB 48 = .ok (.putfield 15, 3) := by decide +kernel
theorem d51 : decode yB 51 = .ok (.aload_n 0, 1) := by decide +kernel
theorem d52 : decode yB 52 = .ok (.aload 5, 2) := by decide +kernel
theorem d54 : decode yB 54 = .ok (.putfield 9, 3) := by decide +kernel
theorem d57 : decode yB 57 = .ok (.return_, 1) := by decide +kernel
def site : List Cond := [.fieldLink "java/lang/String" 38 "java/lang/String" "COMPACT_STRINGS" "Z", Cmp3.tab, CodL.tab, .laysFinal "java/lang/String" "java/lang/String" "value" "[B", .fieldLink "java/lang/String" 9 "java/lang/String" "value" "[B", .laysFinal "java/lang/String" "java/lang/String" "coder" "B", .fieldLink "java/lang/String" 15 "java/lang/String" "coder" "B"] ++ objW "java/lang/String" 1 ++ staticW "java/lang/String" 177 Cmp3.yN ++ staticW "java/lang/String" 47 CodL.yN
def tab : Cond := tabOf yN yB 6 none site
def P (a : Addr) (D : Cell) (fV fC : Field) (b : Addr) (A : Cell) (z : Int32) (o len : Nat) (args : Array Value) (s : State) : Prop := args = #[.ref a, .ref b, .int (Int32.ofNat o), .int (Int32.ofNat len), .null] ∧ Blank "java/lang/String" a D s ∧ Found "java/lang/String" "value" "[B" fV s ∧ Found "java/lang/String" "coder" "B" fC s ∧ Ch b A s ∧ StaticIs s "java/lang/String" "COMPACT_STRINGS" "Z" (.int z) ∧ ¬ z = 0 ∧ 0 < len ∧ o + len ≤ A.slots.size ∧ len ≤ 536870912 ∧ ∀ i, i < len → ¬ 255 < cv A (o + i)
def E (a : Addr) (D : Cell) (fV fC : Field) (A : Cell) (o len : Nat) (r : Option Value) (s u : State) : Prop := Got a D fV fC A o len r s u
/-- len > 0, no char of the range above 255: a Latin-1 String of their low bytes -/
theorem law (l : Launch) (a : Addr) (D : Cell) (fV fC : Field) (b : Addr) (A : Cell) (z : Int32) (o len : Nat) : Law l yN 5 4 2 35 yB 6 none site (P a D fV fC b A z o len) (E a D fV fC A o len) [⟨a, fC.slot⟩, ⟨a, fV.slot⟩] 1 len := by
  refine Law.of_walk (plainFor_of_name (by decide +kernel)) (by decide +kernel) (by decide +kernel) (by decide) (fun _ _ h => by rw [h.1]; rfl) (fun _ U U' hal hh h => ⟨h.1, h.2.1.mv hal hh, h.2.2.1.al hal, h.2.2.2.1.al hal, h.2.2.2.2.1.mv hal hh, h.2.2.2.2.2.1.there hal hh, h.2.2.2.2.2.2⟩) (fun r U U' V V' h1 hal h2 h => Got.mv r U U' V V' h1 hal h2 h) ?_
  intro p e s m args below meth c s₁ X0 hexec hbytes hml hret hlk hnm hown hh0 W hP
  obtain ⟨rfl, hB, f1, f2, hA, s1, hz, l0, l1, l2, hp⟩ := hP
  have a31 := hA.1.2.2.2
  have c1 : Steps p.tables e below (s₁.setTop (entryFrame m #[.ref a, .ref b, .int (Int32.ofNat o), .int (Int32.ofNat len), .null] 6)) (s₁.setTop (mkF m 0 #[.val (.ref a), .val (.ref b), .val (.int (Int32.ofNat o)), .val (.int (Int32.ofNat len)), .val .null, .unset] [])) := entry rfl
  have c2 : Steps p.tables e below (s₁.setTop (entryFrame m #[.ref a, .ref b, .int (Int32.ofNat o), .int (Int32.ofNat len), .null] 6)) (s₁.setTop (mkF m 1 #[.val (.ref a), .val (.ref b), .val (.int (Int32.ofNat o)), .val (.int (Int32.ofNat len)), .val .null, .unset] [.ref a])) := c1.trans (by
    refine XS.aloadN X0.here hexec rfl (hb hbytes d0) rfl rfl ?_
    exact Steps.refl _)
  obtain ⟨T3, X3, q3, st3⟩ := X0.oinit hexec hown (wks W (objW "java/lang/String" 1)) (g := (mkF m 1 #[.val (.ref a), .val (.ref b), .val (.int (Int32.ofNat o)), .val (.int (Int32.ofNat len)), .val .null, .unset] [.ref a])) rfl (by rw [hml]; rfl) (rest := []) rfl (hb hbytes d1) (W := 0) (by show 2 * 0 + 0 ≤ _; decide) (Nat.le_of_ble_eq_true rfl) (Nat.le_of_ble_eq_true rfl)
  have hh3 := q3.trans hh0
  have c4 : Steps p.tables e below (s₁.setTop (entryFrame m #[.ref a, .ref b, .int (Int32.ofNat o), .int (Int32.ofNat len), .null] 6)) (T3.setTop (mkF m 27 #[.val (.ref a), .val (.ref b), .val (.int (Int32.ofNat o)), .val (.int (Int32.ofNat len)), .val .null, .unset] [])) := (c2.trans (st3 _ (Steps.refl _))).trans (by
    refine XS.iloadN X3.here hexec rfl (hb hbytes d4) rfl ?_
    refine XS.ifYes X3.here hexec rfl (pc0 := 5) rfl (hb hbytes d5) rfl (i0_ne_t (nz32 (by omega) l0)) (by decide) rfl ?_
    exact Steps.refl _)
  obtain ⟨T5, X5, q5, st5⟩ := X3.sget hexec hown (wk W (.fieldLink "java/lang/String" 38 "java/lang/String" "COMPACT_STRINGS" "Z")) s1 (fun _ _ h => by rw [hh3]; exact h) (g := (mkF m 27 #[.val (.ref a), .val (.ref b), .val (.int (Int32.ofNat o)), .val (.int (Int32.ofNat len)), .val .null, .unset] [])) rfl (hb hbytes d27)
  have hh5 := q5.trans hh3
  have c6 : Steps p.tables e below (s₁.setTop (entryFrame m #[.ref a, .ref b, .int (Int32.ofNat o), .int (Int32.ofNat len), .null] 6)) (T5.setTop (mkF m 30 #[.val (.ref a), .val (.ref b), .val (.int (Int32.ofNat o)), .val (.int (Int32.ofNat len)), .val .null, .unset] [.int z])) := c4.trans (st5 _ (Steps.refl _))
  have c7 : Steps p.tables e below (s₁.setTop (entryFrame m #[.ref a, .ref b, .int (Int32.ofNat o), .int (Int32.ofNat len), .null] 6)) (T5.setTop (mkF m 36 #[.val (.ref a), .val (.ref b), .val (.int (Int32.ofNat o)), .val (.int (Int32.ofNat len)), .val .null, .unset] [.int (Int32.ofNat len), .int (Int32.ofNat o), .ref b])) := c6.trans (by
    refine XS.ifNo X5.here hexec rfl (hb hbytes d30) rfl (i0_eq_f hz) ?_
    refine XS.aloadN X5.here hexec rfl (hb hbytes d33) rfl rfl ?_
    refine XS.iloadN X5.here hexec rfl (hb hbytes d34) rfl ?_
    refine XS.iloadN X5.here hexec rfl (hb hbytes d35) rfl ?_
    exact Steps.refl _)
  obtain ⟨v8, T8, X8, E8, g8⟩ := X5.callS hexec (Cmp3.law l b A o len) hown (wks W (staticW "java/lang/String" 177 Cmp3.yN)) (wk W Cmp3.tab) (W := 0) (Nat.le_of_ble_eq_true rfl) (Nat.le_of_ble_eq_true rfl) (Nat.le_refl _) (by show 0 + len ≤ len; omega) (g := (mkF m 36 #[.val (.ref a), .val (.ref b), .val (.int (Int32.ofNat o)), .val (.int (Int32.ofNat len)), .val .null, .unset] [.int (Int32.ofNat len), .int (Int32.ofNat o), .ref b])) rfl (by rw [hml]; rfl) c7 (argsL := [.ref b, .int (Int32.ofNat o), .int (Int32.ofNat len)]) (rest := []) rfl rfl (by show 2 * 0 + 0 ≤ _; decide) (hb hbytes d36) (⟨rfl, hA.mv X5.warmed.alike hh5, l1, l2, hp⟩)
  obtain ⟨e8, z8⟩ := E8
  obtain ⟨rfl, N, n1, n2, n3, n4, n5, n6⟩ := NewArr.mv _ T5 s _ _ hh5.symm (Vm.Alike.refl _) rfl e8
  rw [hh5] at z8
  have hB1 := hB.keep X8.warmed.alike (n6 _ _ hB.1)
  have hne : s.heap.size ≠ a := (Nat.ne_of_lt (Array.getElem?_eq_some_iff.mp hB.1).1).symm
  have c9 : Steps p.tables e below (s₁.setTop (entryFrame m #[.ref a, .ref b, .int (Int32.ofNat o), .int (Int32.ofNat len), .null] 6)) (T8.setTop (mkF m 39 #[.val (.ref a), .val (.ref b), .val (.int (Int32.ofNat o)), .val (.int (Int32.ofNat len)), .val .null, .unset] [.ref s.heap.size])) := g8
  have c10 : Steps p.tables e below (s₁.setTop (entryFrame m #[.ref a, .ref b, .int (Int32.ofNat o), .int (Int32.ofNat len), .null] 6)) (T8.setTop (mkF m 45 #[.val (.ref a), .val (.ref b), .val (.int (Int32.ofNat o)), .val (.int (Int32.ofNat len)), .val .null, .val (.ref s.heap.size)] [.int (Int32.ofNat N.slots.size), .ref s.heap.size, .ref a])) := by
    have hc : Steps p.tables e below (s₁.setTop (entryFrame m #[.ref a, .ref b, .int (Int32.ofNat o), .int (Int32.ofNat len), .null] 6)) (T8.setTop (mkF m 45 #[.val (.ref a), .val (.ref b), .val (.int (Int32.ofNat o)), .val (.int (Int32.ofNat len)), .val .null, .val (.ref s.heap.size)] [.int (Int32.ofNat len), .ref s.heap.size, .ref a])) := c9.trans (by
      refine XS.astore X8.here hexec rfl (hb hbytes d39) rfl rfl rfl ?_
      refine XS.aloadN X8.here hexec rfl (hb hbytes d41) rfl rfl ?_
      refine XS.aload X8.here hexec rfl (hb hbytes d42) rfl rfl ?_
      refine XS.iloadN X8.here hexec rfl (hb hbytes d44) rfl ?_
      exact Steps.refl _)
    rw [n4]; exact hc
  obtain ⟨v11, T11, X11, E11, g11⟩ := X8.callS hexec (CodL.law l s.heap.size N) hown (wks W (staticW "java/lang/String" 47 CodL.yN)) (wk W CodL.tab) (W := 1) (Nat.le_of_ble_eq_true rfl) (Nat.le_of_ble_eq_true rfl) (Nat.le_refl _) (by show 0 + len + 0 ≤ len; omega) (g := (mkF m 45 #[.val (.ref a), .val (.ref b), .val (.int (Int32.ofNat o)), .val (.int (Int32.ofNat len)), .val .null, .val (.ref s.heap.size)] [.int (Int32.ofNat N.slots.size), .ref s.heap.size, .ref a])) rfl (by rw [hml]; rfl) c10 (argsL := [.ref s.heap.size, .int (Int32.ofNat N.slots.size)]) (rest := [.ref a]) rfl rfl (by show 2 * 0 + (1 + 0) ≤ _; decide) (hb hbytes d45) (⟨rfl, n1⟩)
  obtain ⟨rfl, q11⟩ := E11
  have hB11 := hB1.mv (X8.warmed.alike.symm.trans X11.warmed.alike) q11
  have c12 : Steps p.tables e below (s₁.setTop (entryFrame m #[.ref a, .ref b, .int (Int32.ofNat o), .int (Int32.ofNat len), .null] 6)) (T11.setTop (mkF m 48 #[.val (.ref a), .val (.ref b), .val (.int (Int32.ofNat o)), .val (.int (Int32.ofNat len)), .val .null, .val (.ref s.heap.size)] [.int 0, .ref a])) := g11
  obtain ⟨T13, X13, p13, bl13, sl13, st13⟩ := X11.finit hexec hown (wk W (.fieldLink "java/lang/String" 15 "java/lang/String" "coder" "B")) (Or.inr ⟨_, (wk W (.laysFinal "java/lang/String" "java/lang/String" "coder" "B"))⟩) (Or.inl ⟨rfl, hnm⟩) f2 (Or.inl rfl) hB11 (t := .byte) (by decide +kernel) rfl (g := (mkF m 48 #[.val (.ref a), .val (.ref b), .val (.int (Int32.ofNat o)), .val (.int (Int32.ofNat len)), .val .null, .val (.ref s.heap.size)] [.int 0, .ref a])) rfl (rest := []) rfl (hb hbytes d48)
  have c14 : Steps p.tables e below (s₁.setTop (entryFrame m #[.ref a, .ref b, .int (Int32.ofNat o), .int (Int32.ofNat len), .null] 6)) (T13.setTop (mkF m 54 #[.val (.ref a), .val (.ref b), .val (.int (Int32.ofNat o)), .val (.int (Int32.ofNat len)), .val .null, .val (.ref s.heap.size)] [.ref s.heap.size, .ref a])) := (c12.trans (st13 _ (Steps.refl _))).trans (by
    refine XS.aloadN X13.here hexec rfl (hb hbytes d51) rfl rfl ?_
    refine XS.aload X13.here hexec rfl (hb hbytes d52) rfl rfl ?_
    exact Steps.refl _)
  obtain ⟨T15, X15, p15, bl15, sl15, st15⟩ := X13.finit hexec hown (wk W (.fieldLink "java/lang/String" 9 "java/lang/String" "value" "[B")) (Or.inr ⟨_, (wk W (.laysFinal "java/lang/String" "java/lang/String" "value" "[B"))⟩) (Or.inl ⟨rfl, hnm⟩) f1 (Or.inl rfl) bl13 (t := (.array .byte)) (by decide +kernel) rfl (g := (mkF m 54 #[.val (.ref a), .val (.ref b), .val (.int (Int32.ofNat o)), .val (.int (Int32.ofNat len)), .val .null, .val (.ref s.heap.size)] [.ref s.heap.size, .ref a])) rfl (rest := []) rfl (hb hbytes d54)
  have c16 : Steps p.tables e below (s₁.setTop (entryFrame m #[.ref a, .ref b, .int (Int32.ofNat o), .int (Int32.ofNat len), .null] 6)) (T15.setTop (mkF m 57 #[.val (.ref a), .val (.ref b), .val (.int (Int32.ofNat o)), .val (.int (Int32.ofNat len)), .val .null, .val (.ref s.heap.size)] [])) := c14.trans (st15 _ (Steps.refl _))
  have ap := apart (Or.inr ⟨_, (wk W (.laysFinal "java/lang/String" "java/lang/String" "value" "[B"))⟩) (Or.inr ⟨_, (wk W (.laysFinal "java/lang/String" "java/lang/String" "coder" "B"))⟩) f1 f2 (t₁ := .array .byte) (t₂ := .byte) (by decide +kernel) (by decide +kernel) (by decide)
  have al := X8.warmed.alike.symm.trans X15.warmed.alike
  have n7 : T11.heap[s.heap.size]? = some N := by rw [q11]; exact n1.1
  exact ⟨T15, none, _, _, _, X15, by simp, rfl, by omega, (fun _ => rfl), ⟨rfl, _, N, bl15, ((Same.refl D _).set _ (by simp)).set _ (by simp), sl15, (Cell.slots_setSlot_ne _ ap).trans sl13, n1.keep al (p15.other hne (p13.other hne n7)), n2, by rw [al.findClass]; exact n3, n4, n5, fun y c h1 h2 => p15.other h1 (p13.other h1 (by rw [q11]; exact n6 y c h2)), by rw [p15.2.2, p13.2.2, q11]; exact z8⟩, fun fs hl => c16.trans (X15.returnOut hexec hret (hb hbytes d57) hl)⟩
end New4
namespace New1
def yN : MethodName := ⟨"java/lang/String", "<init>", "([C)V"⟩
abbrev yB : ByteArray := jdk_42_method_3_code
theorem d0 : decode yB 0 = .ok (.aload_n 0, 1) := by decide +kernel
theorem d1 : decode yB 1 = .ok (.aload_n 1, 1) := by decide +kernel
theorem d2 : decode yB 2 = .ok (.iconst 0, 1) := by decide +kernel
theorem d3 : decode yB 3 = .ok (.aload_n 1, 1) := by decide +kernel
theorem d4 : decode yB 4 = .ok (.arraylength, 1) := by decide +kernel
theorem d5 : decode yB 5 = .ok (.aconst_null, 1) := by decide +kernel
theorem d6 : decode yB 6 = .ok (.invokespecial 27, 3) := by decide +kernel
theorem d9 : decode yB 9 = .ok (.return_, 1) := by decide +kernel
def site : List Cond := [New4.tab] ++ initW "java/lang/String" 27 New4.yN
def tab : Cond := tabOf yN yB 2 none site
def P (a : Addr) (D : Cell) (fV fC : Field) (b : Addr) (A : Cell) (z : Int32) (args : Array Value) (s : State) : Prop := args = #[.ref a, .ref b] ∧ Blank "java/lang/String" a D s ∧ Found "java/lang/String" "value" "[B" fV s ∧ Found "java/lang/String" "coder" "B" fC s ∧ Ch b A s ∧ StaticIs s "java/lang/String" "COMPACT_STRINGS" "Z" (.int z) ∧ ¬ z = 0 ∧ 0 < A.slots.size ∧ A.slots.size ≤ 536870912 ∧ ∀ i, i < A.slots.size → ¬ 255 < cv A i
def E (a : Addr) (D : Cell) (fV fC : Field) (A : Cell) (r : Option Value) (s u : State) : Prop := Got a D fV fC A 0 A.slots.size r s u
/-- new String(chars), not empty, no char above 255: a Latin-1 String of their low bytes -/
theorem law (l : Launch) (a : Addr) (D : Cell) (fV fC : Field) (b : Addr) (A : Cell) (z : Int32) : Law l yN 2 1 3 52 yB 2 none site (P a D fV fC b A z) (E a D fV fC A) [⟨a, fC.slot⟩, ⟨a, fV.slot⟩] 1 A.slots.size := by
  refine Law.of_walk (plainFor_of_name (by decide +kernel)) (by decide +kernel) (by decide +kernel) (by decide) (fun _ _ h => by rw [h.1]; rfl) (fun _ U U' hal hh h => ⟨h.1, h.2.1.mv hal hh, h.2.2.1.al hal, h.2.2.2.1.al hal, h.2.2.2.2.1.mv hal hh, h.2.2.2.2.2.1.there hal hh, h.2.2.2.2.2.2⟩) (fun r U U' V V' h1 hal h2 h => Got.mv r U U' V V' h1 hal h2 h) ?_
  intro p e s m args below meth c s₁ X0 hexec hbytes hml hret hlk hnm hown hh0 W hP
  obtain ⟨rfl, hB, f1, f2, hA, s1, hz, l0, l2, hp⟩ := hP
  have c1 : Steps p.tables e below (s₁.setTop (entryFrame m #[.ref a, .ref b] 2)) (s₁.setTop (mkF m 0 #[.val (.ref a), .val (.ref b)] [])) := entry rfl
  have c2 : Steps p.tables e below (s₁.setTop (entryFrame m #[.ref a, .ref b] 2)) (s₁.setTop (mkF m 6 #[.val (.ref a), .val (.ref b)] [.null, .int (Int32.ofNat A.slots.size), .int 0, .ref b, .ref a])) := c1.trans (by
    refine XS.aloadN X0.here hexec rfl (hb hbytes d0) rfl rfl ?_
    refine XS.aloadN X0.here hexec rfl (hb hbytes d1) rfl rfl ?_
    refine iconstV X0.here hexec rfl 0 (hb hbytes d2) (by decide) ?_
    refine XS.aloadN X0.here hexec rfl (hb hbytes d3) rfl rfl ?_
    refine X0.alen hexec (hA.1.mv X0.warmed.alike hh0) rfl rfl (hb hbytes d4) ?_
    refine XS.aconstNull X0.here hexec rfl (hb hbytes d5) ?_
    exact Steps.refl _)
  obtain ⟨v3, T3, X3, E3, g3⟩ := X0.callN hexec (New4.law l a D fV fC b A z 0 A.slots.size) rfl hown (wks W (initW "java/lang/String" 27 New4.yN)) (W New4.tab (by simp only [site, List.mem_cons, List.mem_append, true_or, or_true])) (W := 0) (Nat.le_of_ble_eq_true rfl) (Nat.le_of_ble_eq_true rfl) (Nat.le_refl _) (by show 0 + A.slots.size ≤ A.slots.size; omega) (g := (mkF m 6 #[.val (.ref a), .val (.ref b)] [.null, .int (Int32.ofNat A.slots.size), .int (Int32.ofNat 0), .ref b, .ref a])) rfl (by rw [hml]; rfl) c2 (argsL := [.ref b, .int (Int32.ofNat 0), .int (Int32.ofNat A.slots.size), .null]) (rest := []) rfl rfl (by show 2 * 0 + 0 ≤ _; decide) (hb hbytes d6) (⟨rfl, hB.mv X0.warmed.alike hh0, f1.al X0.warmed.alike, f2.al X0.warmed.alike, hA.mv X0.warmed.alike hh0, s1.there X0.warmed.alike hh0, hz, l0, by omega, l2, fun i hi => by rw [Nat.zero_add]; exact hp i hi⟩)
  have e0 := Got.mv _ s₁ s _ _ hh0.symm (Vm.Alike.refl _) rfl E3
  obtain rfl := e0.1
  have c4 : Steps p.tables e below (s₁.setTop (entryFrame m #[.ref a, .ref b] 2)) (T3.setTop (mkF m 9 #[.val (.ref a), .val (.ref b)] [])) := g3
  exact ⟨T3, none, _, _, _, X3, by simp, rfl, by omega, (fun _ => rfl), e0, fun fs hl => c4.trans (X3.returnOut hexec hret (hb hbytes d9) hl)⟩
theorem pays {l : Launch} {R : Room} {p : Program} {e : Env} {below : List Frame} {s : State} {sargs : Array Value} {len W : Nat} (a : Addr) (D : Cell) (fV fC : Field) (b : Addr) (A : Cell) (z : Int32) (htab : tab.before sargs s = true) (hfr : 4 ≤ R.frames) (hlo : W + 65 ≤ R.locals) :
    Back l R p e below s sargs yN len W (fun A₁ a₁ => A₁.cells + 1 ≤ R.cells ∧ A₁.slots + A.slots.size ≤ R.slots ∧ P a D fV fC b A z a₁ A₁.U) (fun A₁ _ v₁ B₁ => E a D fV fC A v₁ A₁.U B₁.U ∧ B₁.locs = A₁.locs ++ [⟨a, fC.slot⟩, ⟨a, fV.slot⟩] ∧ B₁.cells = A₁.cells + 1 ∧ B₁.slots = A₁.slots + A.slots.size) :=
  (law l a D fV fC b A z).pays htab hfr (by omega)
end New1
/-- the byte, read back as charAt reads it, is the char -/
theorem lo8_mask {x : Int32} (h0 : ¬ x < 0) (h1 : ¬ 255 < x) : lo8 x &&& 255 = x := by
  have t : ∀ k : Fin 256, lo8 (Int32.ofNat k.val) &&& 255 = Int32.ofNat k.val := by decide +kernel
  rw [Int32.lt_iff_toInt_lt] at h0 h1
  have e0 : (0 : Int32).toInt = 0 := rfl
  have e1 : (255 : Int32).toInt = 255 := rfl
  obtain ⟨k, hk⟩ : ∃ k : Nat, x.toInt = k := ⟨x.toInt.toNat, by omega⟩
  have hx : x = Int32.ofNat k := Int32.toInt_inj.mp (by rw [hk, Int32.toInt_ofNat_small (by omega)])
  rw [hx]
  exact t ⟨k, by omega⟩
end StrChars
namespace StrChars.Road
open Jvm Sem ClassFile Op Lib Jvm.Stand Jvm.Free Jvm.Free.XT
open Jvm.Lib.Cold (StaticIs)
abbrev ST : String := "java/lang/String"
/-- every table word that New1's law asks, flat -/
abbrev words : List Jvm.Cond := [.code New1.yN New1.yB 2 none, .initialized ST, .methodLink ST 27 New4.yN, .instanceMethod New4.yN,
  .code New4.yN New4.yB 6 none, .fieldLink ST 38 ST "COMPACT_STRINGS" "Z", .laysFinal ST ST "value" "[B", .fieldLink ST 9 ST "value" "[B", .laysFinal ST ST "coder" "B", .fieldLink ST 15 ST "coder" "B",
  .methodLink ST 1 Lib.objectInit, .instanceMethod Lib.objectInit, .code Lib.objectInit ⟨#[0xb1]⟩ 1 none, .methodLink ST 177 Cmp3.yN, .static Cmp3.yN, .methodLink ST 47 CodL.yN, .static CodL.yN,
  .code Cmp3.yN Cmp3.yB 6 (some (.array .byte)), .initialized U16, .arrayClass .byte, .methodLink U16 115 Cmp5.yN, .static Cmp5.yN, .code Cmp5.yN Cmp5.yB 7 (some .int), .code CodL.yN CodL.yB 2 (some .byte)]
theorem tab_of {a : Array Value} {s : State} (h : ∀ w ∈ words, w.before a s = true) : New1.tab.before a s = true := by
  have h5 : Cmp5.tab.before a s = true := unparts (wk h (.code Cmp5.yN Cmp5.yB 7 (some .int))) (wks h (.initialized Cmp5.yN.cls :: Cmp5.site))
  have hc : CodL.tab.before a s = true := unparts (wk h (.code CodL.yN CodL.yB 2 (some .byte))) (wks h (.initialized CodL.yN.cls :: CodL.site))
  have q5 : ∀ w ∈ Cmp5.tab :: words, w.before a s = true := fun w hw => (List.mem_cons.mp hw).elim (fun e => e ▸ h5) (h w)
  have h3 : Cmp3.tab.before a s = true := unparts (wk q5 (.code Cmp3.yN Cmp3.yB 6 (some (.array .byte)))) (wks q5 (.initialized Cmp3.yN.cls :: Cmp3.site))
  have q3 : ∀ w ∈ Cmp3.tab :: CodL.tab :: words, w.before a s = true := fun w hw => (List.mem_cons.mp hw).elim (fun e => e ▸ h3) fun hw => (List.mem_cons.mp hw).elim (fun e => e ▸ hc) (h w)
  have h4 : New4.tab.before a s = true := unparts (wk q3 (.code New4.yN New4.yB 6 none)) (wks q3 (.initialized New4.yN.cls :: New4.site))
  have q4 : ∀ w ∈ New4.tab :: words, w.before a s = true := fun w hw => (List.mem_cons.mp hw).elim (fun e => e ▸ h4) (h w)
  exact unparts (wk q4 (.code New1.yN New1.yB 2 none)) (wks q4 (.initialized New1.yN.cls :: New1.site))
/-- the words ride from the start Z to the walk's own state -/
theorem moved {Z s : State} {a0 args : Array Value} (hZ : Z.Warmed39 s.vm) (hw : ∀ d ∈ words, d.before a0 Z = true) : ∀ d ∈ words, d.before args s = true := fun d hd => by
  have q := hw d hd
  have t : ∀ d ∈ words, d = .arrayClass .byte ∨ (d.onTables && d.keepsFace) = true := by decide +kernel
  rcases t d hd with rfl | t
  · exact RoadKit.mvA hZ q
  · exact RoadKit.mv hZ q t
/-- WHAT COMES BACK, over the tables of the start Z: h the heap at the call, h' behind it -/
def Q (Z : State) (x : Addr) (A : Cell) (h : Heap) (v : Option Value) (h' : Heap) (L : List Loc) : Prop := v = none ∧ (∀ y ∈ L, y.base = x) ∧ RoadKit.Keep h h' [x] ∧ h'.size = h.size + 1 ∧ RoadKit.Exa Z h' x ST ∧ RoadKit.Fld Z h' x ST "value" "[B" (.ref h.size) ∧ RoadKit.Fld Z h' x ST "coder" "B" (.int 0) ∧
  (∃ V : Cell, RoadKit.Arr Z h' h.size V .byte ∧ V.vm = .none ∧ Z.vm.findClass "[B" = some V.cls ∧ V.slots.size = A.slots.size ∧ ∀ j, j < A.slots.size → V.slots[j]? = some (.int (lo8 (cv A j)))) ∧
  ∀ (O n d : String) (w : Value), RoadKit.Fld Z h x O n d w → RoadKit.slotOf Z O n d ≠ RoadKit.slotOf Z ST "value" "[B" → RoadKit.slotOf Z O n d ≠ RoadKit.slotOf Z ST "coder" "B" → RoadKit.Fld Z h' x O n d w
/-- **new String(chars) AT A CALL, IN THE ROAD'S FORM**: for specialBack behind newO: x the fresh String, b the char[] with the cell A -/
theorem back {p : Program} {l : Launch} {e : Env} {R : Room} {s : State} {args : Array Value} {below : List Frame} {len W : Nat} {Z : State} {a0 : Array Value} {h : Heap} (hZ : Z.Warmed39 s.vm) (hw : ∀ d ∈ words, d.before a0 Z = true) {kI : Nat} (wi : (Jvm.Cond.instantiable ST kI).before a0 Z = true)
    {x b : Addr} {A : Cell} {z : Int32} {v0 c0 : Value} (E : RoadKit.Exa Z h x ST) (V : RoadKit.Fld Z h x ST "value" "[B" v0) (C : RoadKit.Fld Z h x ST "coder" "B" c0) (K : RoadKit.Arr Z h b A .char) (hty : Typed .char A) (S : RoadKit.Sta Z h ST "COMPACT_STRINGS" "Z" (.int z)) (hz : ¬ z = 0)
    (l0 : 0 < A.slots.size) (l2 : A.slots.size ≤ 536870912) (hp : ∀ i, i < A.slots.size → ¬ 255 < cv A i) (hfr : 4 ≤ R.frames) (hlo : W + 65 ≤ R.locals) :
    Back l R p e below s args New1.yN len W (fun P a => a = #[.ref x, .ref b] ∧ P.U.heap = h ∧ P.cells + 1 ≤ R.cells ∧ P.slots + A.slots.size ≤ R.slots)
      (fun P _ v B => ∃ L, Q Z x A h v B.U.heap L ∧ B.locs = P.locs ++ L ∧ B.cells = P.cells + 1 ∧ B.slots = P.slots + A.slots.size) := by
  intro m meth c P g ig mk a X hg hsize hdg hW hn hp'
  obtain ⟨rfl, rfl, r1, r2⟩ := hp'
  have al : Z.vm.Alike P.U.vm := hZ.alike.trans X.warmed.alike
  obtain ⟨D, cfV, kV, iV, fV, hD, gV, stV, knV, obV, asV, slV⟩ := id V
  obtain ⟨D', cfC, kC, iC, fC, hD', gC, stC, -, -, asC, slC⟩ := id C
  cases hD.symm.trans hD'
  obtain ⟨D2, kD, e1, e2, e3, e4, e5⟩ := id E
  cases hD.symm.trans e1
  obtain ⟨c2, k2, i1, i2, i3, -⟩ := Cond.instantiable_spec wi
  cases e2.symm.trans i1
  cases e3.symm.trans i2
  obtain ⟨kU, u1, u2⟩ := al.2.2 _ _ e3
  have hB : Blank ST x D P.U := ⟨hD, ⟨knV, fun q hq => by rw [hq] at obV; cases obV⟩, by rw [al.findClass]; exact e2, kU, u1, by rw [u2]; exact i3, by rw [u2]; exact e5 i3⟩
  have F1 : Found ST "value" "[B" fV P.U := ⟨SBG.found_only al ⟨cfV, kV, iV, gV⟩, stV⟩
  have F2 : Found ST "coder" "B" fC P.U := ⟨SBG.found_only al ⟨cfC, kC, iC, gC⟩, stC⟩
  have hA : Ch b A P.U := ⟨⟨K.1, State.isArrayOf_alike al K.2.1, K.2.2, by omega⟩, hty⟩
  have hS : StaticIs P.U ST "COMPACT_STRINGS" "Z" (.int z) := by
    obtain ⟨cfS, iS, kS, fS, st, cS, t1, t2, t3, t4, t5, t6, t7⟩ := S
    exact StaticIs.there (s := { Z with heap := P.U.heap }) ⟨cfS, iS, kS, fS, st, cS, t1, t2, t3, t4, t5, (fun q => by rw [q] at t6; cases t6), t7⟩ al rfl
  obtain ⟨v, B, X', ⟨⟨hv, E', V', q1, q2, q3, q4, q5, q6, q7, q8, q9, q10, q11⟩, hl, hc, hs⟩, st⟩ := New1.pays x D fV fC b A z (tab_of (moved hZ hw)) hfr hlo m meth c P g ig mk _ X hg hsize hdg hW hn ⟨r1, r2, rfl, hB, F1, F2, hA, hS, hz, l0, l2, hp⟩
  have al' : Z.vm.Alike B.U.vm := hZ.alike.trans X'.warmed.alike
  have hsz : E'.slots.size = D.slots.size := by
    obtain ⟨-, -, -, kB, w1, w2, w3⟩ := q1
    obtain ⟨kB', y1, y2⟩ := al'.2.2 _ _ e3
    rw [q2.2.1] at w1
    cases w1.symm.trans y1
    rw [w3, e5 i3, y2]
  refine ⟨v, B, X', ⟨_, ⟨hv, ?_, ⟨by omega, fun y cy hy hn' => q10 y cy (by simpa using hn') hy, fun y cy hy => ?_⟩, q11, ⟨E', _, q1.1, by rw [q2.2.1]; exact e2, by rw [q2.2.1]; exact e3, by rw [q2.1]; exact obV, fun _ => by rw [hsz]; exact e5 i3⟩,
    ⟨E', cfV, kV, iV, fV, q1.1, gV, stV, by rw [q2.1]; exact knV, by rw [q2.1]; exact obV, by rw [q2.2.1]; exact asV, q3⟩, ⟨E', cfC, kC, iC, fC, q1.1, gC, stC, by rw [q2.1]; exact knV, by rw [q2.1]; exact obV, by rw [q2.2.1]; exact asC, q4⟩,
    ⟨V', ⟨q5.1, State.isArrayOf_alike al'.symm q5.2.1, q5.2.2.1⟩, q6, by rw [← al'.findClass]; exact q7, q8, fun j hj => by have := q9 j hj; rwa [Nat.zero_add] at this⟩, fun O n d w F n1 n2 => ?_⟩, hl, hc, hs⟩, st⟩
  · intro y hy
    simp only [List.mem_cons, List.not_mem_nil, or_false] at hy
    rcases hy with rfl | rfl <;> rfl
  · by_cases q : y = x
    · subst q
      cases hD.symm.trans hy
      exact ⟨E', q1.1, q2.2.1, q2.1, hsz⟩
    · exact ⟨cy, q10 y cy q hy, rfl, rfl, rfl⟩
  · obtain ⟨D3, cf, k, i, f, g1, g2, g3, g4, g5, g6, g7⟩ := F
    cases hD.symm.trans g1
    simp only [RoadKit.slotOf, g2, gV, gC, Option.map_some, Option.getD_some] at n1 n2
    exact ⟨E', cf, k, i, f, q1.1, g2, g3, by rw [q2.1]; exact g4, by rw [q2.1]; exact g5, by rw [q2.2.1]; exact g6, by rw [q2.2.2 f.slot (by simp [n1, n2])]; exact g7⟩
end StrChars.Road
namespace StrChars.Road
open Jvm Sem ClassFile Op Lib Jvm.Stand Jvm.Free Jvm.Free.XT
/-- WHAT COMES BACK, the byte[] as a list of values -/
def QA (Z : State) (x : Addr) (zn : Int32) (cs : List Int32) (h : Heap) (v : Option Value) (h' : Heap) (L : List Loc) : Prop := v = none ∧ (∀ y ∈ L, y.base = x) ∧ RoadKit.Keep h h' [x] ∧ h'.size = h.size + 1 ∧ RoadKit.Exa Z h' x ST ∧ RoadKit.Fld Z h' x ST "value" "[B" (.ref h.size) ∧ RoadKit.Fld Z h' x ST "coder" "B" (.int 0) ∧
  (∃ kb, Z.vm.findClass "[B" = some kb ∧ RoadKit.Arv Z h' h.size kb .byte zn (cs.map fun c => .int (lo8 c)) (.int 0)) ∧
  ∀ (O n d : String) (w : Value), RoadKit.Fld Z h x O n d w → RoadKit.slotOf Z O n d ≠ RoadKit.slotOf Z ST "value" "[B" → RoadKit.slotOf Z O n d ≠ RoadKit.slotOf Z ST "coder" "B" → RoadKit.Fld Z h' x O n d w
/-- **new String(chars) AT A CALL, THE ARRAYS AS LISTS**: the char[] at b holds cs, not empty, no char above 255 -/
theorem backArv {p : Program} {l : Launch} {e : Env} {R : Room} {s : State} {args : Array Value} {below : List Frame} {len W : Nat} {Z : State} {a0 : Array Value} {h : Heap} (hZ : Z.Warmed39 s.vm) (hw : ∀ d ∈ words, d.before a0 Z = true) {kI : Nat} (wi : (Jvm.Cond.instantiable ST kI).before a0 Z = true)
    {x b : Addr} {k : ClassId} {zn z : Int32} {cs : List Int32} {dv v0 c0 : Value} (E : RoadKit.Exa Z h x ST) (V : RoadKit.Fld Z h x ST "value" "[B" v0) (C : RoadKit.Fld Z h x ST "coder" "B" c0) (K : RoadKit.Arv Z h b k .char zn (cs.map Value.int) dv) (S : RoadKit.Sta Z h ST "COMPACT_STRINGS" "Z" (.int z)) (hz : ¬ z = 0)
    (hlen : zn.toNatClampNeg = cs.length) (h0 : 0 < cs.length) (hbig : cs.length ≤ 536870912) (hall : ∀ c ∈ cs, ¬ 255 < c) (hfr : 4 ≤ R.frames) (hlo : W + 65 ≤ R.locals) :
    Back l R p e below s args New1.yN len W (fun P a => a = #[.ref x, .ref b] ∧ P.U.heap = h ∧ P.cells + 1 ≤ R.cells ∧ P.slots + cs.length ≤ R.slots)
      (fun P _ v B => ∃ L, QA Z x zn cs h v B.U.heap L ∧ B.locs = P.locs ++ L ∧ B.cells = P.cells + 1 ∧ B.slots = P.slots + cs.length) := by
  obtain ⟨A, K1, K2, K3, K4, K5, K6⟩ := K
  have e : A.slots.size = cs.length := K3.trans hlen
  have hat : ∀ (i : Nat) (hi : i < cs.length), A.slots[i]? = some (.int cs[i]) := fun i hi => by rw [K5 i (by omega)]; simp [List.getD_eq_getElem?_getD, hi]
  have hcv : ∀ (i : Nat) (hi : i < cs.length), cv A i = cs[i] := fun i hi => by unfold cv; rw [hat i hi]
  have hty : Typed .char A := fun i v hv => by
    have hi : i < A.slots.size := (Array.getElem?_eq_some_iff.mp hv).1
    have q := K5 i hi
    rw [hv] at q
    rw [Option.some.inj q]
    exact K6 i hi
  refine Back.mono (back hZ hw wi E V C K1 hty S hz (by omega) (by omega) (fun i hi => by rw [hcv i (by omega)]; exact hall _ (List.getElem_mem _)) hfr hlo) (fun P a hp => ⟨hp.1, hp.2.1, hp.2.2.1, by rw [e]; exact hp.2.2.2⟩) (fun P a v B hp hq => ?_)
  obtain ⟨L, ⟨q1, q2, q3, q4, q5, q6, q7, ⟨V', v1, v2, v3, v4, v5⟩, q9⟩, hl, hc, hs⟩ := hq
  refine ⟨L, ⟨q1, q2, q3, q4, q5, q6, q7, ⟨V'.cls, v3, V', v1, rfl, by rw [v4, e, hlen], K4, fun i hi => ?_, fun i hi => ?_⟩, q9⟩, hl, hc, by rw [hs, e]⟩
  · have hi' : i < cs.length := by omega
    rw [v5 i (by omega), hcv i hi']; simp [List.getD_eq_getElem?_getD, hi']
  · have hi' : i < cs.length := by omega
    simp only [List.getD_eq_getElem?_getD, List.getElem?_map, List.getElem?_eq_getElem hi', Option.map_some, Option.getD_some]
    exact fits_lo8 _
end StrChars.Road
namespace StrChars.Road
open Jvm Sem ClassFile Op Lib Jvm.Stand Jvm.Free Jvm.Free.XT
/-- WHAT COMES BACK, in the writer's own shape -/
def QV (Z : State) (x : Addr) (N : Int32) (bs : List Int32) (h : Heap) (n0 : Nat) (v : Option Value) (h' : Heap) (L : List Loc) : Prop := v = none ∧ RoadKit.Fr n0 L ∧ RoadKit.Keep h h' [x] ∧ RoadKit.Exa Z h' x ST ∧ RoadKit.Fld Z h' x ST "coder" "B" (.int 0) ∧
  ∃ (t : Addr) (kb : ClassId), n0 ≤ t ∧ h.size ≤ t ∧ ¬ t = x ∧ RoadKit.Fld Z h' x ST "value" "[B" (.ref t) ∧ RoadKit.Arv Z h' t kb .byte N (bs.map Value.int) (.int 0)
/-- **new String(chars) AT A CALL, FOR THE WRITER**: a char[] of n known ints, each 0 to 255 -/
theorem backV {p : Program} {l : Launch} {e : Env} {R : Room} {s : State} {args : Array Value} {below : List Frame} {len W : Nat} {Z : State} {a0 : Array Value} {h : Heap} (hZ : Z.Warmed39 s.vm) (hw : ∀ d ∈ words, d.before a0 Z = true) {kI : Nat} (wi : (Jvm.Cond.instantiable ST kI).before a0 Z = true)
    {x b : Addr} {kC : ClassId} {cs bs : List Int32} {d v0 c0 : Value} {z N : Int32} {n n0 : Nat} (hx0 : n0 ≤ x) (hh0 : n0 ≤ h.size) (E : RoadKit.Exa Z h x ST) (V : RoadKit.Fld Z h x ST "value" "[B" v0) (C : RoadKit.Fld Z h x ST "coder" "B" c0) (K : RoadKit.Arv Z h b kC .char N (cs.map Value.int) d) (S : RoadKit.Sta Z h ST "COMPACT_STRINGS" "Z" (.int z)) (hz : ¬ z = 0)
    (hn : cs.length = n) (hN : N = Int32.ofNat n) (l0 : 0 < n) (l2 : n ≤ 4000) (hp : ∀ c ∈ cs, ¬ c < 0 ∧ ¬ (255 : Int32) < c) (hb : bs = cs.map (fun c => c.toInt8.toInt32)) (hfr : 4 ≤ R.frames) (hlo : W + 65 ≤ R.locals) :
    Back l R p e below s args (⟨"java/lang/String", "<init>", "([C)V"⟩ : MethodName) len W (fun P a => a = #[.ref x, .ref b] ∧ P.U.heap = h ∧ P.cells + 1 ≤ R.cells ∧ P.slots + n ≤ R.slots)
      (fun P _ v B => ∃ L, QV Z x N bs h n0 v B.U.heap L ∧ B.locs = P.locs ++ L ∧ B.cells = P.cells + 1 ∧ B.slots = P.slots + n) := by
  subst hn hN hb
  refine Back.mono (backArv hZ hw wi E V C K S hz (n32 (by omega)) l0 (by omega) (fun c hc => (hp c hc).2) hfr hlo) (fun P a hp => hp) (fun P a v B hp hq => ?_)
  obtain ⟨L, ⟨q1, q2, q3, q4, q5, q6, q7, ⟨kb, v1, v2⟩, q9⟩, hl, hc, hs⟩ := hq
  exact ⟨L, ⟨q1, fun y hy => by rw [q2 y hy]; exact hx0, q3, q5, q7, h.size, kb, hh0, Nat.le_refl _, Nat.ne_of_gt E.lt, q6, by rw [List.map_map]; exact v2⟩, hl, hc, hs⟩
end StrChars.Road
namespace StrChars
open Jvm Sem ClassFile Op Lib Jvm.Stand Jvm.Free.XT Jvm.Free.ALB Jvm.Free.JM Jvm.Free
open Jvm.Lib.Cold (StaticIs)
def hi8 (x : Int32) : Int32 := lo8 (x >>> ((8 : Int32) &&& 31))
/-- what StringUTF16.getChar makes of two bytes -/
def pairCh (u v : Int32) : Int32 := (((u &&& 255) <<< ((0 : Int32) &&& 31)) ||| ((v &&& 255) <<< ((8 : Int32) &&& 31))).toUInt32.toUInt16.toUInt32.toInt32
theorem shr0 (c : Int32) : c >>> ((0 : Int32) &&& 31) = c := by
  have e : ((0 : Int32) &&& 31) = 0 := by decide
  rw [e]
  apply Int32.toBitVec_inj.mp
  rw [Int32.toBitVec_shiftRight]
  have e1 : ((0 : Int32).toBitVec.smod 32) = 0#32 := by decide
  rw [e1, BitVec.sshiftRight_eq']
  exact BitVec.sshiftRight_zero
theorem lo8_and (x : Int32) : (lo8 x &&& 255).toBitVec.toNat = x.toBitVec.toNat % 256 := by
  have h : (lo8 x).toBitVec = (x.toBitVec.signExtend 8).signExtend 32 := by rw [lo8, Int8.toBitVec_toInt32, Int32.toBitVec_toInt8]
  rw [Int32.toBitVec_and, BitVec.toNat_and, h]
  have e : ((x.toBitVec.signExtend 8).signExtend 32).toNat % 256 = x.toBitVec.toNat % 256 := by
    rw [BitVec.toNat_signExtend]
    have hlt := x.toBitVec.isLt
    simp only [BitVec.toNat_setWidth, BitVec.toNat_signExtend]
    split <;> split <;> omega
  rw [← e]
  exact Nat.and_two_pow_sub_one_eq_mod _ 8
theorem pair_says {c : Int32} (h0 : ¬ c < 0) (h1 : ¬ 65535 < c) : pairCh (lo8 c) (hi8 c) = c := by
  rw [Int32.lt_iff_toInt_lt] at h0 h1
  have e0 : (0 : Int32).toInt = 0 := rfl
  have e1 : (65535 : Int32).toInt = 65535 := rfl
  have hc : c.toInt = c.toBitVec.toNat := by
    have := c.toBitVec.isLt
    have e : c.toInt = c.toBitVec.toInt := rfl
    rw [e] at h0 h1
    rw [e]
    rw [BitVec.toInt_eq_toNat_cond] at h0 h1 ⊢
    split at h0 <;> split <;> omega
  have hn : c.toBitVec.toNat < 65536 := by omega
  have a1 := lo8_and c
  have a2 : (hi8 c &&& 255).toBitVec.toNat = c.toBitVec.toNat / 256 := by
    rw [hi8, lo8_and]
    have e : ((8 : Int32) &&& 31) = 8 := by decide
    rw [e, Int32.toBitVec_shiftRight]
    have e2 : ((8 : Int32).toBitVec.smod 32) = 8#32 := by decide
    rw [e2, BitVec.sshiftRight_eq', BitVec.toNat_sshiftRight_of_msb_false (by rw [BitVec.msb_eq_false_iff_two_mul_lt]; omega)]
    show c.toBitVec.toNat >>> 8 % 256 = _
    rw [Nat.shiftRight_eq_div_pow]
    omega
  unfold pairCh
  apply Int32.toBitVec_inj.mp
  apply BitVec.eq_of_toNat_eq
  have f0 : ((0 : Int32) &&& 31) = 0 := by decide
  have f8 : ((8 : Int32) &&& 31) = 8 := by decide
  rw [f0, f8]
  have g : (((lo8 c &&& 255) <<< (0 : Int32)) ||| ((hi8 c &&& 255) <<< (8 : Int32))).toBitVec.toNat = c.toBitVec.toNat := by
    rw [Int32.toBitVec_or, Int32.toBitVec_shiftLeft, Int32.toBitVec_shiftLeft]
    have s0 : ((0 : Int32).toBitVec.smod 32) = 0#32 := by decide
    have s8 : ((8 : Int32).toBitVec.smod 32) = 8#32 := by decide
    rw [s0, s8, BitVec.toNat_or]
    simp only [BitVec.shiftLeft_eq', BitVec.toNat_shiftLeft, a1, a2]
    show (c.toBitVec.toNat % 256) <<< 0 % 2 ^ 32 ||| (c.toBitVec.toNat / 256) <<< 8 % 2 ^ 32 = _
    rw [Nat.shiftLeft_zero, Nat.mod_eq_of_lt (show c.toBitVec.toNat % 256 < 2 ^ 32 by omega), Nat.mod_eq_of_lt (show (c.toBitVec.toNat / 256) <<< 8 < 2 ^ 32 by rw [Nat.shiftLeft_eq]; omega), Nat.or_comm, ← Nat.shiftLeft_add_eq_or_of_lt (by omega), Nat.shiftLeft_eq]
    omega
  show BitVec.toNat (((((lo8 c &&& 255) <<< (0 : Int32)) ||| ((hi8 c &&& 255) <<< (8 : Int32))).toBitVec.setWidth 16).setWidth 32) = _
  rw [BitVec.toNat_setWidth, BitVec.toNat_setWidth, g]
  omega
end StrChars
namespace StrChars
open Jvm Sem ClassFile Op Lib Jvm.Stand Jvm.Free.XT Jvm.Free.ALB Jvm.Free.JM Jvm.Free
open Jvm.Lib.Cold (StaticIs)
theorem shr1 {n : Nat} (h : 2 * n < 2 ^ 31) : Int32.ofNat (2 * n) >>> ((1 : Int32) &&& 31) = Int32.ofNat n := by
  have e : ((1 : Int32) &&& 31) = 1 := by decide
  rw [e]
  apply Int32.toBitVec_inj.mp
  rw [Int32.toBitVec_shiftRight]
  have e1 : ((1 : Int32).toBitVec.smod 32) = 1#32 := by decide
  have hm : (BitVec.ofNat 32 (2 * n)).toNat = 2 * n := by rw [BitVec.toNat_ofNat, Nat.mod_eq_of_lt (by omega)]
  rw [e1, BitVec.sshiftRight_eq']
  apply BitVec.eq_of_toNat_eq
  show ((BitVec.ofNat 32 (2 * n)).sshiftRight 1).toNat = (BitVec.ofNat 32 n).toNat
  rw [BitVec.toNat_sshiftRight_of_msb_false (by rw [BitVec.msb_eq_false_iff_two_mul_lt, hm]; omega), hm, BitVec.toNat_ofNat, Nat.shiftRight_eq_div_pow]
  omega
/-- charAt's cast of a byte read back -/
def chr8 (u : Int32) : Int32 := (u &&& 255).toUInt32.toUInt16.toUInt32.toInt32
theorem chr8_lo8 {c : Int32} (h0 : ¬ c < 0) (h1 : ¬ 255 < c) : chr8 (lo8 c) = c := by
  have t : ∀ k : Fin 256, (Int32.ofNat k.val).toUInt32.toUInt16.toUInt32.toInt32 = Int32.ofNat k.val := by decide +kernel
  unfold chr8
  rw [lo8_mask h0 h1]
  rw [Int32.lt_iff_toInt_lt] at h0 h1
  have e0 : (0 : Int32).toInt = 0 := rfl
  have e1 : (255 : Int32).toInt = 255 := rfl
  obtain ⟨k, hk⟩ : ∃ k : Nat, c.toInt = k := ⟨c.toInt.toNat, by omega⟩
  have hx : c = Int32.ofNat k := Int32.toInt_inj.mp (by rw [hk, Int32.toInt_ofNat_small (by omega)])
  rw [hx]
  exact t ⟨k, by omega⟩
theorem narrow_ch {c : Int32} (h0 : ¬ c < 0) (h1 : ¬ 65535 < c) : narrow .char (.int c) = .int c := by
  have q : narrow .char (.int (pairCh (lo8 c) (hi8 c))) = .int (pairCh (lo8 c) (hi8 c)) := narrow_c _
  rwa [pair_says h0 h1] at q
/-- the array's cell V codes the n chars f 0 .. f (n - 1) by the coder cd, as the JDK does: coder 1 just where some char is above 255 -/
def Cod (cd : Int32) (n : Nat) (f : Nat → Int32) (V : Cell) : Prop := (cd = 0 ∧ V.slots.size = n ∧ ∀ j, j < n → V.slots[j]? = some (.int (lo8 (f j))) ∧ ¬ 255 < f j) ∨ (cd = 1 ∧ V.slots.size = 2 * n ∧ (∀ j, j < n → V.slots[2 * j]? = some (.int (lo8 (f j))) ∧ V.slots[2 * j + 1]? = some (.int (hi8 (f j)))) ∧ ∃ j, j < n ∧ 255 < f j)
theorem Cod.cd {cd : Int32} {n : Nat} {f : Nat → Int32} {V : Cell} (h : Cod cd n f V) : cd = 0 ∨ cd = 1 := h.imp (fun q => q.1) fun q => q.1
theorem Cod.len {cd : Int32} {n : Nat} {f : Nat → Int32} {V : Cell} (h : Cod cd n f V) (hs : V.slots.size < 2 ^ 31) : Int32.ofNat V.slots.size >>> (cd &&& 31) = Int32.ofNat n := by
  rcases h with ⟨rfl, h, -⟩ | ⟨rfl, h, -⟩
  · rw [shr0, h]
  · rw [h, shr1 (by omega)]
/-- **x is a String of the n chars f 0 .. f (n - 1)**, Latin-1 or UTF-16; its array at t has the cell V -/
def Txt (x t : Addr) (V : Cell) (cd : Int32) (n : Nat) (f : Nat → Int32) (U : State) : Prop := Exact "java/lang/String" x U ∧ Has x "java/lang/String" "value" "[B" (.ref t) U ∧ Has x "java/lang/String" "coder" "B" (.int cd) U ∧ XT.Arr .byte t V U ∧ Cod cd n f V ∧ ∀ j, j < n → ¬ f j < 0 ∧ ¬ 65535 < f j
theorem Txt.mv {x t : Addr} {V : Cell} {cd : Int32} {n : Nat} {f : Nat → Int32} {U U' : State} (h : Txt x t V cd n f U) (hal : U.vm.Alike U'.vm) (hh : U'.heap = U.heap) : Txt x t V cd n f U' := ⟨h.1.mv hal hh, h.2.1.mv hal hh, h.2.2.1.mv hal hh, h.2.2.2.1.mv hal hh, h.2.2.2.2⟩
namespace Cdr
def yN : MethodName := ⟨"java/lang/String", "coder", "()B"⟩
abbrev yB : ByteArray := jdk_42_method_152_code
theorem d0 : decode yB 0 = .ok (.getstatic 38, 3) := by decide +kernel
theorem d3 : decode yB 3 = .ok (.ifCond (.eq) 10, 3) := by decide +kernel
theorem d6 : decode yB 6 = .ok (.aload_n 0, 1) := by decide +kernel
theorem d7 : decode yB 7 = .ok (.getfield 15, 3) := by decide +kernel
theorem d10 : decode yB 10 = .ok (.goto 4, 3) := by decide +kernel
theorem d14 : decode yB 14 = .ok (.ireturn, 1) := by decide +kernel
def site : List Cond := [.fieldLink "java/lang/String" 38 "java/lang/String" "COMPACT_STRINGS" "Z", .fieldLink "java/lang/String" 15 "java/lang/String" "coder" "B"]
def tab : Cond := tabOf yN yB 1 (some .byte) site
def P (x : Addr) (cd z : Int32) (args : Array Value) (s : State) : Prop := args = #[.ref x] ∧ Has x "java/lang/String" "coder" "B" (.int cd) s ∧ (cd = 0 ∨ cd = 1) ∧ StaticIs s "java/lang/String" "COMPACT_STRINGS" "Z" (.int z) ∧ ¬ z = 0
def E (cd : Int32) (r : Option Value) (s u : State) : Prop := XT.PureE (some (.int cd)) r s u
theorem law (l : Launch) (x : Addr) (cd z : Int32) : Law l yN 1 0 0 0 yB 1 (some .byte) site (P x cd z) (E cd) [] 0 0 := by
  refine Law.of_walk (plainFor_of_name (by decide +kernel)) (by decide +kernel) (by decide +kernel) (by decide) (fun _ _ h => by rw [h.1]; rfl) (fun _ U U' hal hh h => ⟨h.1, h.2.1.mv hal hh, h.2.2.1, h.2.2.2.1.there hal hh, h.2.2.2.2⟩) (fun r U U' V V' h1 hal h2 h => XT.PureE.mv r U U' V V' h1 hal h2 h) ?_
  intro p e s m args below meth c s₁ X0 hexec hbytes hml hret hlk hnm hown hh0 W hP
  obtain ⟨rfl, hx, hc, s1, hz⟩ := hP
  have c1 : Steps p.tables e below (s₁.setTop (entryFrame m #[.ref x] 1)) (s₁.setTop (mkF m 0 #[.val (.ref x)] [])) := entry rfl
  obtain ⟨T2, X2, q2, st2⟩ := X0.sget hexec hown (wk W (.fieldLink "java/lang/String" 38 "java/lang/String" "COMPACT_STRINGS" "Z")) s1 (fun _ _ h => by rw [hh0]; exact h) (g := (mkF m 0 #[.val (.ref x)] [])) rfl (hb hbytes d0)
  have hh2 := q2.trans hh0
  have c3 : Steps p.tables e below (s₁.setTop (entryFrame m #[.ref x] 1)) (T2.setTop (mkF m 7 #[.val (.ref x)] [.ref x])) := (c1.trans (st2 _ (Steps.refl _))).trans (by
    refine XS.ifNo X2.here hexec rfl (hb hbytes d3) rfl (i0_eq_f hz) ?_
    refine XS.aloadN X2.here hexec rfl (hb hbytes d6) rfl rfl ?_
    exact Steps.refl _)
  obtain ⟨T4, X4, q4, st4⟩ := X2.hget hexec hown (wk W (.fieldLink "java/lang/String" 15 "java/lang/String" "coder" "B")) (hx.mv X2.warmed.alike hh2) (g := (mkF m 7 #[.val (.ref x)] [.ref x])) rfl (rest := []) rfl (hb hbytes d7)
  have c5 : Steps p.tables e below (s₁.setTop (entryFrame m #[.ref x] 1)) (T4.setTop (mkF m 14 #[.val (.ref x)] [.int cd])) := (c3.trans (st4 _ (Steps.refl _))).trans (by
    refine XS.goto X4.here hexec rfl (pc0 := 10) rfl (hb hbytes d10) (by decide) rfl ?_
    exact Steps.refl _)
  exact ⟨T4, some (.int cd), _, _, _, X4, rfl, rfl, rfl, (fun h => by cases h), ⟨rfl, q4.trans hh2⟩, fun fs hl => c5.trans (X4.ireturnOut hexec hret (by rcases hc with rfl | rfl <;> rfl) (Or.inr (Or.inr (Or.inl rfl))) (hb hbytes d14) hl)⟩
end Cdr
namespace Len
def yN : MethodName := ⟨"java/lang/String", "length", "()I"⟩
abbrev yB : ByteArray := jdk_42_method_54_code
theorem d0 : decode yB 0 = .ok (.aload_n 0, 1) := by decide +kernel
theorem d1 : decode yB 1 = .ok (.getfield 9, 3) := by decide +kernel
theorem d4 : decode yB 4 = .ok (.arraylength, 1) := by decide +kernel
theorem d5 : decode yB 5 = .ok (.aload_n 0, 1) := by decide +kernel
theorem d6 : decode yB 6 = .ok (.invokevirtual 335, 3) := by decide +kernel
theorem d9 : decode yB 9 = .ok (.ishr, 1) := by decide +kernel
theorem d10 : decode yB 10 = .ok (.ireturn, 1) := by decide +kernel
def site : List Cond := [.fieldLink "java/lang/String" 9 "java/lang/String" "value" "[B", Cdr.tab] ++ virtW "java/lang/String" 335 "java/lang/String" Cdr.yN Cdr.yN
def tab : Cond := tabOf yN yB 1 (some .int) site
def P (x t : Addr) (V : Cell) (cd : Int32) (n : Nat) (f : Nat → Int32) (z : Int32) (args : Array Value) (s : State) : Prop := args = #[.ref x] ∧ Txt x t V cd n f s ∧ StaticIs s "java/lang/String" "COMPACT_STRINGS" "Z" (.int z) ∧ ¬ z = 0
def E (n : Nat) (r : Option Value) (s u : State) : Prop := XT.PureE (some (.int (Int32.ofNat n))) r s u
/-- length() of a String of n chars, in either coding -/
theorem law (l : Launch) (x t : Addr) (V : Cell) (cd : Int32) (n : Nat) (f : Nat → Int32) (z : Int32) : Law l yN 1 0 1 13 yB 1 (some .int) site (P x t V cd n f z) (E n) [] 0 0 := by
  refine Law.of_walk (plainFor_of_name (by decide +kernel)) (by decide +kernel) (by decide +kernel) (by decide) (fun _ _ h => by rw [h.1]; rfl) (fun _ U U' hal hh h => ⟨h.1, h.2.1.mv hal hh, h.2.2.1.there hal hh, h.2.2.2⟩) (fun r U U' V V' h1 hal h2 h => XT.PureE.mv r U U' V V' h1 hal h2 h) ?_
  intro p e s m args below meth c s₁ X0 hexec hbytes hml hret hlk hnm hown hh0 W hP
  obtain ⟨rfl, hx, s1, hz⟩ := hP
  have v31 := hx.2.2.2.1.2.2.2
  have c1 : Steps p.tables e below (s₁.setTop (entryFrame m #[.ref x] 1)) (s₁.setTop (mkF m 1 #[.val (.ref x)] [.ref x])) := Steps.trans (entry rfl) (by
    show Steps p.tables e below (s₁.setTop (mkF m 0 #[.val (.ref x)] [])) _
    refine XS.aloadN X0.here hexec rfl (hb hbytes d0) rfl rfl ?_
    exact Steps.refl _)
  obtain ⟨T2, X2, q2, st2⟩ := X0.hget hexec hown (wk W (.fieldLink "java/lang/String" 9 "java/lang/String" "value" "[B")) (hx.mv X0.warmed.alike hh0).2.1 (g := (mkF m 1 #[.val (.ref x)] [.ref x])) rfl (rest := []) rfl (hb hbytes d1)
  have hh2 := q2.trans hh0
  have hx2 := hx.mv X2.warmed.alike hh2
  have c3 : Steps p.tables e below (s₁.setTop (entryFrame m #[.ref x] 1)) (T2.setTop (mkF m 6 #[.val (.ref x)] [.ref x, .int (Int32.ofNat V.slots.size)])) := (c1.trans (st2 _ (Steps.refl _))).trans (by
    refine X2.alen hexec hx2.2.2.2.1 rfl rfl (hb hbytes d4) ?_
    refine XS.aloadN X2.here hexec rfl (hb hbytes d5) rfl rfl ?_
    exact Steps.refl _)
  obtain ⟨v4, T4, X4, E4, g4⟩ := X2.callV hexec (Cdr.law l x cd z) hown (wks W (virtW "java/lang/String" 335 "java/lang/String" Cdr.yN Cdr.yN)) rfl (by decide) (wk W Cdr.tab) (W := 1) (Nat.le_of_ble_eq_true rfl) (Nat.le_of_ble_eq_true rfl) (Nat.le_refl _) (Nat.le_refl _) (hx2.1.fc X2.warmed.alike) hx2.1.is (g := (mkF m 6 #[.val (.ref x)] [.ref x, .int (Int32.ofNat V.slots.size)])) rfl (by rw [hml]; rfl) c3 (argsL := []) (rest := [.int (Int32.ofNat V.slots.size)]) rfl rfl (by show 2 * 0 + (1 + 0) ≤ _; decide) (hb hbytes d6) (⟨rfl, hx2.2.2.1, hx.2.2.2.2.1.cd, s1.there X2.warmed.alike hh2, hz⟩)
  obtain ⟨rfl, q4⟩ := E4
  have c5 : Steps p.tables e below (s₁.setTop (entryFrame m #[.ref x] 1)) (T4.setTop (mkF m 10 #[.val (.ref x)] [.int (Int32.ofNat V.slots.size >>> (cd &&& 31))])) := Steps.trans g4 (by
    refine ishr X4.here hexec rfl (hb hbytes d9) rfl ?_
    exact Steps.refl _)
  rw [hx.2.2.2.2.1.len v31] at c5
  exact ⟨T4, some (.int (Int32.ofNat n)), _, _, _, X4, rfl, rfl, rfl, (fun h => by cases h), ⟨rfl, q4.trans hh2⟩, fun fs hl => c5.trans (X4.ireturnOut hexec hret rfl (Or.inl rfl) (hb hbytes d10) hl)⟩
theorem pays {l : Launch} {R : Room} {p : Program} {e : Env} {below : List Frame} {s : State} {sargs : Array Value} {len W : Nat} (x t : Addr) (V : Cell) (cd : Int32) (n : Nat) (f : Nat → Int32) (z : Int32) (htab : tab.before sargs s = true) (hfr : 2 ≤ R.frames) (hlo : W + 25 ≤ R.locals) :
    Back l R p e below s sargs yN len W (fun A₁ a₁ => A₁.cells + 0 ≤ R.cells ∧ A₁.slots + 0 ≤ R.slots ∧ P x t V cd n f z a₁ A₁.U) (fun A₁ _ v₁ B₁ => E n v₁ A₁.U B₁.U ∧ B₁.locs = A₁.locs ++ [] ∧ B₁.cells = A₁.cells + 0 ∧ B₁.slots = A₁.slots + 0) :=
  (law l x t V cd n f z).pays htab hfr (by omega)
end Len
namespace IsL
def yN : MethodName := ⟨"java/lang/String", "isLatin1", "()Z"⟩
abbrev yB : ByteArray := jdk_42_method_154_code
theorem d0 : decode yB 0 = .ok (.getstatic 38, 3) := by decide +kernel
theorem d3 : decode yB 3 = .ok (.ifCond (.eq) 14, 3) := by decide +kernel
theorem d6 : decode yB 6 = .ok (.aload_n 0, 1) := by decide +kernel
theorem d7 : decode yB 7 = .ok (.getfield 15, 3) := by decide +kernel
theorem d10 : decode yB 10 = .ok (.ifCond (.ne) 7, 3) := by decide +kernel
theorem d13 : decode yB 13 = .ok (.iconst 1, 1) := by decide +kernel
theorem d14 : decode yB 14 = .ok (.goto 4, 3) := by decide +kernel
theorem d17 : decode yB 17 = .ok (.iconst 0, 1) := by decide +kernel
theorem d18 : decode yB 18 = .ok (.ireturn, 1) := by decide +kernel
def site : List Cond := [.fieldLink "java/lang/String" 38 "java/lang/String" "COMPACT_STRINGS" "Z", .fieldLink "java/lang/String" 15 "java/lang/String" "coder" "B"]
def tab : Cond := tabOf yN yB 1 (some .boolean) site
def P (x : Addr) (cd z : Int32) (args : Array Value) (s : State) : Prop := args = #[.ref x] ∧ Has x "java/lang/String" "coder" "B" (.int cd) s ∧ (cd = 0 ∨ cd = 1) ∧ StaticIs s "java/lang/String" "COMPACT_STRINGS" "Z" (.int z) ∧ ¬ z = 0
def E (cd : Int32) (r : Option Value) (s u : State) : Prop := XT.PureE (some (.int (1 - cd))) r s u
theorem law (l : Launch) (x : Addr) (cd z : Int32) : Law l yN 1 0 0 0 yB 1 (some .boolean) site (P x cd z) (E cd) [] 0 0 := by
  refine Law.of_walk (plainFor_of_name (by decide +kernel)) (by decide +kernel) (by decide +kernel) (by decide) (fun _ _ h => by rw [h.1]; rfl) (fun _ U U' hal hh h => ⟨h.1, h.2.1.mv hal hh, h.2.2.1, h.2.2.2.1.there hal hh, h.2.2.2.2⟩) (fun r U U' V V' h1 hal h2 h => XT.PureE.mv r U U' V V' h1 hal h2 h) ?_
  intro p e s m args below meth c s₁ X0 hexec hbytes hml hret hlk hnm hown hh0 W hP
  obtain ⟨rfl, hx, hc, s1, hz⟩ := hP
  have c1 : Steps p.tables e below (s₁.setTop (entryFrame m #[.ref x] 1)) (s₁.setTop (mkF m 0 #[.val (.ref x)] [])) := entry rfl
  obtain ⟨T2, X2, q2, st2⟩ := X0.sget hexec hown (wk W (.fieldLink "java/lang/String" 38 "java/lang/String" "COMPACT_STRINGS" "Z")) s1 (fun _ _ h => by rw [hh0]; exact h) (g := (mkF m 0 #[.val (.ref x)] [])) rfl (hb hbytes d0)
  have hh2 := q2.trans hh0
  have c3 : Steps p.tables e below (s₁.setTop (entryFrame m #[.ref x] 1)) (T2.setTop (mkF m 7 #[.val (.ref x)] [.ref x])) := (c1.trans (st2 _ (Steps.refl _))).trans (by
    refine XS.ifNo X2.here hexec rfl (hb hbytes d3) rfl (i0_eq_f hz) ?_
    refine XS.aloadN X2.here hexec rfl (hb hbytes d6) rfl rfl ?_
    exact Steps.refl _)
  obtain ⟨T4, X4, q4, st4⟩ := X2.hget hexec hown (wk W (.fieldLink "java/lang/String" 15 "java/lang/String" "coder" "B")) (hx.mv X2.warmed.alike hh2) (g := (mkF m 7 #[.val (.ref x)] [.ref x])) rfl (rest := []) rfl (hb hbytes d7)
  have c5 : Steps p.tables e below (s₁.setTop (entryFrame m #[.ref x] 1)) (T4.setTop (mkF m 10 #[.val (.ref x)] [.int cd])) := c3.trans (st4 _ (Steps.refl _))
  have c6 : Steps p.tables e below (s₁.setTop (entryFrame m #[.ref x] 1)) (T4.setTop (mkF m 18 #[.val (.ref x)] [.int (1 - cd)])) := by
    rcases hc with rfl | rfl
    · exact c5.trans (by
        refine XS.ifNo X4.here hexec rfl (hb hbytes d10) rfl (i0_ne_f rfl) ?_
        refine iconstV X4.here hexec rfl 1 (hb hbytes d13) (by decide) ?_
        refine XS.goto X4.here hexec rfl (pc0 := 14) rfl (hb hbytes d14) (by decide) rfl ?_
        exact Steps.refl _)
    · exact c5.trans (by
        refine XS.ifYes X4.here hexec rfl (pc0 := 10) rfl (hb hbytes d10) rfl (i0_ne_t (by decide)) (by decide) rfl ?_
        refine iconstV X4.here hexec rfl 0 (hb hbytes d17) (by decide) ?_
        exact Steps.refl _)
  exact ⟨T4, some (.int (1 - cd)), _, _, _, X4, rfl, rfl, rfl, (fun h => by cases h), ⟨rfl, q4.trans hh2⟩, fun fs hl => c6.trans (X4.ireturnOut hexec hret (by rcases hc with rfl | rfl <;> rfl) (Or.inr (Or.inl rfl)) (hb hbytes d18) hl)⟩
end IsL
namespace LChA
def yN : MethodName := ⟨"java/lang/StringLatin1", "charAt", "([BI)C"⟩
abbrev yB : ByteArray := jdk_43_method_2_code
theorem d0 : decode yB 0 = .ok (.iload_n 1, 1) := by decide +kernel
theorem d1 : decode yB 1 = .ok (.aload_n 0, 1) := by decide +kernel
theorem d2 : decode yB 2 = .ok (.arraylength, 1) := by decide +kernel
theorem d3 : decode yB 3 = .ok (.invokestatic 9, 3) := by decide +kernel
theorem d6 : decode yB 6 = .ok (.aload_n 0, 1) := by decide +kernel
theorem d7 : decode yB 7 = .ok (.iload_n 1, 1) := by decide +kernel
theorem d8 : decode yB 8 = .ok (.baload, 1) := by decide +kernel
theorem d9 : decode yB 9 = .ok (.sipush 255, 3) := by decide +kernel
theorem d12 : decode yB 12 = .ok (.iand, 1) := by decide +kernel
theorem d13 : decode yB 13 = .ok (.i2c, 1) := by decide +kernel
theorem d14 : decode yB 14 = .ok (.ireturn, 1) := by decide +kernel
def site : List Cond := [JO.Str_checkIndex.tab] ++ staticW "java/lang/StringLatin1" 9 JO.Str_checkIndex.yN
def tab : Cond := tabOf yN yB 2 (some .char) site
def P (t : Addr) (V : Cell) (i : Nat) (u : Int32) (fm : Value) (args : Array Value) (s : State) : Prop := args = #[.ref t, .int (Int32.ofNat i)] ∧ XT.Arr .byte t V s ∧ V.slots[i]? = some (.int u) ∧ (StaticIs s "jdk/internal/util/Preconditions" "SIOOBE_FORMATTER" "Ljava/util/function/BiFunction;" fm ∧ fm.isRef = true)
def E (u : Int32) (r : Option Value) (s w : State) : Prop := XT.PureE (some (.int (chr8 u))) r s w
theorem law (l : Launch) (t : Addr) (V : Cell) (i : Nat) (u : Int32) (fm : Value) : Law l yN 2 2 2 27 yB 2 (some .char) site (P t V i u fm) (E u) [] 0 0 := by
  refine Law.of_walk (plainFor_of_name (by decide +kernel)) (by decide +kernel) (by decide +kernel) (by decide) (fun _ _ h => by rw [h.1]; rfl) (fun _ U U' hal hh h => ⟨h.1, h.2.1.mv hal hh, h.2.2.1, h.2.2.2.1.there hal hh, h.2.2.2.2⟩) (fun r U U' V V' h1 hal h2 h => XT.PureE.mv r U U' V V' h1 hal h2 h) ?_
  intro p e s m args below meth c s₁ X0 hexec hbytes hml hret hlk hnm hown hh0 W hP
  obtain ⟨rfl, hV, hu, s1, rf⟩ := hP
  have v31 := hV.2.2.2
  have hi : i < V.slots.size := (Array.getElem?_eq_some_iff.mp hu).1
  have c1 : Steps p.tables e below (s₁.setTop (entryFrame m #[.ref t, .int (Int32.ofNat i)] 2)) (s₁.setTop (mkF m 0 #[.val (.ref t), .val (.int (Int32.ofNat i))] [])) := entry rfl
  have c2 : Steps p.tables e below (s₁.setTop (entryFrame m #[.ref t, .int (Int32.ofNat i)] 2)) (s₁.setTop (mkF m 3 #[.val (.ref t), .val (.int (Int32.ofNat i))] [.int (Int32.ofNat V.slots.size), .int (Int32.ofNat i)])) := c1.trans (by
    refine XS.iloadN X0.here hexec rfl (hb hbytes d0) rfl ?_
    refine XS.aloadN X0.here hexec rfl (hb hbytes d1) rfl rfl ?_
    refine X0.alen hexec (hV.mv X0.warmed.alike hh0) rfl rfl (hb hbytes d2) ?_
    exact Steps.refl _)
  obtain ⟨v3, T3, X3, E3, g3⟩ := X0.callS hexec (JO.Str_checkIndex.law l (Int32.ofNat i) (Int32.ofNat V.slots.size) fm) hown (wks W (staticW "java/lang/StringLatin1" 9 JO.Str_checkIndex.yN)) (wk W JO.Str_checkIndex.tab) (W := 0) (Nat.le_of_ble_eq_true rfl) (Nat.le_of_ble_eq_true rfl) (Nat.le_refl _) (Nat.le_refl _) (g := (mkF m 3 #[.val (.ref t), .val (.int (Int32.ofNat i))] [.int (Int32.ofNat V.slots.size), .int (Int32.ofNat i)])) rfl (by rw [hml]; rfl) c2 (argsL := [.int (Int32.ofNat i), .int (Int32.ofNat V.slots.size)]) (rest := []) rfl rfl (by show 2 * 0 + 0 ≤ _; decide) (hb hbytes d3) (⟨rfl, rf, s1.there X0.warmed.alike hh0, Int32.ofNat_not_neg (by omega), lt32 v31 hi⟩)
  obtain ⟨rfl, q3⟩ := E3
  have hh3 := q3.trans hh0
  have c4 : Steps p.tables e below (s₁.setTop (entryFrame m #[.ref t, .int (Int32.ofNat i)] 2)) (T3.setTop (mkF m 14 #[.val (.ref t), .val (.int (Int32.ofNat i))] [.int (chr8 u)])) := Steps.trans g3 (by
    refine XS.aloadN X3.here hexec rfl (hb hbytes d6) rfl rfl ?_
    refine XS.iloadN X3.here hexec rfl (hb hbytes d7) rfl ?_
    refine X3.aget hexec (hV.mv X3.warmed.alike hh3) rfl hu rfl rfl (hb hbytes d8) ?_
    refine sipushV X3.here hexec rfl 255 (hb hbytes d9) (by decide) ?_
    refine XS.iand X3.here hexec rfl (hb hbytes d12) rfl ?_
    refine i2c X3.here hexec rfl (hb hbytes d13) rfl ?_
    exact Steps.refl _)
  exact ⟨T3, some (.int (chr8 u)), _, _, _, X3, rfl, rfl, rfl, (fun h => by cases h), ⟨rfl, hh3⟩, fun fs hl => c4.trans (X3.ireturnOut hexec hret (narrow_c _) (Or.inr (Or.inr (Or.inr (Or.inl rfl)))) (hb hbytes d14) hl)⟩
end LChA
end StrChars
namespace StrChars.Road
open Jvm Sem ClassFile Op Lib Jvm.Stand Jvm.Free Jvm.Free.XT
open Jvm.Lib.Cold (StaticIs)
theorem consq {a : Array Value} {s : State} {c : Jvm.Cond} {L : List Jvm.Cond} (h0 : c.before a s = true) (h : ∀ w ∈ L, w.before a s = true) : ∀ w ∈ c :: L, w.before a s = true := fun w hw => (List.mem_cons.mp hw).elim (fun e => e ▸ h0) (h w)
/-- the words of String.length(), either coding -/
abbrev wordsLen : List Jvm.Cond := [.code Len.yN Len.yB 1 (some .int), .initialized ST, .fieldLink ST 9 ST "value" "[B", .fieldLink ST 38 ST "COMPACT_STRINGS" "Z", .fieldLink ST 15 ST "coder" "B", .code Cdr.yN Cdr.yB 1 (some .byte), .methodLink ST 335 Cdr.yN, .declares Cdr.yN, .selects ST Cdr.yN Cdr.yN, .instanceMethod Cdr.yN]
theorem tabLen_of {a : Array Value} {s : State} (h : ∀ w ∈ wordsLen, w.before a s = true) : Len.tab.before a s = true := by
  have hc : Cdr.tab.before a s = true := unparts (wk h (.code Cdr.yN Cdr.yB 1 (some .byte))) (wks h (.initialized Cdr.yN.cls :: Cdr.site))
  have q := consq hc h
  exact unparts (wk q (.code Len.yN Len.yB 1 (some .int))) (wks q (.initialized Len.yN.cls :: Len.site))
theorem movedLen {Z s : State} {a0 args : Array Value} (hZ : Z.Warmed39 s.vm) (hw : ∀ d ∈ wordsLen, d.before a0 Z = true) : ∀ d ∈ wordsLen, d.before args s = true := fun d hd => by
  have q := hw d hd
  have t : ∀ d ∈ wordsLen, d = .arrayClass .byte ∨ (d.onTables && d.keepsFace) = true := by decide +kernel
  rcases t d hd with rfl | t
  · exact RoadKit.mvA hZ q
  · exact RoadKit.mv hZ q t
/-- the bytes of the chars cs, low before high -/
def wideBytes : List Int32 → List Value
  | [] => []
  | c :: cs => .int (lo8 c) :: .int (hi8 c) :: wideBytes cs
theorem wide_lo (d : Value) : ∀ (cs : List Int32) (j : Nat), j < cs.length → (wideBytes cs).getD (2 * j) d = .int (lo8 (cs.getD j 0))
  | [], j, h => absurd h (Nat.not_lt_zero j)
  | c :: cs, 0, _ => rfl
  | c :: cs, j + 1, h => by
    have q := wide_lo d cs j (by simpa using h)
    rw [show 2 * (j + 1) = 2 * j + 1 + 1 from by omega]
    simpa [wideBytes] using q
theorem wide_hi (d : Value) : ∀ (cs : List Int32) (j : Nat), j < cs.length → (wideBytes cs).getD (2 * j + 1) d = .int (hi8 (cs.getD j 0))
  | [], j, h => absurd h (Nat.not_lt_zero j)
  | c :: cs, 0, _ => rfl
  | c :: cs, j + 1, h => by
    have q := wide_hi d cs j (by simpa using h)
    rw [show 2 * (j + 1) + 1 = 2 * j + 1 + 1 + 1 from by omega]
    simpa [wideBytes] using q
theorem low_at (d : Value) (cs : List Int32) (j : Nat) (h : j < cs.length) : (cs.map fun c => Value.int (lo8 c)).getD j d = .int (lo8 (cs.getD j 0)) := by
  simp [List.getD_eq_getElem?_getD, h]
/-- an array of N2 bytes vs codes the chars cs by the coder cd -/
def CodA (cs : List Int32) (cd N2 : Int32) (vs : List Value) : Prop := (cd = 0 ∧ N2 = Int32.ofNat cs.length ∧ vs = (cs.map fun c => Value.int (lo8 c)) ∧ ∀ c ∈ cs, ¬ 255 < c) ∨ (cd = 1 ∧ N2 = Int32.ofNat (2 * cs.length) ∧ vs = wideBytes cs ∧ ∃ c ∈ cs, 255 < c)
theorem CodA.cod {cs : List Int32} {cd N2 : Int32} {vs : List Value} {V : Cell} (h : CodA cs cd N2 vs) (hn : 2 * cs.length < 2 ^ 31) (hs : V.slots.size = N2.toNatClampNeg) (hv : RoadKit.Has V vs (.int 0)) : Cod cd cs.length (fun j => cs.getD j 0) V := by
  rcases h with ⟨rfl, rfl, rfl, h⟩ | ⟨rfl, rfl, rfl, c, hc, hw⟩
  · rw [n32 (by omega)] at hs
    exact Or.inl ⟨rfl, hs, fun j hj => ⟨by rw [hv j (by omega), low_at _ _ _ hj], by
      have e : cs.getD j 0 = cs[j] := by simp [List.getD_eq_getElem?_getD, hj]
      show ¬ 255 < cs.getD j 0
      rw [e]; exact h _ (List.getElem_mem _)⟩⟩
  · rw [n32 (by omega)] at hs
    obtain ⟨j, hj, rfl⟩ := List.getElem_of_mem hc
    exact Or.inr ⟨rfl, hs, fun j hj => ⟨by rw [hv _ (by omega), wide_lo _ _ _ hj], by rw [hv _ (by omega), wide_hi _ _ _ hj]⟩, j, hj, by
      have e : cs.getD j 0 = cs[j] := by simp [List.getD_eq_getElem?_getD, hj]
      show 255 < cs.getD j 0
      rw [e]; exact hw⟩
/-- an object of exactly java/lang/String, its two fields found: as the laws ask it -/
theorem strObj {Z U : State} {a0 : Array Value} {kI : Nat} (wi : (Jvm.Cond.instantiable ST kI).before a0 Z = true) (al : Z.vm.Alike U.vm) {x : Addr} {v0 c0 : Value} (E : RoadKit.Exa Z U.heap x ST) (V : RoadKit.Fld Z U.heap x ST "value" "[B" v0) (C : RoadKit.Fld Z U.heap x ST "coder" "B" c0) :
    ∃ (D : Cell) (fV fC : Field), Blank ST x D U ∧ Found ST "value" "[B" fV U ∧ Found ST "coder" "B" fC U ∧ D.slots[fV.slot]? = some v0 ∧ D.slots[fC.slot]? = some c0 ∧ RoadKit.slotOf Z ST "value" "[B" = fV.slot ∧ RoadKit.slotOf Z ST "coder" "B" = fC.slot := by
  obtain ⟨D, cfV, kV, iV, fV, hD, gV, stV, knV, obV, asV, slV⟩ := V
  obtain ⟨D', cfC, kC, iC, fC, hD', gC, stC, -, -, asC, slC⟩ := C
  cases hD.symm.trans hD'
  obtain ⟨D2, kD, e1, e2, e3, e4, e5⟩ := E
  cases hD.symm.trans e1
  obtain ⟨c2, k2, i1, i2, i3, -⟩ := Cond.instantiable_spec wi
  cases e2.symm.trans i1
  cases e3.symm.trans i2
  obtain ⟨kU, u1, u2⟩ := al.2.2 _ _ e3
  exact ⟨D, fV, fC, ⟨hD, ⟨knV, fun q hq => by rw [hq] at obV; cases obV⟩, by rw [al.findClass]; exact e2, kU, u1, by rw [u2]; exact i3, by rw [u2]; exact e5 i3⟩, ⟨SBG.found_only al ⟨cfV, kV, iV, gV⟩, stV⟩, ⟨SBG.found_only al ⟨cfC, kC, iC, gC⟩, stC⟩, slV, slC, by simp [RoadKit.slotOf, gV], by simp [RoadKit.slotOf, gC]⟩
theorem sta_is {Z U : State} (al : Z.vm.Alike U.vm) {C n d : String} {v : Value} (S : RoadKit.Sta Z U.heap C n d v) : StaticIs U C n d v := by
  obtain ⟨cfS, iS, kS, fS, st, cS, t1, t2, t3, t4, t5, t6, t7⟩ := S
  exact StaticIs.there (s := { Z with heap := U.heap }) ⟨cfS, iS, kS, fS, st, cS, t1, t2, t3, t4, t5, (fun q => by rw [q] at t6; cases t6), t7⟩ al rfl
/-- **length() OF SUCH A STRING** -/
theorem lenW {p : Program} {l : Launch} {e : Env} {R : Room} {s : State} {args : Array Value} {below : List Frame} {len W : Nat} {Z : State} {a0 : Array Value} {h : Heap} (hZ : Z.Warmed39 s.vm) (hw : ∀ d ∈ wordsLen, d.before a0 Z = true) {kI : Nat} (wi : (Jvm.Cond.instantiable ST kI).before a0 Z = true)
    {x t : Addr} {kb : ClassId} {cs : List Int32} {cd N2 z : Int32} {vs : List Value} (E : RoadKit.Exa Z h x ST) (V : RoadKit.Fld Z h x ST "value" "[B" (.ref t)) (C : RoadKit.Fld Z h x ST "coder" "B" (.int cd)) (K : RoadKit.Arv Z h t kb .byte N2 vs (.int 0)) (hc : CodA cs cd N2 vs) (hb : ∀ c ∈ cs, ¬ c < 0 ∧ ¬ (65535 : Int32) < c)
    (S : RoadKit.Sta Z h ST "COMPACT_STRINGS" "Z" (.int z)) (hz : ¬ z = 0) (l2 : cs.length ≤ 4000) (hfr : 2 ≤ R.frames) (hlo : W + 25 ≤ R.locals) :
    Back l R p e below s args (⟨"java/lang/String", "length", "()I"⟩ : MethodName) len W (fun P a => a = #[.ref x] ∧ P.U.heap = h ∧ P.cells + 0 ≤ R.cells ∧ P.slots + 0 ≤ R.slots)
      (fun P _ v B => ∃ L, (v = some (.int (Int32.ofNat cs.length)) ∧ L = [] ∧ B.U.heap = h) ∧ B.locs = P.locs ++ L ∧ B.cells = P.cells + 0 ∧ B.slots = P.slots + 0) := by
  obtain ⟨A, K1, K2, K3, K4, K5, K6⟩ := K
  have hcod := hc.cod (by omega) K3 K5
  intro m meth c P g ig mk a X hg hsize hdg hW hn hp'
  obtain ⟨rfl, rfl, r1, r2⟩ := hp'
  have al : Z.vm.Alike P.U.vm := hZ.alike.trans X.warmed.alike
  obtain ⟨D, fV, fC, hB, F1, F2, g1, g2, -, -⟩ := strObj wi al E V C
  have hx : Txt x t A cd cs.length (fun j => cs.getD j 0) P.U := ⟨⟨_, hB.2.2.1, D, hB.1, rfl, by cases q : D.vm <;> first | rfl | exact absurd q (hB.2.1.2 _)⟩, Has.of hB F1 g1, Has.of hB F2 g2, ⟨K1.1, State.isArrayOf_alike al K1.2.1, K1.2.2, by rcases hcod with ⟨-, q, -⟩ | ⟨-, q, -⟩ <;> omega⟩, hcod, fun j hj => by
    have e : cs.getD j 0 = cs[j] := by simp [List.getD_eq_getElem?_getD, hj]
    show ¬ cs.getD j 0 < 0 ∧ ¬ 65535 < cs.getD j 0
    rw [e]; exact hb _ (List.getElem_mem _)⟩
  obtain ⟨v, B, X', ⟨⟨hv, hh⟩, hl, hk, hs⟩, st⟩ := Len.pays x t A cd cs.length (fun j => cs.getD j 0) z (tabLen_of (movedLen hZ hw)) hfr hlo m meth c P g ig mk _ X hg hsize hdg hW hn ⟨r1, r2, rfl, hx, sta_is al S, hz⟩
  exact ⟨v, B, X', ⟨[], ⟨hv, rfl, hh⟩, hl, hk, hs⟩, st⟩
end StrChars.Road
namespace StrChars.Road
open Jvm Sem ClassFile Op Lib Jvm.Stand Jvm.Free Jvm.Free.XT
open Jvm.Lib.Cold (StaticIs)
/-- the road's facts of a String, as the laws ask it -/
theorem txt_of {Z U : State} {a0 : Array Value} {kI : Nat} (wi : (Jvm.Cond.instantiable ST kI).before a0 Z = true) (al : Z.vm.Alike U.vm) {x t : Addr} {kb : ClassId} {cs : List Int32} {cd N2 : Int32} {vs : List Value} (E : RoadKit.Exa Z U.heap x ST) (V : RoadKit.Fld Z U.heap x ST "value" "[B" (.ref t)) (C : RoadKit.Fld Z U.heap x ST "coder" "B" (.int cd)) (K : RoadKit.Arv Z U.heap t kb .byte N2 vs (.int 0)) (hc : CodA cs cd N2 vs) (hb : ∀ c ∈ cs, ¬ c < 0 ∧ ¬ (65535 : Int32) < c) (l2 : cs.length ≤ 4000) :
    ∃ A, Txt x t A cd cs.length (fun j => cs.getD j 0) U := by
  obtain ⟨A, K1, K2, K3, K4, K5, K6⟩ := K
  have hcod := hc.cod (by omega) K3 K5
  obtain ⟨D, fV, fC, hB, F1, F2, g1, g2, -, -⟩ := strObj wi al E V C
  exact ⟨A, ⟨_, hB.2.2.1, D, hB.1, rfl, by cases q : D.vm <;> first | rfl | exact absurd q (hB.2.1.2 _)⟩, Has.of hB F1 g1, Has.of hB F2 g2, ⟨K1.1, State.isArrayOf_alike al K1.2.1, K1.2.2, by rcases hcod with ⟨-, q, -⟩ | ⟨-, q, -⟩ <;> omega⟩, hcod, fun j hj => by
    have e : cs.getD j 0 = cs[j] := by simp [List.getD_eq_getElem?_getD, hj]
    show ¬ cs.getD j 0 < 0 ∧ ¬ 65535 < cs.getD j 0
    rw [e]; exact hb _ (List.getElem_mem _)⟩
end StrChars.Road
namespace StrChars
open Jvm Sem ClassFile Op Lib Jvm.Stand Jvm.Free.XT Jvm.Free.ALB Jvm.Free.JM Jvm.Free
open Jvm.Lib.Cold (StaticIs)
namespace ChN
def yN : MethodName := ⟨"java/lang/String", "charAt", "(I)C"⟩
abbrev yB : ByteArray := jdk_42_method_56_code
theorem d0 : decode yB 0 = .ok (.aload_n 0, 1) := by decide +kernel
theorem d1 : decode yB 1 = .ok (.invokevirtual 492, 3) := by decide +kernel
theorem d4 : decode yB 4 = .ok (.ifCond (.eq) 12, 3) := by decide +kernel
theorem d7 : decode yB 7 = .ok (.aload_n 0, 1) := by decide +kernel
theorem d8 : decode yB 8 = .ok (.getfield 9, 3) := by decide +kernel
theorem d11 : decode yB 11 = .ok (.iload_n 1, 1) := by decide +kernel
theorem d12 : decode yB 12 = .ok (.invokestatic 495, 3) := by decide +kernel
theorem d15 : decode yB 15 = .ok (.ireturn, 1) := by decide +kernel
def site : List Cond := [.fieldLink "java/lang/String" 9 "java/lang/String" "value" "[B", IsL.tab, LChA.tab] ++ virtW "java/lang/String" 492 "java/lang/String" IsL.yN IsL.yN ++ staticW "java/lang/String" 495 LChA.yN
def tab : Cond := tabOf yN yB 2 (some .char) site
def P (x t : Addr) (V : Cell) (n : Nat) (f : Nat → Int32) (z : Int32) (fm : Value) (i : Nat) (args : Array Value) (s : State) : Prop := args = #[.ref x, .int (Int32.ofNat i)] ∧ Txt x t V 0 n f s ∧ i < n ∧ StaticIs s "java/lang/String" "COMPACT_STRINGS" "Z" (.int z) ∧ ¬ z = 0 ∧ StaticIs s "jdk/internal/util/Preconditions" "SIOOBE_FORMATTER" "Ljava/util/function/BiFunction;" fm ∧ fm.isRef = true
def E (f : Nat → Int32) (i : Nat) (r : Option Value) (s u : State) : Prop := XT.PureE (some (.int (f i))) r s u
/-- charAt(i) of a Latin-1 String of n chars, i < n: f i -/
theorem law (l : Launch) (x t : Addr) (V : Cell) (n : Nat) (f : Nat → Int32) (z : Int32) (fm : Value) (i : Nat) : Law l yN 2 1 3 40 yB 2 (some .char) site (P x t V n f z fm i) (E f i) [] 0 0 := by
  refine Law.of_walk (plainFor_of_name (by decide +kernel)) (by decide +kernel) (by decide +kernel) (by decide) (fun _ _ h => by rw [h.1]; rfl) (fun _ U U' hal hh h => ⟨h.1, h.2.1.mv hal hh, h.2.2.1, h.2.2.2.1.there hal hh, h.2.2.2.2.1, h.2.2.2.2.2.1.there hal hh, h.2.2.2.2.2.2⟩) (fun r U U' V V' h1 hal h2 h => XT.PureE.mv r U U' V V' h1 hal h2 h) ?_
  intro p e s m args below meth c s₁ X0 hexec hbytes hml hret hlk hnm hown hh0 W hP
  obtain ⟨rfl, hx, hi, s1, hz, s3, rf⟩ := hP
  have v31 := hx.2.2.2.1.2.2.2
  have hr := hx.2.2.2.2.2 i hi
  have hx0 := hx.mv X0.warmed.alike hh0
  have c1 : Steps p.tables e below (s₁.setTop (entryFrame m #[.ref x, .int (Int32.ofNat i)] 2)) (s₁.setTop (mkF m 1 #[.val (.ref x), .val (.int (Int32.ofNat i))] [.ref x])) := Steps.trans (entry rfl) (by
    show Steps p.tables e below (s₁.setTop (mkF m 0 #[.val (.ref x), .val (.int (Int32.ofNat i))] [])) _
    refine XS.aloadN X0.here hexec rfl (hb hbytes d0) rfl rfl ?_
    exact Steps.refl _)
  obtain ⟨v2, T2, X2, E2, g2⟩ := X0.callV hexec (IsL.law l x 0 z) hown (wks W (virtW "java/lang/String" 492 "java/lang/String" IsL.yN IsL.yN)) rfl (by decide) (wk W IsL.tab) (W := 0) (Nat.le_of_ble_eq_true rfl) (Nat.le_of_ble_eq_true rfl) (Nat.le_refl _) (Nat.le_refl _) (hx0.1.fc X0.warmed.alike) hx0.1.is (g := (mkF m 1 #[.val (.ref x), .val (.int (Int32.ofNat i))] [.ref x])) rfl (by rw [hml]; rfl) c1 (argsL := []) (rest := []) rfl rfl (by show 2 * 0 + 0 ≤ _; decide) (hb hbytes d1) (⟨rfl, hx0.2.2.1, hx.2.2.2.2.1.cd, s1.there X0.warmed.alike hh0, hz⟩)
  obtain ⟨rfl, q2⟩ := E2
  have hh2 := q2.trans hh0
  have hx2 := hx.mv X2.warmed.alike hh2
  obtain ⟨-, k1, k2⟩ | ⟨k0, -⟩ := hx.2.2.2.2.1
  · have c3 : Steps p.tables e below (s₁.setTop (entryFrame m #[.ref x, .int (Int32.ofNat i)] 2)) (T2.setTop (mkF m 8 #[.val (.ref x), .val (.int (Int32.ofNat i))] [.ref x])) := Steps.trans g2 (by
      refine XS.ifNo X2.here hexec rfl (hb hbytes d4) rfl (i0_eq_f (by decide)) ?_
      refine XS.aloadN X2.here hexec rfl (hb hbytes d7) rfl rfl ?_
      exact Steps.refl _)
    obtain ⟨T4, X4, q4, st4⟩ := X2.hget hexec hown (wk W (.fieldLink "java/lang/String" 9 "java/lang/String" "value" "[B")) hx2.2.1 (g := (mkF m 8 #[.val (.ref x), .val (.int (Int32.ofNat i))] [.ref x])) rfl (rest := []) rfl (hb hbytes d8)
    have hh4 := q4.trans hh2
    have c5 : Steps p.tables e below (s₁.setTop (entryFrame m #[.ref x, .int (Int32.ofNat i)] 2)) (T4.setTop (mkF m 12 #[.val (.ref x), .val (.int (Int32.ofNat i))] [.int (Int32.ofNat i), .ref t])) := (c3.trans (st4 _ (Steps.refl _))).trans (by
      refine XS.iloadN X4.here hexec rfl (hb hbytes d11) rfl ?_
      exact Steps.refl _)
    obtain ⟨v6, T6, X6, E6, g6⟩ := X4.callS hexec (LChA.law l t V i (lo8 (f i)) fm) hown (wks W (staticW "java/lang/String" 495 LChA.yN)) (wk W LChA.tab) (W := 0) (Nat.le_of_ble_eq_true rfl) (Nat.le_of_ble_eq_true rfl) (Nat.le_refl _) (Nat.le_refl _) (g := (mkF m 12 #[.val (.ref x), .val (.int (Int32.ofNat i))] [.int (Int32.ofNat i), .ref t])) rfl (by rw [hml]; rfl) c5 (argsL := [.ref t, .int (Int32.ofNat i)]) (rest := []) rfl rfl (by show 2 * 0 + 0 ≤ _; decide) (hb hbytes d12) (⟨rfl, hx.2.2.2.1.mv X4.warmed.alike hh4, (k2 i hi).1, s3.there X4.warmed.alike hh4, rf⟩)
    obtain ⟨rfl, q6⟩ := E6
    rw [chr8_lo8 hr.1 (k2 i hi).2] at g6
    exact ⟨T6, some (.int (f i)), _, _, _, X6, rfl, rfl, rfl, (fun h => by cases h), ⟨rfl, q6.trans hh4⟩, fun fs hl => Steps.trans g6 (X6.ireturnOut hexec hret (narrow_ch hr.1 hr.2) (Or.inr (Or.inr (Or.inr (Or.inl rfl)))) (hb hbytes d15) hl)⟩
  · exact absurd k0 (by decide)
theorem pays {l : Launch} {R : Room} {p : Program} {e : Env} {below : List Frame} {s : State} {sargs : Array Value} {len W : Nat} (x t : Addr) (V : Cell) (n : Nat) (f : Nat → Int32) (z : Int32) (fm : Value) (i : Nat) (htab : tab.before sargs s = true) (hfr : 4 ≤ R.frames) (hlo : W + 53 ≤ R.locals) :
    Back l R p e below s sargs yN len W (fun A₁ a₁ => A₁.cells + 0 ≤ R.cells ∧ A₁.slots + 0 ≤ R.slots ∧ P x t V n f z fm i a₁ A₁.U) (fun A₁ _ v₁ B₁ => E f i v₁ A₁.U B₁.U ∧ B₁.locs = A₁.locs ++ [] ∧ B₁.cells = A₁.cells + 0 ∧ B₁.slots = A₁.slots + 0) :=
  (law l x t V n f z fm i).pays htab hfr (by omega)
end ChN
end StrChars
namespace StrChars.Road
open Jvm Sem ClassFile Op Lib Jvm.Stand Jvm.Free Jvm.Free.XT
open Jvm.Lib.Cold (StaticIs)
/-- the words of String.charAt(int), the Latin-1 road alone -/
abbrev wordsChN : List Jvm.Cond := [.code ChN.yN ChN.yB 2 (some .char), .initialized ST, .fieldLink ST 9 ST "value" "[B", .fieldLink ST 38 ST "COMPACT_STRINGS" "Z", .fieldLink ST 15 ST "coder" "B", .code IsL.yN IsL.yB 1 (some .boolean), .methodLink ST 492 IsL.yN, .declares IsL.yN, .selects ST IsL.yN IsL.yN, .instanceMethod IsL.yN,
  .methodLink ST 495 LChA.yN, .static LChA.yN, .code LChA.yN LChA.yB 2 (some .char), .initialized "java/lang/StringLatin1", .methodLink "java/lang/StringLatin1" 9 JO.Str_checkIndex.yN, .static JO.Str_checkIndex.yN, .code JO.Str_checkIndex.yN JO.Str_checkIndex.yB 2 none,
  .fieldLink ST 1053 "jdk/internal/util/Preconditions" "SIOOBE_FORMATTER" "Ljava/util/function/BiFunction;", .methodLink ST 1059 JC.PreCheck.yN, .static JC.PreCheck.yN, .code JC.PreCheck.yN JC.PreCheck.yB 3 (some .int), .initialized "jdk/internal/util/Preconditions"]
theorem tabChN_of {a : Array Value} {s : State} (h : ∀ w ∈ wordsChN, w.before a s = true) : ChN.tab.before a s = true := by
  have hp : JC.PreCheck.tab.before a s = true := unparts (wk h (.code JC.PreCheck.yN JC.PreCheck.yB 3 (some .int))) (wks h (.initialized JC.PreCheck.yN.cls :: JC.PreCheck.site))
  have qk := consq hp h
  have hk : JO.Str_checkIndex.tab.before a s = true := unparts (wk qk (.code JO.Str_checkIndex.yN JO.Str_checkIndex.yB 2 none)) (wks qk (.initialized JO.Str_checkIndex.yN.cls :: JO.Str_checkIndex.site))
  have ql := consq hk h
  have hl : LChA.tab.before a s = true := unparts (wk ql (.code LChA.yN LChA.yB 2 (some .char))) (wks ql (.initialized LChA.yN.cls :: LChA.site))
  have hi : IsL.tab.before a s = true := unparts (wk h (.code IsL.yN IsL.yB 1 (some .boolean))) (wks h (.initialized IsL.yN.cls :: IsL.site))
  have q := consq hi (consq hl h)
  exact unparts (wk q (.code ChN.yN ChN.yB 2 (some .char))) (wks q (.initialized ChN.yN.cls :: ChN.site))
theorem movedChN {Z s : State} {a0 args : Array Value} (hZ : Z.Warmed39 s.vm) (hw : ∀ d ∈ wordsChN, d.before a0 Z = true) : ∀ d ∈ wordsChN, d.before args s = true := fun d hd => by
  have t : ∀ d ∈ wordsChN, (d.onTables && d.keepsFace) = true := by decide +kernel
  exact RoadKit.mv hZ (hw d hd) (t d hd)
/-- **charAt(i) OF A LATIN-1 STRING**, i < n: the char -/
theorem chN {p : Program} {l : Launch} {e : Env} {R : Room} {s : State} {args : Array Value} {below : List Frame} {len W : Nat} {Z : State} {a0 : Array Value} {h : Heap} (hZ : Z.Warmed39 s.vm) (hw : ∀ d ∈ wordsChN, d.before a0 Z = true) {kI : Nat} (wi : (Jvm.Cond.instantiable ST kI).before a0 Z = true)
    {x t : Addr} {kb : ClassId} {cs : List Int32} {N2 z : Int32} {vs : List Value} {fm : Value} {i : Nat} {j : Int32} (E : RoadKit.Exa Z h x ST) (V : RoadKit.Fld Z h x ST "value" "[B" (.ref t)) (C : RoadKit.Fld Z h x ST "coder" "B" (.int 0)) (K : RoadKit.Arv Z h t kb .byte N2 vs (.int 0)) (hc : CodA cs 0 N2 vs) (hb : ∀ c ∈ cs, ¬ c < 0 ∧ ¬ (65535 : Int32) < c)
    (S : RoadKit.Sta Z h ST "COMPACT_STRINGS" "Z" (.int z)) (hz : ¬ z = 0) (F : RoadKit.Sta Z h "jdk/internal/util/Preconditions" "SIOOBE_FORMATTER" "Ljava/util/function/BiFunction;" fm) (rf : fm.isRef = true) (l2 : cs.length ≤ 4000) (hi : i < cs.length) (hj : j = Int32.ofNat i) (hfr : 4 ≤ R.frames) (hlo : W + 53 ≤ R.locals) :
    Back l R p e below s args (⟨"java/lang/String", "charAt", "(I)C"⟩ : MethodName) len W (fun P a => a = #[.ref x, .int j] ∧ P.U.heap = h ∧ P.cells + 0 ≤ R.cells ∧ P.slots + 0 ≤ R.slots)
      (fun P _ v B => ∃ L, (v = some (.int (cs.getD i 0)) ∧ L = [] ∧ B.U.heap = h) ∧ B.locs = P.locs ++ L ∧ B.cells = P.cells + 0 ∧ B.slots = P.slots + 0) := by
  subst hj
  intro m meth c P g ig mk a X hg hsize hdg hW hn hp'
  obtain ⟨rfl, rfl, r1, r2⟩ := hp'
  have al : Z.vm.Alike P.U.vm := hZ.alike.trans X.warmed.alike
  obtain ⟨A, hx⟩ := txt_of wi al E V C K hc hb l2
  obtain ⟨v, B, X', ⟨⟨hv, hh⟩, hl, hk, hs⟩, st⟩ := ChN.pays x t A cs.length (fun j => cs.getD j 0) z fm i (tabChN_of (movedChN hZ hw)) hfr hlo m meth c P g ig mk _ X hg hsize hdg hW hn ⟨r1, r2, rfl, hx, hi, sta_is al S, hz, sta_is al F, rf⟩
  exact ⟨v, B, X', ⟨[], ⟨hv, rfl, hh⟩, hl, hk, hs⟩, st⟩
/-- what backV says of its String, as the contracts of this text ask it: cs's low bytes, coder 0 -/
theorem codOf {cs : List Int32} {n : Nat} (hn : cs.length = n) (hb : ∀ c ∈ cs, ¬ 255 < c) : CodA cs 0 (Int32.ofNat n) ((cs.map lo8).map Value.int) := Or.inl ⟨rfl, by rw [hn], by simp [List.map_map, Function.comp_def], hb⟩
end StrChars.Road
end Jvm.Pilot.@@N@@
namespace Jvm.Pilot.@@N@@
open Jvm Jvm.ClassFile Sem Op Lib Jvm.Free Jvm.Stand Jvm.LawKit Jvm.RoadKit Bundle Jvm.OwnKit Jvm.Pilot.@@N@@.Jvm.D
/-! plain facts on ints -/
theorem own_and255 (x : Int32) : ∃ k : Nat, k < 256 ∧ x &&& 255 = Int32.ofNat k := by
  have e : (x &&& 255).toBitVec.toNat = x.toBitVec.toNat &&& 255 := by
    show (x.toBitVec &&& (255#32)).toNat = _
    rw [BitVec.toNat_and]; rfl
  refine ⟨x.toBitVec.toNat &&& 255, Nat.lt_of_le_of_lt Nat.and_le_right (by decide), ?_⟩
  apply Int32.toBitVec_inj.mp
  apply BitVec.eq_of_toNat_eq
  rw [e]
  show _ = (BitVec.ofNat 32 _).toNat
  rw [BitVec.toNat_ofNat, Nat.mod_eq_of_lt (Nat.lt_of_le_of_lt Nat.and_le_right (by decide))]
theorem own_ch (x : Int32) : nar .char ((x &&& (255 : Int32)).toUInt32.toUInt16.toUInt32.toInt32) = x &&& 255 := by
  show ((x &&& (255 : Int32)).toUInt32.toUInt16.toUInt32.toInt32).toUInt32.toUInt16.toUInt32.toInt32 = _
  rw [i2c_mask, i2c_mask]
theorem own_b255 (x : Int32) : ¬ (x &&& 255) < 0 ∧ ¬ (255 : Int32) < (x &&& 255) := by
  obtain ⟨k, hk, e⟩ := own_and255 x
  rw [e]
  have t : ∀ k : Fin 256, ¬ Int32.ofNat k.val < 0 ∧ ¬ (255 : Int32) < Int32.ofNat k.val := by decide +kernel
  exact t ⟨k, hk⟩
theorem own_ch255 (x : Int32) : ¬ nar .char ((x &&& (255 : Int32)).toUInt32.toUInt16.toUInt32.toInt32) < 0 ∧ ¬ (255 : Int32) < nar .char ((x &&& (255 : Int32)).toUInt32.toUInt16.toUInt32.toInt32) := by
  rw [own_ch]; exact own_b255 x
theorem own_nar_obj {n : String} {v : Value} (h : v.isRef = true) : narrow (.object n) v = v := by rcases ref_cases h with rfl | ⟨_, rfl⟩ <;> rfl
theorem own_fit_obj {n : String} {v : Value} (h : v.isRef = true) : fits (.object n) v = true := by rcases ref_cases h with rfl | ⟨_, rfl⟩ <;> rfl
theorem own_nar255 (x : Int32) : nar .char (x &&& (255 : Int32)) = x &&& 255 := by
  show (x &&& (255 : Int32)).toUInt32.toUInt16.toUInt32.toInt32 = _
  rw [i2c_mask]
theorem own_narc {c : Int32} (h : ¬ c < 0 ∧ ¬ (255 : Int32) < c) : nar .char c = c := by
  have e : c = c &&& 255 := by
    obtain ⟨k, hk⟩ : ∃ k : Fin 256, c = Int32.ofNat k.val := by
      have h1 := h.1; have h2 := h.2
      rw [Int32.lt_iff_toInt_lt] at h1 h2
      have e0 : (0 : Int32).toInt = 0 := rfl
      have e1 : (255 : Int32).toInt = 255 := rfl
      refine ⟨⟨c.toInt.toNat, by omega⟩, ?_⟩
      apply Int32.toInt_inj.mp
      show c.toInt = (Int32.ofNat c.toInt.toNat).toInt
      rw [Int32.toInt_ofNat_of_lt (by omega)]
      omega
    subst hk
    have t : ∀ k : Fin 256, Int32.ofNat k.val = Int32.ofNat k.val &&& 255 := by decide +kernel
    exact t k
  rw [e]; exact own_nar255 c
theorem own_i2c {c : Int32} (h : ¬ c < 0 ∧ ¬ (255 : Int32) < c) : c.toUInt32.toUInt16.toUInt32.toInt32 = c := own_narc h
theorem own_andk (x : Int32) (m : Nat) (hm : m < 2147483648) : ∃ k : Nat, k ≤ m ∧ x &&& Int32.ofNat m = Int32.ofNat k := by
  have e : (x &&& Int32.ofNat m).toBitVec.toNat = x.toBitVec.toNat &&& m := by
    show (x.toBitVec &&& BitVec.ofNat 32 m).toNat = _
    rw [BitVec.toNat_and, BitVec.toNat_ofNat, Nat.mod_eq_of_lt (by omega)]
  refine ⟨x.toBitVec.toNat &&& m, Nat.and_le_right, ?_⟩
  apply Int32.toBitVec_inj.mp
  apply BitVec.eq_of_toNat_eq
  rw [e]
  show _ = (BitVec.ofNat 32 _).toNat
  rw [BitVec.toNat_ofNat, Nat.mod_eq_of_lt (Nat.lt_of_le_of_lt Nat.and_le_right (by omega))]
theorem own_and3 (x : Int32) : x &&& (3 : Int32) = 0 ∨ x &&& (3 : Int32) = 1 ∨ x &&& (3 : Int32) = 2 ∨ x &&& (3 : Int32) = 3 := by
  obtain ⟨k, hk, e⟩ := own_andk x 3 (by decide)
  have e' : x &&& (3 : Int32) = Int32.ofNat k := e
  rw [e']
  have t : ∀ k : Fin 4, Int32.ofNat k.val = 0 ∨ Int32.ofNat k.val = 1 ∨ Int32.ofNat k.val = 2 ∨ Int32.ofNat k.val = 3 := by decide
  exact t ⟨k, by omega⟩
theorem own_rem3 (x : Int32) : (x &&& (3 : Int32)) - (x &&& (3 : Int32)) / 3 * 3 = 0 ∨ (x &&& (3 : Int32)) - (x &&& (3 : Int32)) / 3 * 3 = 1 ∨ (x &&& (3 : Int32)) - (x &&& (3 : Int32)) / 3 * 3 = 2 := by
  rcases own_and3 x with e | e | e | e <;> rw [e] <;> decide
/-- the chars of mk(n, c0, c1) -/
def own_cs (n c0 c1 : Int32) : List Int32 := if n = 0 then [] else if n = 1 then [c0] else [c0, c1]
theorem own_acmp_ne {v : Value} (h : v.isRef = true) : Jvm.Free.XT.acmp .ne v v = false := by simp [Jvm.Free.XT.acmp]
theorem own_acmp_eq {v : Value} (h : v.isRef = true) : Jvm.Free.XT.acmp .eq v v = true := by simp [Jvm.Free.XT.acmp]
theorem own_narb (x : Int32) : nar .byte (x.toInt8.toInt32) = x.toInt8.toInt32 := by
  show x.toInt8.toInt32.toInt8.toInt32 = _
  rw [Int8.toInt8_toInt32]
/-- the chars of mk(n, c0, c1, c2) -/
def own_cs4 (n c0 c1 c2 : Int32) : List Int32 := if n = 0 then [] else if n = 1 then [c0] else if n = 2 then [c0, c1] else [c0, c1, c2]
theorem own_rem (x m d : Int32) (hm : 0 ≤ m.toInt) (hd : 0 < d.toInt) : 0 ≤ ((x &&& m) - (x &&& m) / d * d).toInt ∧ ((x &&& m) - (x &&& m) / d * d).toInt < d.toInt := by
  rw [irem_eq_mod]
  have h1 := (c_and x m hm).1
  rw [(c_irem (x &&& m) d _ rfl).1 h1]
  exact ⟨Int.emod_nonneg _ (by omega), Int.emod_lt_of_pos _ hd⟩
theorem own_enum3 {r : Int32} (h : 0 ≤ r.toInt ∧ r.toInt < (3 : Int32).toInt) : r = 0 ∨ r = 1 ∨ r = 2 := by
  have e3 : (3 : Int32).toInt = 3 := rfl
  have : r.toInt = 0 ∨ r.toInt = 1 ∨ r.toInt = 2 := by omega
  rcases this with e | e | e
  · exact Or.inl (Int32.toInt_inj.mp e)
  · exact Or.inr (Or.inl (Int32.toInt_inj.mp e))
  · exact Or.inr (Or.inr (Int32.toInt_inj.mp e))
theorem own_enum5 {r : Int32} (h : 0 ≤ r.toInt ∧ r.toInt < (5 : Int32).toInt) : r = 0 ∨ r = 1 ∨ r = 2 ∨ r = 3 ∨ r = 4 := by
  have e3 : (5 : Int32).toInt = 5 := rfl
  have : r.toInt = 0 ∨ r.toInt = 1 ∨ r.toInt = 2 ∨ r.toInt = 3 ∨ r.toInt = 4 := by omega
  rcases this with e | e | e | e | e
  · exact Or.inl (Int32.toInt_inj.mp e)
  · exact Or.inr (Or.inl (Int32.toInt_inj.mp e))
  · exact Or.inr (Or.inr (Or.inl (Int32.toInt_inj.mp e)))
  · exact Or.inr (Or.inr (Or.inr (Or.inl (Int32.toInt_inj.mp e))))
  · exact Or.inr (Or.inr (Or.inr (Or.inr (Int32.toInt_inj.mp e))))
theorem own_enum6 {r : Int32} (h : 0 ≤ r.toInt ∧ r.toInt < (6 : Int32).toInt) : r = 0 ∨ r = 1 ∨ r = 2 ∨ r = 3 ∨ r = 4 ∨ r = 5 := by
  have e3 : (6 : Int32).toInt = 6 := rfl
  have : r.toInt = 0 ∨ r.toInt = 1 ∨ r.toInt = 2 ∨ r.toInt = 3 ∨ r.toInt = 4 ∨ r.toInt = 5 := by omega
  rcases this with e | e | e | e | e | e
  · exact Or.inl (Int32.toInt_inj.mp e)
  · exact Or.inr (Or.inl (Int32.toInt_inj.mp e))
  · exact Or.inr (Or.inr (Or.inl (Int32.toInt_inj.mp e)))
  · exact Or.inr (Or.inr (Or.inr (Or.inl (Int32.toInt_inj.mp e))))
  · exact Or.inr (Or.inr (Or.inr (Or.inr (Or.inl (Int32.toInt_inj.mp e)))))
  · exact Or.inr (Or.inr (Or.inr (Or.inr (Or.inr (Int32.toInt_inj.mp e)))))
theorem own_fldstart {Z : State} {args : Array Value} {t : Term} {a : Addr} {C n d : String} {k : Int32} (ev : t.eval args Z none [] Z = some (.ref a)) (h : (Jvm.Cond.eq (.field t C n d) (.int k)).value args Z none Z [] = some true) : Fld Z Z.heap a C n d (.int k) := by
  have h2 := Cond.eq_int (first := Z) (t := Z) (args := args) (Cond.before_iff.mpr h) rfl
  rw [fld_at ev] at h2
  exact Fld.start h2
theorem own_up {cs : List Int32} (hp : ∀ c ∈ cs, ¬ c < 0 ∧ ¬ (255 : Int32) < c) : ∀ c ∈ cs, ¬ c < 0 ∧ ¬ (65535 : Int32) < c := fun c hc => ⟨(hp c hc).1, fun q => (hp c hc).2 (Int32.lt_trans (by decide) q)⟩
theorem own_n10 : ¬ ((1 : Int32) = 0) := by decide
theorem own_n20 : ¬ ((2 : Int32) = 0) := by decide
theorem own_n21 : ¬ ((2 : Int32) = 1) := by decide
theorem own_n30 : ¬ ((3 : Int32) = 0) := by decide
theorem own_n31 : ¬ ((3 : Int32) = 1) := by decide
theorem own_n32 : ¬ ((3 : Int32) = 2) := by decide
theorem own_bite {P : Prop} [Decidable P] {a b : Int32} (ha : ¬ a < 0 ∧ ¬ (255 : Int32) < a) (hb : ¬ b < 0 ∧ ¬ (255 : Int32) < b) : ¬ (if P then a else b) < 0 ∧ ¬ (255 : Int32) < (if P then a else b) := by
  by_cases h : P
  · rw [if_pos h]; exact ha
  · rw [if_neg h]; exact hb
theorem own_ite4 {P : Prop} [Decidable P] {a b : Int32} (ha : a = 0 ∨ a = 1 ∨ a = 2 ∨ a = 3) (hb : b = 0 ∨ b = 1 ∨ b = 2 ∨ b = 3) : (if P then a else b) = 0 ∨ (if P then a else b) = 1 ∨ (if P then a else b) = 2 ∨ (if P then a else b) = 3 := by
  by_cases h : P
  · rw [if_pos h]; exact ha
  · rw [if_neg h]; exact hb
theorem own_newP {p : Program} {l : Launch} {e : Env} {R : Room} {s : State} {args : Array Value} {below : List Frame} {len W : Nat} {Z : State} {a0 : Array Value} {h : Heap} (hws : ∀ d ∈ StrChars.Road.words, d.before a0 Z = true) {kI : Nat} (wi : (Jvm.Cond.instantiable "java/lang/String" kI).before a0 Z = true) {x b : Addr} {kC : ClassId} {cs : List Int32} {d v0 c0 : Value} {N : Int32} {n : Nat} (hx0 : Z.heap.size ≤ x) (hO : Ext Z.heap h) (E : Exa Z h x "java/lang/String") (V : Fld Z h x "java/lang/String" "value" "[B" v0) (C : Fld Z h x "java/lang/String" "coder" "B" c0) (K : Arv Z h b kC .char N (cs.map Value.int) d) {G1 : Int32} (O2 : Sta Z Z.heap "java/lang/String" "COMPACT_STRINGS" "Z" (.int G1)) (P5 : ¬ G1 = 0)
    (hn : cs.length = n) (hN : N = Int32.ofNat n) (l0 : 0 < n) (l2 : n ≤ 4000) (hp : ∀ c ∈ cs, ¬ c < 0 ∧ ¬ (255 : Int32) < c) (hfr : 4 ≤ R.frames) (hlo : W + 65 ≤ R.locals) :
    Pays l R p e below s args Z (⟨"java/lang/String", "<init>", "([C)V"⟩ : MethodName) len W #[.ref x, .ref b] h 1 n (fun v h' L => v = none ∧ Fr Z.heap.size L ∧ Keep h h' [x] ∧ LStr Z h' x cs) := by
  subst hn hN
  intro vm0 hv
  refine Back.mono (StrChars.Road.backV (s := s.setVm vm0) (W := W) hv hws wi (bs := cs.map fun c => c.toInt8.toInt32) (n0 := Z.heap.size) hx0 hO.1 E V C K (O2.ext hO) P5 rfl rfl l0 l2 hp rfl hfr hlo) (fun _ _ q => q) (fun P a v B _ q => ?_)
  obtain ⟨L, ⟨q1, q2, q3, q4, q5, t, kb, -, -, -, q6, q7⟩, r⟩ := q
  exact ⟨L, ⟨q1, q2, q3, q4, q5, ⟨t, kb, q6, q7⟩, hp, l2⟩, r⟩
theorem own_lenP {p : Program} {l : Launch} {e : Env} {R : Room} {s : State} {args : Array Value} {below : List Frame} {len W : Nat} {Z : State} {a0 : Array Value} {h : Heap} (hws : ∀ d ∈ StrChars.Road.wordsLen, d.before a0 Z = true) {kI : Nat} (wi : (Jvm.Cond.instantiable "java/lang/String" kI).before a0 Z = true) {x : Addr} {cs : List Int32} (S : LStr Z h x cs) {G1 : Int32} (O2 : Sta Z Z.heap "java/lang/String" "COMPACT_STRINGS" "Z" (.int G1)) (P5 : ¬ G1 = 0) (hO : Ext Z.heap h) (hfr : 2 ≤ R.frames) (hlo : W + 25 ≤ R.locals) :
    Pays l R p e below s args Z (⟨"java/lang/String", "length", "()I"⟩ : MethodName) len W #[.ref x] h 0 0 (fun v h' L => v = some (.int (Int32.ofNat cs.length)) ∧ L = [] ∧ h' = h) := by
  obtain ⟨Es, Cs, ⟨t, kb, Vs, Ks⟩, hp, hl⟩ := S
  exact fun vm0 hv => StrChars.Road.lenW (s := s.setVm vm0) (W := W) hv hws wi Es Vs Cs Ks (StrChars.Road.codOf rfl (fun c hc => (hp c hc).2)) (own_up hp) (O2.ext hO) P5 hl hfr hlo
theorem own_chP {p : Program} {l : Launch} {e : Env} {R : Room} {s : State} {args : Array Value} {below : List Frame} {len W : Nat} {Z : State} {a0 : Array Value} {h : Heap} (hws : ∀ d ∈ StrChars.Road.wordsChN, d.before a0 Z = true) {kI : Nat} (wi : (Jvm.Cond.instantiable "java/lang/String" kI).before a0 Z = true) {x : Addr} {cs : List Int32} (S : LStr Z h x cs) {G1 : Int32} (O2 : Sta Z Z.heap "java/lang/String" "COMPACT_STRINGS" "Z" (.int G1)) (P5 : ¬ G1 = 0) (hO : Ext Z.heap h) {G3 : Value} (O4 : Sta Z Z.heap "jdk/internal/util/Preconditions" "SIOOBE_FORMATTER" "Ljava/util/function/BiFunction;" G3) (rG3 : G3.isRef = true) {i : Nat} {j : Int32} (hi : i < cs.length) (hj : j = Int32.ofNat i) (hfr : 4 ≤ R.frames) (hlo : W + 53 ≤ R.locals) :
    Pays l R p e below s args Z (⟨"java/lang/String", "charAt", "(I)C"⟩ : MethodName) len W #[.ref x, .int j] h 0 0 (fun v h' L => v = some (.int (cs.getD i 0)) ∧ L = [] ∧ h' = h) := by
  obtain ⟨Es, Cs, ⟨t, kb, Vs, Ks⟩, hp, hl⟩ := S
  exact fun vm0 hv => StrChars.Road.chN (s := s.setVm vm0) (W := W) hv hws wi Es Vs Cs Ks (StrChars.Road.codOf rfl (fun c hc => (hp c hc).2)) (own_up hp) (O2.ext hO) P5 (O4.ext hO) rG3 hl hi hj hfr hlo
theorem w_0 {Z : State} {a0 : Array Value} (hw : ∀ d ∈ tables_1, d.before a0 Z = true) : (Jvm.Cond.constant "com/example/stubwright/stubwright/ImportSimpleNamePinLaw" (18 : Nat) (2147483647 : Int32)).before a0 Z = true := hw _ (List.mem_of_getElem? (i := 0) rfl)
theorem w_1 {Z : State} {a0 : Array Value} (hw : ∀ d ∈ tables_1, d.before a0 Z = true) : (Jvm.Cond.arrayClass Jvm.ClassFile.FieldType.char).before a0 Z = true := hw _ (List.mem_of_getElem? (i := 1) rfl)
theorem w_2 {Z : State} {a0 : Array Value} (hw : ∀ d ∈ tables_1, d.before a0 Z = true) : (Jvm.Cond.methodLink "com/example/stubwright/stubwright/ImportSimpleNamePinLaw" (19 : Nat) ({ cls := "com/example/stubwright/stubwright/ImportSimpleNamePinLaw", name := "draw", desc := "(I)C" } : Jvm.MethodName)).before a0 Z = true := hw _ (List.mem_of_getElem? (i := 2) rfl)
theorem w_3 {Z : State} {a0 : Array Value} (hw : ∀ d ∈ tables_1, d.before a0 Z = true) : (Jvm.Cond.static ({ cls := "com/example/stubwright/stubwright/ImportSimpleNamePinLaw", name := "draw", desc := "(I)C" } : Jvm.MethodName)).before a0 Z = true := hw _ (List.mem_of_getElem? (i := 3) rfl)
theorem w_4 {Z : State} {a0 : Array Value} (hw : ∀ d ∈ tables_1, d.before a0 Z = true) : (Jvm.Cond.initialized "com/example/stubwright/stubwright/ImportSimpleNamePinLaw").before a0 Z = true := hw _ (List.mem_of_getElem? (i := 4) rfl)
theorem w_5 {Z : State} {a0 : Array Value} (hw : ∀ d ∈ tables_1, d.before a0 Z = true) : (Jvm.Cond.code ({ cls := "com/example/stubwright/stubwright/ImportSimpleNamePinLaw", name := "draw", desc := "(I)C" } : Jvm.MethodName) method_2_code (1 : Nat) (Option.some Jvm.ClassFile.FieldType.char)).before a0 Z = true := hw _ (List.mem_of_getElem? (i := 5) rfl)
theorem w_6 {Z : State} {a0 : Array Value} (hw : ∀ d ∈ tables_1, d.before a0 Z = true) : (Jvm.Cond.methodLink "com/example/stubwright/stubwright/ImportSimpleNamePinLaw" (24 : Nat) ({ cls := "com/example/stubwright/stubwright/ImportSimpleNamePinLaw", name := "make", desc := "(I[C)Ljava/lang/String;" } : Jvm.MethodName)).before a0 Z = true := hw _ (List.mem_of_getElem? (i := 6) rfl)
theorem w_7 {Z : State} {a0 : Array Value} (hw : ∀ d ∈ tables_1, d.before a0 Z = true) : (Jvm.Cond.static ({ cls := "com/example/stubwright/stubwright/ImportSimpleNamePinLaw", name := "make", desc := "(I[C)Ljava/lang/String;" } : Jvm.MethodName)).before a0 Z = true := hw _ (List.mem_of_getElem? (i := 7) rfl)
theorem w_8 {Z : State} {a0 : Array Value} (hw : ∀ d ∈ tables_1, d.before a0 Z = true) : (Jvm.Cond.code ({ cls := "com/example/stubwright/stubwright/ImportSimpleNamePinLaw", name := "make", desc := "(I[C)Ljava/lang/String;" } : Jvm.MethodName) method_3_code (2 : Nat) (Option.some (Jvm.ClassFile.FieldType.object "java/lang/String"))).before a0 Z = true := hw _ (List.mem_of_getElem? (i := 8) rfl)
theorem w_9 {Z : State} {a0 : Array Value} (hw : ∀ d ∈ tables_1, d.before a0 Z = true) : (Jvm.Cond.stringLink "com/example/stubwright/stubwright/ImportSimpleNamePinLaw" (7 : Nat) "").before a0 Z = true := hw _ (List.mem_of_getElem? (i := 9) rfl)
theorem w_10 {Z : State} {a0 : Array Value} (hw : ∀ d ∈ tables_1, d.before a0 Z = true) : (Jvm.Cond.initialized "java/lang/String").before a0 Z = true := hw _ (List.mem_of_getElem? (i := 10) rfl)
theorem w_11 {Z : State} {a0 : Array Value} (hw : ∀ d ∈ tables_1, d.before a0 Z = true) : (Jvm.Cond.instantiable "java/lang/String" (4 : Nat)).before a0 Z = true := hw _ (List.mem_of_getElem? (i := 11) rfl)
theorem w_12 {Z : State} {a0 : Array Value} (hw : ∀ d ∈ tables_1, d.before a0 Z = true) : (Jvm.Cond.arrayClass Jvm.ClassFile.FieldType.byte).before a0 Z = true := hw _ (List.mem_of_getElem? (i := 12) rfl)
theorem w_13 {Z : State} {a0 : Array Value} (hw : ∀ d ∈ tables_1, d.before a0 Z = true) : (Jvm.Cond.laysFinal "java/lang/String" "java/lang/String" "value" "[B").before a0 Z = true := hw _ (List.mem_of_getElem? (i := 13) rfl)
theorem w_14 {Z : State} {a0 : Array Value} (hw : ∀ d ∈ tables_1, d.before a0 Z = true) : (Jvm.Cond.laysFinal "java/lang/String" "java/lang/String" "coder" "B").before a0 Z = true := hw _ (List.mem_of_getElem? (i := 14) rfl)
theorem w_17 {Z : State} {a0 : Array Value} (hw : ∀ d ∈ tables_1, d.before a0 Z = true) : (Jvm.Cond.classLink "com/example/stubwright/stubwright/ImportSimpleNamePinLaw" (28 : Nat) "com/example/stubwright/stubwright/Document$Import").before a0 Z = true := hw _ (List.mem_of_getElem? (i := 17) rfl)
theorem w_18 {Z : State} {a0 : Array Value} (hw : ∀ d ∈ tables_1, d.before a0 Z = true) : (Jvm.Cond.instantiable "com/example/stubwright/stubwright/Document$Import" (2 : Nat)).before a0 Z = true := hw _ (List.mem_of_getElem? (i := 18) rfl)
theorem w_19 {Z : State} {a0 : Array Value} (hw : ∀ d ∈ tables_1, d.before a0 Z = true) : (Jvm.Cond.initialized "com/example/stubwright/stubwright/Document$Import").before a0 Z = true := hw _ (List.mem_of_getElem? (i := 19) rfl)
theorem w_20 {Z : State} {a0 : Array Value} (hw : ∀ d ∈ tables_1, d.before a0 Z = true) : (Jvm.Cond.classLink "com/example/stubwright/stubwright/ImportSimpleNamePinLaw" (30 : Nat) "com/example/stubwright/stubwright/Position").before a0 Z = true := hw _ (List.mem_of_getElem? (i := 20) rfl)
theorem w_21 {Z : State} {a0 : Array Value} (hw : ∀ d ∈ tables_1, d.before a0 Z = true) : (Jvm.Cond.instantiable "com/example/stubwright/stubwright/Position" (2 : Nat)).before a0 Z = true := hw _ (List.mem_of_getElem? (i := 21) rfl)
theorem w_22 {Z : State} {a0 : Array Value} (hw : ∀ d ∈ tables_1, d.before a0 Z = true) : (Jvm.Cond.initialized "com/example/stubwright/stubwright/Position").before a0 Z = true := hw _ (List.mem_of_getElem? (i := 22) rfl)
theorem w_23 {Z : State} {a0 : Array Value} (hw : ∀ d ∈ tables_1, d.before a0 Z = true) : (Jvm.Cond.methodLink "com/example/stubwright/stubwright/ImportSimpleNamePinLaw" (32 : Nat) ({ cls := "com/example/stubwright/stubwright/Position", name := "<init>", desc := "(II)V" } : Jvm.MethodName)).before a0 Z = true := hw _ (List.mem_of_getElem? (i := 23) rfl)
theorem w_24 {Z : State} {a0 : Array Value} (hw : ∀ d ∈ tables_1, d.before a0 Z = true) : (Jvm.Cond.instanceMethod ({ cls := "com/example/stubwright/stubwright/Position", name := "<init>", desc := "(II)V" } : Jvm.MethodName)).before a0 Z = true := hw _ (List.mem_of_getElem? (i := 24) rfl)
theorem w_25 {Z : State} {a0 : Array Value} (hw : ∀ d ∈ tables_1, d.before a0 Z = true) : (Jvm.Cond.code ({ cls := "com/example/stubwright/stubwright/Position", name := "<init>", desc := "(II)V" } : Jvm.MethodName) prog_69_method_1_code (3 : Nat) (Option.none : Option Jvm.ClassFile.FieldType)).before a0 Z = true := hw _ (List.mem_of_getElem? (i := 25) rfl)
theorem w_26 {Z : State} {a0 : Array Value} (hw : ∀ d ∈ tables_1, d.before a0 Z = true) : (Jvm.Cond.methodLink "com/example/stubwright/stubwright/Position" (1 : Nat) ({ cls := "java/lang/Record", name := "<init>", desc := "()V" } : Jvm.MethodName)).before a0 Z = true := hw _ (List.mem_of_getElem? (i := 26) rfl)
theorem w_27 {Z : State} {a0 : Array Value} (hw : ∀ d ∈ tables_1, d.before a0 Z = true) : (Jvm.Cond.instanceMethod ({ cls := "java/lang/Record", name := "<init>", desc := "()V" } : Jvm.MethodName)).before a0 Z = true := hw _ (List.mem_of_getElem? (i := 27) rfl)
theorem w_29 {Z : State} {a0 : Array Value} (hw : ∀ d ∈ tables_1, d.before a0 Z = true) : (Jvm.Cond.initialized "java/lang/Record").before a0 Z = true := hw _ (List.mem_of_getElem? (i := 29) rfl)
theorem w_30 {Z : State} {a0 : Array Value} (hw : ∀ d ∈ tables_1, d.before a0 Z = true) : (Jvm.Cond.code ({ cls := "java/lang/Record", name := "<init>", desc := "()V" } : Jvm.MethodName) jdk_30_method_1_code (1 : Nat) (Option.none : Option Jvm.ClassFile.FieldType)).before a0 Z = true := hw _ (List.mem_of_getElem? (i := 30) rfl)
theorem w_31 {Z : State} {a0 : Array Value} (hw : ∀ d ∈ tables_1, d.before a0 Z = true) : (Jvm.Cond.methodLink "java/lang/Record" (1 : Nat) ({ cls := "java/lang/Object", name := "<init>", desc := "()V" } : Jvm.MethodName)).before a0 Z = true := hw _ (List.mem_of_getElem? (i := 31) rfl)
theorem w_32 {Z : State} {a0 : Array Value} (hw : ∀ d ∈ tables_1, d.before a0 Z = true) : (Jvm.Cond.instanceMethod ({ cls := "java/lang/Object", name := "<init>", desc := "()V" } : Jvm.MethodName)).before a0 Z = true := hw _ (List.mem_of_getElem? (i := 32) rfl)
theorem w_33 {Z : State} {a0 : Array Value} (hw : ∀ d ∈ tables_1, d.before a0 Z = true) : (Jvm.Cond.code ({ cls := "java/lang/Object", name := "<init>", desc := "()V" } : Jvm.MethodName) object_method_1_code (1 : Nat) (Option.none : Option Jvm.ClassFile.FieldType)).before a0 Z = true := hw _ (List.mem_of_getElem? (i := 33) rfl)
theorem w_34 {Z : State} {a0 : Array Value} (hw : ∀ d ∈ tables_1, d.before a0 Z = true) : (Jvm.Cond.fieldLink "com/example/stubwright/stubwright/Position" (7 : Nat) "com/example/stubwright/stubwright/Position" "line" "I").before a0 Z = true := hw _ (List.mem_of_getElem? (i := 34) rfl)
theorem w_35 {Z : State} {a0 : Array Value} (hw : ∀ d ∈ tables_1, d.before a0 Z = true) : (Jvm.Cond.laysFinal "com/example/stubwright/stubwright/Position" "com/example/stubwright/stubwright/Position" "line" "I").before a0 Z = true := hw _ (List.mem_of_getElem? (i := 35) rfl)
theorem w_36 {Z : State} {a0 : Array Value} (hw : ∀ d ∈ tables_1, d.before a0 Z = true) : (Jvm.Cond.fieldLink "com/example/stubwright/stubwright/Position" (13 : Nat) "com/example/stubwright/stubwright/Position" "column" "I").before a0 Z = true := hw _ (List.mem_of_getElem? (i := 36) rfl)
theorem w_37 {Z : State} {a0 : Array Value} (hw : ∀ d ∈ tables_1, d.before a0 Z = true) : (Jvm.Cond.laysFinal "com/example/stubwright/stubwright/Position" "com/example/stubwright/stubwright/Position" "column" "I").before a0 Z = true := hw _ (List.mem_of_getElem? (i := 37) rfl)
theorem w_38 {Z : State} {a0 : Array Value} (hw : ∀ d ∈ tables_1, d.before a0 Z = true) : (Jvm.Cond.methodLink "com/example/stubwright/stubwright/ImportSimpleNamePinLaw" (35 : Nat) ({ cls := "com/example/stubwright/stubwright/Document$Import", name := "<init>", desc := "(Lcom/example/stubwright/stubwright/Position;Ljava/lang/String;)V" } : Jvm.MethodName)).before a0 Z = true := hw _ (List.mem_of_getElem? (i := 38) rfl)
theorem w_39 {Z : State} {a0 : Array Value} (hw : ∀ d ∈ tables_1, d.before a0 Z = true) : (Jvm.Cond.instanceMethod ({ cls := "com/example/stubwright/stubwright/Document$Import", name := "<init>", desc := "(Lcom/example/stubwright/stubwright/Position;Ljava/lang/String;)V" } : Jvm.MethodName)).before a0 Z = true := hw _ (List.mem_of_getElem? (i := 39) rfl)
theorem w_40 {Z : State} {a0 : Array Value} (hw : ∀ d ∈ tables_1, d.before a0 Z = true) : (Jvm.Cond.code ({ cls := "com/example/stubwright/stubwright/Document$Import", name := "<init>", desc := "(Lcom/example/stubwright/stubwright/Position;Ljava/lang/String;)V" } : Jvm.MethodName) prog_36_method_1_code (3 : Nat) (Option.none : Option Jvm.ClassFile.FieldType)).before a0 Z = true := hw _ (List.mem_of_getElem? (i := 40) rfl)
theorem w_41 {Z : State} {a0 : Array Value} (hw : ∀ d ∈ tables_1, d.before a0 Z = true) : (Jvm.Cond.methodLink "com/example/stubwright/stubwright/Document$Import" (1 : Nat) ({ cls := "java/lang/Record", name := "<init>", desc := "()V" } : Jvm.MethodName)).before a0 Z = true := hw _ (List.mem_of_getElem? (i := 41) rfl)
theorem w_42 {Z : State} {a0 : Array Value} (hw : ∀ d ∈ tables_1, d.before a0 Z = true) : (Jvm.Cond.fieldLink "com/example/stubwright/stubwright/Document$Import" (7 : Nat) "com/example/stubwright/stubwright/Document$Import" "position" "Lcom/example/stubwright/stubwright/Position;").before a0 Z = true := hw _ (List.mem_of_getElem? (i := 42) rfl)
theorem w_43 {Z : State} {a0 : Array Value} (hw : ∀ d ∈ tables_1, d.before a0 Z = true) : (Jvm.Cond.laysFinal "com/example/stubwright/stubwright/Document$Import" "com/example/stubwright/stubwright/Document$Import" "position" "Lcom/example/stubwright/stubwright/Position;").before a0 Z = true := hw _ (List.mem_of_getElem? (i := 43) rfl)
theorem w_44 {Z : State} {a0 : Array Value} (hw : ∀ d ∈ tables_1, d.before a0 Z = true) : (Jvm.Cond.fieldLink "com/example/stubwright/stubwright/Document$Import" (13 : Nat) "com/example/stubwright/stubwright/Document$Import" "name" "Ljava/lang/String;").before a0 Z = true := hw _ (List.mem_of_getElem? (i := 44) rfl)
theorem w_45 {Z : State} {a0 : Array Value} (hw : ∀ d ∈ tables_1, d.before a0 Z = true) : (Jvm.Cond.laysFinal "com/example/stubwright/stubwright/Document$Import" "com/example/stubwright/stubwright/Document$Import" "name" "Ljava/lang/String;").before a0 Z = true := hw _ (List.mem_of_getElem? (i := 45) rfl)
theorem w_46 {Z : State} {a0 : Array Value} (hw : ∀ d ∈ tables_1, d.before a0 Z = true) : (Jvm.Cond.methodLink "com/example/stubwright/stubwright/ImportSimpleNamePinLaw" (38 : Nat) ({ cls := "com/example/stubwright/stubwright/Document$Import", name := "simpleName", desc := "()Ljava/lang/String;" } : Jvm.MethodName)).before a0 Z = true := hw _ (List.mem_of_getElem? (i := 46) rfl)
theorem w_47 {Z : State} {a0 : Array Value} (hw : ∀ d ∈ tables_1, d.before a0 Z = true) : (Jvm.Cond.declares ({ cls := "com/example/stubwright/stubwright/Document$Import", name := "simpleName", desc := "()Ljava/lang/String;" } : Jvm.MethodName)).before a0 Z = true := hw _ (List.mem_of_getElem? (i := 47) rfl)
theorem w_48 {Z : State} {a0 : Array Value} (hw : ∀ d ∈ tables_1, d.before a0 Z = true) : (Jvm.Cond.instanceMethod ({ cls := "com/example/stubwright/stubwright/Document$Import", name := "simpleName", desc := "()Ljava/lang/String;" } : Jvm.MethodName)).before a0 Z = true := hw _ (List.mem_of_getElem? (i := 48) rfl)
theorem w_49 {Z : State} {a0 : Array Value} (hw : ∀ d ∈ tables_1, d.before a0 Z = true) : (Jvm.Cond.selects "com/example/stubwright/stubwright/Document$Import" ({ cls := "com/example/stubwright/stubwright/Document$Import", name := "simpleName", desc := "()Ljava/lang/String;" } : Jvm.MethodName) ({ cls := "com/example/stubwright/stubwright/Document$Import", name := "simpleName", desc := "()Ljava/lang/String;" } : Jvm.MethodName)).before a0 Z = true := hw _ (List.mem_of_getElem? (i := 49) rfl)
theorem w_50 {Z : State} {a0 : Array Value} (hw : ∀ d ∈ tables_1, d.before a0 Z = true) : (Jvm.Cond.code ({ cls := "com/example/stubwright/stubwright/Document$Import", name := "simpleName", desc := "()Ljava/lang/String;" } : Jvm.MethodName) prog_36_method_2_code (1 : Nat) (Option.some (Jvm.ClassFile.FieldType.object "java/lang/String"))).before a0 Z = true := hw _ (List.mem_of_getElem? (i := 50) rfl)
theorem w_51 {Z : State} {a0 : Array Value} (hw : ∀ d ∈ tables_1, d.before a0 Z = true) : (Jvm.Cond.methodLink "com/example/stubwright/stubwright/Document$Import" (17 : Nat) ({ cls := "java/lang/String", name := "lastIndexOf", desc := "(I)I" } : Jvm.MethodName)).before a0 Z = true := hw _ (List.mem_of_getElem? (i := 51) rfl)
theorem w_52 {Z : State} {a0 : Array Value} (hw : ∀ d ∈ tables_1, d.before a0 Z = true) : (Jvm.Cond.declares ({ cls := "java/lang/String", name := "lastIndexOf", desc := "(I)I" } : Jvm.MethodName)).before a0 Z = true := hw _ (List.mem_of_getElem? (i := 52) rfl)
theorem w_53 {Z : State} {a0 : Array Value} (hw : ∀ d ∈ tables_1, d.before a0 Z = true) : (Jvm.Cond.instanceMethod ({ cls := "java/lang/String", name := "lastIndexOf", desc := "(I)I" } : Jvm.MethodName)).before a0 Z = true := hw _ (List.mem_of_getElem? (i := 53) rfl)
theorem w_54 {Z : State} {a0 : Array Value} (hw : ∀ d ∈ tables_1, d.before a0 Z = true) : (Jvm.Cond.selects "java/lang/String" ({ cls := "java/lang/String", name := "lastIndexOf", desc := "(I)I" } : Jvm.MethodName) ({ cls := "java/lang/String", name := "lastIndexOf", desc := "(I)I" } : Jvm.MethodName)).before a0 Z = true := hw _ (List.mem_of_getElem? (i := 54) rfl)
theorem w_55 {Z : State} {a0 : Array Value} (hw : ∀ d ∈ tables_1, d.before a0 Z = true) : (Jvm.Cond.code ({ cls := "java/lang/String", name := "lastIndexOf", desc := "(I)I" } : Jvm.MethodName) jdk_42_method_82_code (2 : Nat) (Option.some Jvm.ClassFile.FieldType.int)).before a0 Z = true := hw _ (List.mem_of_getElem? (i := 55) rfl)
theorem w_56 {Z : State} {a0 : Array Value} (hw : ∀ d ∈ tables_1, d.before a0 Z = true) : (Jvm.Cond.methodLink "java/lang/String" (505 : Nat) ({ cls := "java/lang/String", name := "length", desc := "()I" } : Jvm.MethodName)).before a0 Z = true := hw _ (List.mem_of_getElem? (i := 56) rfl)
theorem w_57 {Z : State} {a0 : Array Value} (hw : ∀ d ∈ tables_1, d.before a0 Z = true) : (Jvm.Cond.declares ({ cls := "java/lang/String", name := "length", desc := "()I" } : Jvm.MethodName)).before a0 Z = true := hw _ (List.mem_of_getElem? (i := 57) rfl)
theorem w_58 {Z : State} {a0 : Array Value} (hw : ∀ d ∈ tables_1, d.before a0 Z = true) : (Jvm.Cond.instanceMethod ({ cls := "java/lang/String", name := "length", desc := "()I" } : Jvm.MethodName)).before a0 Z = true := hw _ (List.mem_of_getElem? (i := 58) rfl)
theorem w_59 {Z : State} {a0 : Array Value} (hw : ∀ d ∈ tables_1, d.before a0 Z = true) : (Jvm.Cond.selects "java/lang/String" ({ cls := "java/lang/String", name := "length", desc := "()I" } : Jvm.MethodName) ({ cls := "java/lang/String", name := "length", desc := "()I" } : Jvm.MethodName)).before a0 Z = true := hw _ (List.mem_of_getElem? (i := 59) rfl)
theorem w_61 {Z : State} {a0 : Array Value} (hw : ∀ d ∈ tables_1, d.before a0 Z = true) : (Jvm.Cond.fieldLink "java/lang/String" (9 : Nat) "java/lang/String" "value" "[B").before a0 Z = true := hw _ (List.mem_of_getElem? (i := 61) rfl)
theorem w_67 {Z : State} {a0 : Array Value} (hw : ∀ d ∈ tables_1, d.before a0 Z = true) : (Jvm.Cond.fieldLink "java/lang/String" (38 : Nat) "java/lang/String" "COMPACT_STRINGS" "Z").before a0 Z = true := hw _ (List.mem_of_getElem? (i := 67) rfl)
theorem w_68 {Z : State} {a0 : Array Value} (hw : ∀ d ∈ tables_1, d.before a0 Z = true) : (Jvm.Cond.fieldLink "java/lang/String" (15 : Nat) "java/lang/String" "coder" "B").before a0 Z = true := hw _ (List.mem_of_getElem? (i := 68) rfl)
theorem w_69 {Z : State} {a0 : Array Value} (hw : ∀ d ∈ tables_1, d.before a0 Z = true) : (Jvm.Cond.methodLink "java/lang/String" (641 : Nat) ({ cls := "java/lang/String", name := "lastIndexOf", desc := "(II)I" } : Jvm.MethodName)).before a0 Z = true := hw _ (List.mem_of_getElem? (i := 69) rfl)
theorem w_70 {Z : State} {a0 : Array Value} (hw : ∀ d ∈ tables_1, d.before a0 Z = true) : (Jvm.Cond.declares ({ cls := "java/lang/String", name := "lastIndexOf", desc := "(II)I" } : Jvm.MethodName)).before a0 Z = true := hw _ (List.mem_of_getElem? (i := 70) rfl)
theorem w_71 {Z : State} {a0 : Array Value} (hw : ∀ d ∈ tables_1, d.before a0 Z = true) : (Jvm.Cond.instanceMethod ({ cls := "java/lang/String", name := "lastIndexOf", desc := "(II)I" } : Jvm.MethodName)).before a0 Z = true := hw _ (List.mem_of_getElem? (i := 71) rfl)
theorem w_72 {Z : State} {a0 : Array Value} (hw : ∀ d ∈ tables_1, d.before a0 Z = true) : (Jvm.Cond.selects "java/lang/String" ({ cls := "java/lang/String", name := "lastIndexOf", desc := "(II)I" } : Jvm.MethodName) ({ cls := "java/lang/String", name := "lastIndexOf", desc := "(II)I" } : Jvm.MethodName)).before a0 Z = true := hw _ (List.mem_of_getElem? (i := 72) rfl)
theorem w_73 {Z : State} {a0 : Array Value} (hw : ∀ d ∈ tables_1, d.before a0 Z = true) : (Jvm.Cond.code ({ cls := "java/lang/String", name := "lastIndexOf", desc := "(II)I" } : Jvm.MethodName) jdk_42_method_83_code (3 : Nat) (Option.some Jvm.ClassFile.FieldType.int)).before a0 Z = true := hw _ (List.mem_of_getElem? (i := 73) rfl)
theorem w_74 {Z : State} {a0 : Array Value} (hw : ∀ d ∈ tables_1, d.before a0 Z = true) : (Jvm.Cond.methodLink "java/lang/String" (492 : Nat) ({ cls := "java/lang/String", name := "isLatin1", desc := "()Z" } : Jvm.MethodName)).before a0 Z = true := hw _ (List.mem_of_getElem? (i := 74) rfl)
theorem w_75 {Z : State} {a0 : Array Value} (hw : ∀ d ∈ tables_1, d.before a0 Z = true) : (Jvm.Cond.declares ({ cls := "java/lang/String", name := "isLatin1", desc := "()Z" } : Jvm.MethodName)).before a0 Z = true := hw _ (List.mem_of_getElem? (i := 75) rfl)
theorem w_76 {Z : State} {a0 : Array Value} (hw : ∀ d ∈ tables_1, d.before a0 Z = true) : (Jvm.Cond.instanceMethod ({ cls := "java/lang/String", name := "isLatin1", desc := "()Z" } : Jvm.MethodName)).before a0 Z = true := hw _ (List.mem_of_getElem? (i := 76) rfl)
theorem w_77 {Z : State} {a0 : Array Value} (hw : ∀ d ∈ tables_1, d.before a0 Z = true) : (Jvm.Cond.selects "java/lang/String" ({ cls := "java/lang/String", name := "isLatin1", desc := "()Z" } : Jvm.MethodName) ({ cls := "java/lang/String", name := "isLatin1", desc := "()Z" } : Jvm.MethodName)).before a0 Z = true := hw _ (List.mem_of_getElem? (i := 77) rfl)
theorem w_78 {Z : State} {a0 : Array Value} (hw : ∀ d ∈ tables_1, d.before a0 Z = true) : (Jvm.Cond.code ({ cls := "java/lang/String", name := "isLatin1", desc := "()Z" } : Jvm.MethodName) jdk_42_method_154_code (1 : Nat) (Option.some Jvm.ClassFile.FieldType.boolean)).before a0 Z = true := hw _ (List.mem_of_getElem? (i := 78) rfl)
theorem w_79 {Z : State} {a0 : Array Value} (hw : ∀ d ∈ tables_1, d.before a0 Z = true) : (Jvm.Cond.methodLink "java/lang/String" (644 : Nat) ({ cls := "java/lang/StringLatin1", name := "lastIndexOf", desc := "([BII)I" } : Jvm.MethodName)).before a0 Z = true := hw _ (List.mem_of_getElem? (i := 79) rfl)
theorem w_80 {Z : State} {a0 : Array Value} (hw : ∀ d ∈ tables_1, d.before a0 Z = true) : (Jvm.Cond.static ({ cls := "java/lang/StringLatin1", name := "lastIndexOf", desc := "([BII)I" } : Jvm.MethodName)).before a0 Z = true := hw _ (List.mem_of_getElem? (i := 80) rfl)
theorem w_81 {Z : State} {a0 : Array Value} (hw : ∀ d ∈ tables_1, d.before a0 Z = true) : (Jvm.Cond.initialized "java/lang/StringLatin1").before a0 Z = true := hw _ (List.mem_of_getElem? (i := 81) rfl)
theorem w_82 {Z : State} {a0 : Array Value} (hw : ∀ d ∈ tables_1, d.before a0 Z = true) : (Jvm.Cond.code ({ cls := "java/lang/StringLatin1", name := "lastIndexOf", desc := "([BII)I" } : Jvm.MethodName) jdk_43_method_27_code (4 : Nat) (Option.some Jvm.ClassFile.FieldType.int)).before a0 Z = true := hw _ (List.mem_of_getElem? (i := 82) rfl)
theorem w_83 {Z : State} {a0 : Array Value} (hw : ∀ d ∈ tables_1, d.before a0 Z = true) : (Jvm.Cond.methodLink "java/lang/StringLatin1" (88 : Nat) ({ cls := "java/lang/StringLatin1", name := "canEncode", desc := "(I)Z" } : Jvm.MethodName)).before a0 Z = true := hw _ (List.mem_of_getElem? (i := 83) rfl)
theorem w_84 {Z : State} {a0 : Array Value} (hw : ∀ d ∈ tables_1, d.before a0 Z = true) : (Jvm.Cond.static ({ cls := "java/lang/StringLatin1", name := "canEncode", desc := "(I)Z" } : Jvm.MethodName)).before a0 Z = true := hw _ (List.mem_of_getElem? (i := 84) rfl)
theorem w_85 {Z : State} {a0 : Array Value} (hw : ∀ d ∈ tables_1, d.before a0 Z = true) : (Jvm.Cond.code ({ cls := "java/lang/StringLatin1", name := "canEncode", desc := "(I)Z" } : Jvm.MethodName) jdk_43_method_4_code (1 : Nat) (Option.some Jvm.ClassFile.FieldType.boolean)).before a0 Z = true := hw _ (List.mem_of_getElem? (i := 85) rfl)
theorem w_86 {Z : State} {a0 : Array Value} (hw : ∀ d ∈ tables_1, d.before a0 Z = true) : (Jvm.Cond.methodLink "java/lang/StringLatin1" (38 : Nat) ({ cls := "java/lang/Math", name := "min", desc := "(II)I" } : Jvm.MethodName)).before a0 Z = true := hw _ (List.mem_of_getElem? (i := 86) rfl)
theorem w_87 {Z : State} {a0 : Array Value} (hw : ∀ d ∈ tables_1, d.before a0 Z = true) : (Jvm.Cond.static ({ cls := "java/lang/Math", name := "min", desc := "(II)I" } : Jvm.MethodName)).before a0 Z = true := hw _ (List.mem_of_getElem? (i := 87) rfl)
theorem w_88 {Z : State} {a0 : Array Value} (hw : ∀ d ∈ tables_1, d.before a0 Z = true) : (Jvm.Cond.initialized "java/lang/Math").before a0 Z = true := hw _ (List.mem_of_getElem? (i := 88) rfl)
theorem w_89 {Z : State} {a0 : Array Value} (hw : ∀ d ∈ tables_1, d.before a0 Z = true) : (Jvm.Cond.code ({ cls := "java/lang/Math", name := "min", desc := "(II)I" } : Jvm.MethodName) jdk_29_method_69_code (2 : Nat) (Option.some Jvm.ClassFile.FieldType.int)).before a0 Z = true := hw _ (List.mem_of_getElem? (i := 89) rfl)
theorem w_90 {Z : State} {a0 : Array Value} (hw : ∀ d ∈ tables_1, d.before a0 Z = true) : (Jvm.Cond.methodLink "com/example/stubwright/stubwright/Document$Import" (23 : Nat) ({ cls := "java/lang/String", name := "substring", desc := "(I)Ljava/lang/String;" } : Jvm.MethodName)).before a0 Z = true := hw _ (List.mem_of_getElem? (i := 90) rfl)
theorem w_91 {Z : State} {a0 : Array Value} (hw : ∀ d ∈ tables_1, d.before a0 Z = true) : (Jvm.Cond.declares ({ cls := "java/lang/String", name := "substring", desc := "(I)Ljava/lang/String;" } : Jvm.MethodName)).before a0 Z = true := hw _ (List.mem_of_getElem? (i := 91) rfl)
theorem w_92 {Z : State} {a0 : Array Value} (hw : ∀ d ∈ tables_1, d.before a0 Z = true) : (Jvm.Cond.instanceMethod ({ cls := "java/lang/String", name := "substring", desc := "(I)Ljava/lang/String;" } : Jvm.MethodName)).before a0 Z = true := hw _ (List.mem_of_getElem? (i := 92) rfl)
theorem w_93 {Z : State} {a0 : Array Value} (hw : ∀ d ∈ tables_1, d.before a0 Z = true) : (Jvm.Cond.selects "java/lang/String" ({ cls := "java/lang/String", name := "substring", desc := "(I)Ljava/lang/String;" } : Jvm.MethodName) ({ cls := "java/lang/String", name := "substring", desc := "(I)Ljava/lang/String;" } : Jvm.MethodName)).before a0 Z = true := hw _ (List.mem_of_getElem? (i := 93) rfl)
theorem w_94 {Z : State} {a0 : Array Value} (hw : ∀ d ∈ tables_1, d.before a0 Z = true) : (Jvm.Cond.code ({ cls := "java/lang/String", name := "substring", desc := "(I)Ljava/lang/String;" } : Jvm.MethodName) jdk_42_method_91_code (2 : Nat) (Option.some (Jvm.ClassFile.FieldType.object "java/lang/String"))).before a0 Z = true := hw _ (List.mem_of_getElem? (i := 94) rfl)
theorem w_95 {Z : State} {a0 : Array Value} (hw : ∀ d ∈ tables_1, d.before a0 Z = true) : (Jvm.Cond.methodLink "java/lang/String" (681 : Nat) ({ cls := "java/lang/String", name := "substring", desc := "(II)Ljava/lang/String;" } : Jvm.MethodName)).before a0 Z = true := hw _ (List.mem_of_getElem? (i := 95) rfl)
theorem w_96 {Z : State} {a0 : Array Value} (hw : ∀ d ∈ tables_1, d.before a0 Z = true) : (Jvm.Cond.declares ({ cls := "java/lang/String", name := "substring", desc := "(II)Ljava/lang/String;" } : Jvm.MethodName)).before a0 Z = true := hw _ (List.mem_of_getElem? (i := 96) rfl)
theorem w_97 {Z : State} {a0 : Array Value} (hw : ∀ d ∈ tables_1, d.before a0 Z = true) : (Jvm.Cond.instanceMethod ({ cls := "java/lang/String", name := "substring", desc := "(II)Ljava/lang/String;" } : Jvm.MethodName)).before a0 Z = true := hw _ (List.mem_of_getElem? (i := 97) rfl)
theorem w_98 {Z : State} {a0 : Array Value} (hw : ∀ d ∈ tables_1, d.before a0 Z = true) : (Jvm.Cond.selects "java/lang/String" ({ cls := "java/lang/String", name := "substring", desc := "(II)Ljava/lang/String;" } : Jvm.MethodName) ({ cls := "java/lang/String", name := "substring", desc := "(II)Ljava/lang/String;" } : Jvm.MethodName)).before a0 Z = true := hw _ (List.mem_of_getElem? (i := 98) rfl)
theorem w_99 {Z : State} {a0 : Array Value} (hw : ∀ d ∈ tables_1, d.before a0 Z = true) : (Jvm.Cond.code ({ cls := "java/lang/String", name := "substring", desc := "(II)Ljava/lang/String;" } : Jvm.MethodName) jdk_42_method_92_code (5 : Nat) (Option.some (Jvm.ClassFile.FieldType.object "java/lang/String"))).before a0 Z = true := hw _ (List.mem_of_getElem? (i := 99) rfl)
theorem w_100 {Z : State} {a0 : Array Value} (hw : ∀ d ∈ tables_1, d.before a0 Z = true) : (Jvm.Cond.methodLink "java/lang/String" (521 : Nat) ({ cls := "java/lang/String", name := "checkBoundsBeginEnd", desc := "(III)V" } : Jvm.MethodName)).before a0 Z = true := hw _ (List.mem_of_getElem? (i := 100) rfl)
theorem w_101 {Z : State} {a0 : Array Value} (hw : ∀ d ∈ tables_1, d.before a0 Z = true) : (Jvm.Cond.static ({ cls := "java/lang/String", name := "checkBoundsBeginEnd", desc := "(III)V" } : Jvm.MethodName)).before a0 Z = true := hw _ (List.mem_of_getElem? (i := 101) rfl)
theorem w_102 {Z : State} {a0 : Array Value} (hw : ∀ d ∈ tables_1, d.before a0 Z = true) : (Jvm.Cond.code ({ cls := "java/lang/String", name := "checkBoundsBeginEnd", desc := "(III)V" } : Jvm.MethodName) jdk_42_method_158_code (3 : Nat) (Option.none : Option Jvm.ClassFile.FieldType)).before a0 Z = true := hw _ (List.mem_of_getElem? (i := 102) rfl)
theorem w_103 {Z : State} {a0 : Array Value} (hw : ∀ d ∈ tables_1, d.before a0 Z = true) : (Jvm.Cond.fieldLink "java/lang/String" (1053 : Nat) "jdk/internal/util/Preconditions" "SIOOBE_FORMATTER" "Ljava/util/function/BiFunction;").before a0 Z = true := hw _ (List.mem_of_getElem? (i := 103) rfl)
theorem w_104 {Z : State} {a0 : Array Value} (hw : ∀ d ∈ tables_1, d.before a0 Z = true) : (Jvm.Cond.initialized "jdk/internal/util/Preconditions").before a0 Z = true := hw _ (List.mem_of_getElem? (i := 104) rfl)
theorem w_105 {Z : State} {a0 : Array Value} (hw : ∀ d ∈ tables_1, d.before a0 Z = true) : (Jvm.Cond.methodLink "java/lang/String" (1062 : Nat) ({ cls := "jdk/internal/util/Preconditions", name := "checkFromToIndex", desc := "(IIILjava/util/function/BiFunction;)I" } : Jvm.MethodName)).before a0 Z = true := hw _ (List.mem_of_getElem? (i := 105) rfl)
theorem w_106 {Z : State} {a0 : Array Value} (hw : ∀ d ∈ tables_1, d.before a0 Z = true) : (Jvm.Cond.static ({ cls := "jdk/internal/util/Preconditions", name := "checkFromToIndex", desc := "(IIILjava/util/function/BiFunction;)I" } : Jvm.MethodName)).before a0 Z = true := hw _ (List.mem_of_getElem? (i := 106) rfl)
theorem w_107 {Z : State} {a0 : Array Value} (hw : ∀ d ∈ tables_1, d.before a0 Z = true) : (Jvm.Cond.code ({ cls := "jdk/internal/util/Preconditions", name := "checkFromToIndex", desc := "(IIILjava/util/function/BiFunction;)I" } : Jvm.MethodName) jdk_41_method_12_code (4 : Nat) (Option.some Jvm.ClassFile.FieldType.int)).before a0 Z = true := hw _ (List.mem_of_getElem? (i := 107) rfl)
theorem w_108 {Z : State} {a0 : Array Value} (hw : ∀ d ∈ tables_1, d.before a0 Z = true) : (Jvm.Cond.methodLink "com/example/stubwright/stubwright/ImportSimpleNamePinLaw" (42 : Nat) ({ cls := "java/lang/String", name := "length", desc := "()I" } : Jvm.MethodName)).before a0 Z = true := hw _ (List.mem_of_getElem? (i := 108) rfl)
theorem w_109 {Z : State} {a0 : Array Value} (hw : ∀ d ∈ tables_1, d.before a0 Z = true) : (Jvm.Cond.methodLink "com/example/stubwright/stubwright/ImportSimpleNamePinLaw" (46 : Nat) ({ cls := "com/example/stubwright/stubwright/ImportSimpleNamePinLaw", name := "at", desc := "(Ljava/lang/String;II[CI)Z" } : Jvm.MethodName)).before a0 Z = true := hw _ (List.mem_of_getElem? (i := 109) rfl)
theorem w_110 {Z : State} {a0 : Array Value} (hw : ∀ d ∈ tables_1, d.before a0 Z = true) : (Jvm.Cond.static ({ cls := "com/example/stubwright/stubwright/ImportSimpleNamePinLaw", name := "at", desc := "(Ljava/lang/String;II[CI)Z" } : Jvm.MethodName)).before a0 Z = true := hw _ (List.mem_of_getElem? (i := 110) rfl)
theorem w_111 {Z : State} {a0 : Array Value} (hw : ∀ d ∈ tables_1, d.before a0 Z = true) : (Jvm.Cond.code ({ cls := "com/example/stubwright/stubwright/ImportSimpleNamePinLaw", name := "at", desc := "(Ljava/lang/String;II[CI)Z" } : Jvm.MethodName) method_4_code (5 : Nat) (Option.some Jvm.ClassFile.FieldType.boolean)).before a0 Z = true := hw _ (List.mem_of_getElem? (i := 111) rfl)
theorem w_112 {Z : State} {a0 : Array Value} (hw : ∀ d ∈ tables_1, d.before a0 Z = true) : (Jvm.Cond.classLink "com/example/stubwright/stubwright/ImportSimpleNamePinLaw" (9 : Nat) "java/lang/String").before a0 Z = true := hw _ (List.mem_of_getElem? (i := 112) rfl)
theorem w_113 {Z : State} {a0 : Array Value} (hw : ∀ d ∈ tables_1, d.before a0 Z = true) : (Jvm.Cond.methodLink "com/example/stubwright/stubwright/ImportSimpleNamePinLaw" (11 : Nat) ({ cls := "java/lang/String", name := "<init>", desc := "([C)V" } : Jvm.MethodName)).before a0 Z = true := hw _ (List.mem_of_getElem? (i := 113) rfl)
theorem w_114 {Z : State} {a0 : Array Value} (hw : ∀ d ∈ tables_1, d.before a0 Z = true) : (Jvm.Cond.instanceMethod ({ cls := "java/lang/String", name := "<init>", desc := "([C)V" } : Jvm.MethodName)).before a0 Z = true := hw _ (List.mem_of_getElem? (i := 114) rfl)
theorem w_115 {Z : State} {a0 : Array Value} (hw : ∀ d ∈ tables_1, d.before a0 Z = true) : (Jvm.Cond.code ({ cls := "java/lang/String", name := "<init>", desc := "([C)V" } : Jvm.MethodName) jdk_42_method_3_code (2 : Nat) (Option.none : Option Jvm.ClassFile.FieldType)).before a0 Z = true := hw _ (List.mem_of_getElem? (i := 115) rfl)
theorem w_120 {Z : State} {a0 : Array Value} (hw : ∀ d ∈ tables_1, d.before a0 Z = true) : (Jvm.Cond.methodLink "java/lang/String" (1 : Nat) ({ cls := "java/lang/Object", name := "<init>", desc := "()V" } : Jvm.MethodName)).before a0 Z = true := hw _ (List.mem_of_getElem? (i := 120) rfl)
theorem w_131 {Z : State} {a0 : Array Value} (hw : ∀ d ∈ tables_1, d.before a0 Z = true) : (Jvm.Cond.methodLink "java/lang/String" (685 : Nat) ({ cls := "java/lang/StringLatin1", name := "newString", desc := "([BII)Ljava/lang/String;" } : Jvm.MethodName)).before a0 Z = true := hw _ (List.mem_of_getElem? (i := 131) rfl)
theorem w_132 {Z : State} {a0 : Array Value} (hw : ∀ d ∈ tables_1, d.before a0 Z = true) : (Jvm.Cond.static ({ cls := "java/lang/StringLatin1", name := "newString", desc := "([BII)Ljava/lang/String;" } : Jvm.MethodName)).before a0 Z = true := hw _ (List.mem_of_getElem? (i := 132) rfl)
theorem w_133 {Z : State} {a0 : Array Value} (hw : ∀ d ∈ tables_1, d.before a0 Z = true) : (Jvm.Cond.code ({ cls := "java/lang/StringLatin1", name := "newString", desc := "([BII)Ljava/lang/String;" } : Jvm.MethodName) jdk_43_method_47_code (3 : Nat) (Option.some (Jvm.ClassFile.FieldType.object "java/lang/String"))).before a0 Z = true := hw _ (List.mem_of_getElem? (i := 133) rfl)
theorem w_134 {Z : State} {a0 : Array Value} (hw : ∀ d ∈ tables_1, d.before a0 Z = true) : (Jvm.Cond.stringLink "java/lang/StringLatin1" (151 : Nat) "").before a0 Z = true := hw _ (List.mem_of_getElem? (i := 134) rfl)
theorem w_135 {Z : State} {a0 : Array Value} (hw : ∀ d ∈ tables_1, d.before a0 Z = true) : (Jvm.Cond.methodLink "com/example/stubwright/stubwright/ImportSimpleNamePinLaw" (14 : Nat) ({ cls := "java/lang/String", name := "charAt", desc := "(I)C" } : Jvm.MethodName)).before a0 Z = true := hw _ (List.mem_of_getElem? (i := 135) rfl)
theorem w_136 {Z : State} {a0 : Array Value} (hw : ∀ d ∈ tables_1, d.before a0 Z = true) : (Jvm.Cond.declares ({ cls := "java/lang/String", name := "charAt", desc := "(I)C" } : Jvm.MethodName)).before a0 Z = true := hw _ (List.mem_of_getElem? (i := 136) rfl)
theorem w_137 {Z : State} {a0 : Array Value} (hw : ∀ d ∈ tables_1, d.before a0 Z = true) : (Jvm.Cond.instanceMethod ({ cls := "java/lang/String", name := "charAt", desc := "(I)C" } : Jvm.MethodName)).before a0 Z = true := hw _ (List.mem_of_getElem? (i := 137) rfl)
theorem w_138 {Z : State} {a0 : Array Value} (hw : ∀ d ∈ tables_1, d.before a0 Z = true) : (Jvm.Cond.selects "java/lang/String" ({ cls := "java/lang/String", name := "charAt", desc := "(I)C" } : Jvm.MethodName) ({ cls := "java/lang/String", name := "charAt", desc := "(I)C" } : Jvm.MethodName)).before a0 Z = true := hw _ (List.mem_of_getElem? (i := 138) rfl)
theorem w_149 {Z : State} {a0 : Array Value} (hw : ∀ d ∈ tables_1, d.before a0 Z = true) : (Jvm.Cond.classLink "java/lang/StringLatin1" (1 : Nat) "java/lang/String").before a0 Z = true := hw _ (List.mem_of_getElem? (i := 149) rfl)
theorem w_150 {Z : State} {a0 : Array Value} (hw : ∀ d ∈ tables_1, d.before a0 Z = true) : (Jvm.Cond.methodLink "java/lang/StringLatin1" (232 : Nat) ({ cls := "java/util/Arrays", name := "copyOfRange", desc := "([BII)[B" } : Jvm.MethodName)).before a0 Z = true := hw _ (List.mem_of_getElem? (i := 150) rfl)
theorem w_151 {Z : State} {a0 : Array Value} (hw : ∀ d ∈ tables_1, d.before a0 Z = true) : (Jvm.Cond.static ({ cls := "java/util/Arrays", name := "copyOfRange", desc := "([BII)[B" } : Jvm.MethodName)).before a0 Z = true := hw _ (List.mem_of_getElem? (i := 151) rfl)
theorem w_152 {Z : State} {a0 : Array Value} (hw : ∀ d ∈ tables_1, d.before a0 Z = true) : (Jvm.Cond.initialized "java/util/Arrays").before a0 Z = true := hw _ (List.mem_of_getElem? (i := 152) rfl)
theorem w_153 {Z : State} {a0 : Array Value} (hw : ∀ d ∈ tables_1, d.before a0 Z = true) : (Jvm.Cond.code ({ cls := "java/util/Arrays", name := "copyOfRange", desc := "([BII)[B" } : Jvm.MethodName) jdk_65_method_132_code (3 : Nat) (Option.some (Jvm.ClassFile.FieldType.array Jvm.ClassFile.FieldType.byte))).before a0 Z = true := hw _ (List.mem_of_getElem? (i := 153) rfl)
theorem w_154 {Z : State} {a0 : Array Value} (hw : ∀ d ∈ tables_1, d.before a0 Z = true) : (Jvm.Cond.methodLink "java/util/Arrays" (339 : Nat) ({ cls := "java/util/Arrays", name := "copyOfRangeByte", desc := "([BII)[B" } : Jvm.MethodName)).before a0 Z = true := hw _ (List.mem_of_getElem? (i := 154) rfl)
theorem w_155 {Z : State} {a0 : Array Value} (hw : ∀ d ∈ tables_1, d.before a0 Z = true) : (Jvm.Cond.static ({ cls := "java/util/Arrays", name := "copyOfRangeByte", desc := "([BII)[B" } : Jvm.MethodName)).before a0 Z = true := hw _ (List.mem_of_getElem? (i := 155) rfl)
theorem w_156 {Z : State} {a0 : Array Value} (hw : ∀ d ∈ tables_1, d.before a0 Z = true) : (Jvm.Cond.code ({ cls := "java/util/Arrays", name := "copyOfRangeByte", desc := "([BII)[B" } : Jvm.MethodName) jdk_65_method_133_code (5 : Nat) (Option.some (Jvm.ClassFile.FieldType.array Jvm.ClassFile.FieldType.byte))).before a0 Z = true := hw _ (List.mem_of_getElem? (i := 156) rfl)
theorem w_157 {Z : State} {a0 : Array Value} (hw : ∀ d ∈ tables_1, d.before a0 Z = true) : (Jvm.Cond.methodLink "java/util/Arrays" (343 : Nat) ({ cls := "java/util/Arrays", name := "checkLength", desc := "(II)V" } : Jvm.MethodName)).before a0 Z = true := hw _ (List.mem_of_getElem? (i := 157) rfl)
theorem w_158 {Z : State} {a0 : Array Value} (hw : ∀ d ∈ tables_1, d.before a0 Z = true) : (Jvm.Cond.static ({ cls := "java/util/Arrays", name := "checkLength", desc := "(II)V" } : Jvm.MethodName)).before a0 Z = true := hw _ (List.mem_of_getElem? (i := 158) rfl)
theorem w_159 {Z : State} {a0 : Array Value} (hw : ∀ d ∈ tables_1, d.before a0 Z = true) : (Jvm.Cond.code ({ cls := "java/util/Arrays", name := "checkLength", desc := "(II)V" } : Jvm.MethodName) jdk_65_method_131_code (2 : Nat) (Option.none : Option Jvm.ClassFile.FieldType)).before a0 Z = true := hw _ (List.mem_of_getElem? (i := 159) rfl)
theorem w_160 {Z : State} {a0 : Array Value} (hw : ∀ d ∈ tables_1, d.before a0 Z = true) : (Jvm.Cond.methodLink "java/util/Arrays" (304 : Nat) ({ cls := "java/lang/Math", name := "min", desc := "(II)I" } : Jvm.MethodName)).before a0 Z = true := hw _ (List.mem_of_getElem? (i := 160) rfl)
theorem w_161 {Z : State} {a0 : Array Value} (hw : ∀ d ∈ tables_1, d.before a0 Z = true) : (Jvm.Cond.methodLink "java/util/Arrays" (150 : Nat) ({ cls := "java/lang/System", name := "arraycopy", desc := "(Ljava/lang/Object;ILjava/lang/Object;II)V" } : Jvm.MethodName)).before a0 Z = true := hw _ (List.mem_of_getElem? (i := 161) rfl)
theorem w_162 {Z : State} {a0 : Array Value} (hw : ∀ d ∈ tables_1, d.before a0 Z = true) : (Jvm.Cond.static ({ cls := "java/lang/System", name := "arraycopy", desc := "(Ljava/lang/Object;ILjava/lang/Object;II)V" } : Jvm.MethodName)).before a0 Z = true := hw _ (List.mem_of_getElem? (i := 162) rfl)
theorem w_163 {Z : State} {a0 : Array Value} (hw : ∀ d ∈ tables_1, d.before a0 Z = true) : (Jvm.Cond.initialized "java/lang/System").before a0 Z = true := hw _ (List.mem_of_getElem? (i := 163) rfl)
theorem w_164 {Z : State} {a0 : Array Value} (hw : ∀ d ∈ tables_1, d.before a0 Z = true) : (Jvm.Cond.native ({ cls := "java/lang/System", name := "arraycopy", desc := "(Ljava/lang/Object;ILjava/lang/Object;II)V" } : Jvm.MethodName)).before a0 Z = true := hw _ (List.mem_of_getElem? (i := 164) rfl)
theorem w_165 {Z : State} {a0 : Array Value} (hw : ∀ d ∈ tables_1, d.before a0 Z = true) : (Jvm.Cond.methodLink "java/lang/StringLatin1" (112 : Nat) ({ cls := "java/lang/String", name := "<init>", desc := "([BB)V" } : Jvm.MethodName)).before a0 Z = true := hw _ (List.mem_of_getElem? (i := 165) rfl)
theorem w_166 {Z : State} {a0 : Array Value} (hw : ∀ d ∈ tables_1, d.before a0 Z = true) : (Jvm.Cond.instanceMethod ({ cls := "java/lang/String", name := "<init>", desc := "([BB)V" } : Jvm.MethodName)).before a0 Z = true := hw _ (List.mem_of_getElem? (i := 166) rfl)
theorem w_167 {Z : State} {a0 : Array Value} (hw : ∀ d ∈ tables_1, d.before a0 Z = true) : (Jvm.Cond.code ({ cls := "java/lang/String", name := "<init>", desc := "([BB)V" } : Jvm.MethodName) jdk_42_method_151_code (3 : Nat) (Option.none : Option Jvm.ClassFile.FieldType)).before a0 Z = true := hw _ (List.mem_of_getElem? (i := 167) rfl)
theorem d_jdk_42_method_154_0 : decode jdk_42_method_154_code 0 = .ok (.getstatic 38, 3) := by decide +kernel
theorem d_jdk_42_method_154_3 : decode jdk_42_method_154_code 3 = .ok (.ifCond .eq 14, 3) := by decide +kernel
theorem d_jdk_42_method_154_6 : decode jdk_42_method_154_code 6 = .ok (.aload_n 0, 1) := by decide +kernel
theorem d_jdk_42_method_154_7 : decode jdk_42_method_154_code 7 = .ok (.getfield 15, 3) := by decide +kernel
theorem d_jdk_42_method_154_10 : decode jdk_42_method_154_code 10 = .ok (.ifCond .ne 7, 3) := by decide +kernel
theorem d_jdk_42_method_154_13 : decode jdk_42_method_154_code 13 = .ok (.iconst 1, 1) := by decide +kernel
theorem d_jdk_42_method_154_14 : decode jdk_42_method_154_code 14 = .ok (.goto 4, 3) := by decide +kernel
theorem d_jdk_42_method_154_18 : decode jdk_42_method_154_code 18 = .ok (.ireturn, 1) := by decide +kernel
theorem d_jdk_29_method_69_0 : decode jdk_29_method_69_code 0 = .ok (.iload_n 0, 1) := by decide +kernel
theorem d_jdk_29_method_69_1 : decode jdk_29_method_69_code 1 = .ok (.iload_n 1, 1) := by decide +kernel
theorem d_jdk_29_method_69_2 : decode jdk_29_method_69_code 2 = .ok (.if_icmp .gt 7, 3) := by decide +kernel
theorem d_jdk_29_method_69_5 : decode jdk_29_method_69_code 5 = .ok (.iload_n 0, 1) := by decide +kernel
theorem d_jdk_29_method_69_6 : decode jdk_29_method_69_code 6 = .ok (.goto 4, 3) := by decide +kernel
theorem d_jdk_29_method_69_10 : decode jdk_29_method_69_code 10 = .ok (.ireturn, 1) := by decide +kernel
theorem d_jdk_43_method_4_0 : decode jdk_43_method_4_code 0 = .ok (.iload_n 0, 1) := by decide +kernel
theorem d_jdk_43_method_4_1 : decode jdk_43_method_4_code 1 = .ok (.ifCond .lt 14, 3) := by decide +kernel
theorem d_jdk_43_method_4_4 : decode jdk_43_method_4_code 4 = .ok (.iload_n 0, 1) := by decide +kernel
theorem d_jdk_43_method_4_5 : decode jdk_43_method_4_code 5 = .ok (.sipush 255, 3) := by decide +kernel
theorem d_jdk_43_method_4_8 : decode jdk_43_method_4_code 8 = .ok (.if_icmp .gt 7, 3) := by decide +kernel
theorem d_jdk_43_method_4_11 : decode jdk_43_method_4_code 11 = .ok (.iconst 1, 1) := by decide +kernel
theorem d_jdk_43_method_4_12 : decode jdk_43_method_4_code 12 = .ok (.goto 4, 3) := by decide +kernel
theorem d_jdk_43_method_4_16 : decode jdk_43_method_4_code 16 = .ok (.ireturn, 1) := by decide +kernel
theorem d_jdk_43_method_27_0 : decode jdk_43_method_27_code 0 = .ok (.iload_n 1, 1) := by decide +kernel
theorem d_jdk_43_method_27_1 : decode jdk_43_method_27_code 1 = .ok (.invokestatic 88, 3) := by decide +kernel
theorem d_jdk_43_method_27_4 : decode jdk_43_method_27_code 4 = .ok (.ifCond .ne 5, 3) := by decide +kernel
theorem d_jdk_43_method_27_9 : decode jdk_43_method_27_code 9 = .ok (.iload_n 2, 1) := by decide +kernel
theorem d_jdk_43_method_27_10 : decode jdk_43_method_27_code 10 = .ok (.aload_n 0, 1) := by decide +kernel
theorem d_jdk_43_method_27_11 : decode jdk_43_method_27_code 11 = .ok (.arraylength, 1) := by decide +kernel
theorem d_jdk_43_method_27_12 : decode jdk_43_method_27_code 12 = .ok (.iconst 1, 1) := by decide +kernel
theorem d_jdk_43_method_27_13 : decode jdk_43_method_27_code 13 = .ok (.isub, 1) := by decide +kernel
theorem d_jdk_43_method_27_14 : decode jdk_43_method_27_code 14 = .ok (.invokestatic 38, 3) := by decide +kernel
theorem d_jdk_43_method_27_17 : decode jdk_43_method_27_code 17 = .ok (.istore_n 3, 1) := by decide +kernel
theorem d_jdk_43_method_27_18 : decode jdk_43_method_27_code 18 = .ok (.iload_n 3, 1) := by decide +kernel
theorem d_jdk_43_method_27_19 : decode jdk_43_method_27_code 19 = .ok (.ifCond .lt 19, 3) := by decide +kernel
theorem d_jdk_43_method_27_38 : decode jdk_43_method_27_code 38 = .ok (.iconst (-1), 1) := by decide +kernel
theorem d_jdk_43_method_27_39 : decode jdk_43_method_27_code 39 = .ok (.ireturn, 1) := by decide +kernel
theorem d_jdk_43_method_27_22 : decode jdk_43_method_27_code 22 = .ok (.aload_n 0, 1) := by decide +kernel
theorem d_jdk_43_method_27_23 : decode jdk_43_method_27_code 23 = .ok (.iload_n 3, 1) := by decide +kernel
theorem d_jdk_43_method_27_24 : decode jdk_43_method_27_code 24 = .ok (.baload, 1) := by decide +kernel
theorem d_jdk_43_method_27_25 : decode jdk_43_method_27_code 25 = .ok (.iload_n 1, 1) := by decide +kernel
theorem d_jdk_43_method_27_26 : decode jdk_43_method_27_code 26 = .ok (.i2b, 1) := by decide +kernel
theorem d_jdk_43_method_27_27 : decode jdk_43_method_27_code 27 = .ok (.if_icmp .ne 5, 3) := by decide +kernel
theorem d_jdk_43_method_27_32 : decode jdk_43_method_27_code 32 = .ok (.iinc 3 (-1), 3) := by decide +kernel
theorem d_jdk_43_method_27_35 : decode jdk_43_method_27_code 35 = .ok (.goto (-17), 3) := by decide +kernel
theorem d_jdk_43_method_27_30 : decode jdk_43_method_27_code 30 = .ok (.iload_n 3, 1) := by decide +kernel
theorem d_jdk_43_method_27_31 : decode jdk_43_method_27_code 31 = .ok (.ireturn, 1) := by decide +kernel
theorem d_jdk_42_method_83_0 : decode jdk_42_method_83_code 0 = .ok (.aload_n 0, 1) := by decide +kernel
theorem d_jdk_42_method_83_1 : decode jdk_42_method_83_code 1 = .ok (.invokevirtual 492, 3) := by decide +kernel
theorem d_jdk_42_method_83_4 : decode jdk_42_method_83_code 4 = .ok (.ifCond .eq 15, 3) := by decide +kernel
theorem d_jdk_42_method_83_7 : decode jdk_42_method_83_code 7 = .ok (.aload_n 0, 1) := by decide +kernel
theorem d_jdk_42_method_83_8 : decode jdk_42_method_83_code 8 = .ok (.getfield 9, 3) := by decide +kernel
theorem d_jdk_42_method_83_11 : decode jdk_42_method_83_code 11 = .ok (.iload_n 1, 1) := by decide +kernel
theorem d_jdk_42_method_83_12 : decode jdk_42_method_83_code 12 = .ok (.iload_n 2, 1) := by decide +kernel
theorem d_jdk_42_method_83_13 : decode jdk_42_method_83_code 13 = .ok (.invokestatic 644, 3) := by decide +kernel
theorem d_jdk_42_method_83_16 : decode jdk_42_method_83_code 16 = .ok (.goto 12, 3) := by decide +kernel
theorem d_jdk_42_method_83_28 : decode jdk_42_method_83_code 28 = .ok (.ireturn, 1) := by decide +kernel
theorem d_jdk_42_method_82_0 : decode jdk_42_method_82_code 0 = .ok (.aload_n 0, 1) := by decide +kernel
theorem d_jdk_42_method_82_1 : decode jdk_42_method_82_code 1 = .ok (.iload_n 1, 1) := by decide +kernel
theorem d_jdk_42_method_82_2 : decode jdk_42_method_82_code 2 = .ok (.aload_n 0, 1) := by decide +kernel
theorem d_jdk_42_method_82_3 : decode jdk_42_method_82_code 3 = .ok (.invokevirtual 505, 3) := by decide +kernel
theorem d_jdk_42_method_82_6 : decode jdk_42_method_82_code 6 = .ok (.iconst 1, 1) := by decide +kernel
theorem d_jdk_42_method_82_7 : decode jdk_42_method_82_code 7 = .ok (.isub, 1) := by decide +kernel
theorem d_jdk_42_method_82_8 : decode jdk_42_method_82_code 8 = .ok (.invokevirtual 641, 3) := by decide +kernel
theorem d_jdk_42_method_82_11 : decode jdk_42_method_82_code 11 = .ok (.ireturn, 1) := by decide +kernel
theorem d_jdk_41_method_12_0 : decode jdk_41_method_12_code 0 = .ok (.iload_n 0, 1) := by decide +kernel
theorem d_jdk_41_method_12_1 : decode jdk_41_method_12_code 1 = .ok (.ifCond .lt 13, 3) := by decide +kernel
theorem d_jdk_41_method_12_4 : decode jdk_41_method_12_code 4 = .ok (.iload_n 0, 1) := by decide +kernel
theorem d_jdk_41_method_12_5 : decode jdk_41_method_12_code 5 = .ok (.iload_n 1, 1) := by decide +kernel
theorem d_jdk_41_method_12_6 : decode jdk_41_method_12_code 6 = .ok (.if_icmp .gt 8, 3) := by decide +kernel
theorem d_jdk_41_method_12_9 : decode jdk_41_method_12_code 9 = .ok (.iload_n 1, 1) := by decide +kernel
theorem d_jdk_41_method_12_10 : decode jdk_41_method_12_code 10 = .ok (.iload_n 2, 1) := by decide +kernel
theorem d_jdk_41_method_12_11 : decode jdk_41_method_12_code 11 = .ok (.if_icmp .le 11, 3) := by decide +kernel
theorem d_jdk_41_method_12_22 : decode jdk_41_method_12_code 22 = .ok (.iload_n 0, 1) := by decide +kernel
theorem d_jdk_41_method_12_23 : decode jdk_41_method_12_code 23 = .ok (.ireturn, 1) := by decide +kernel
theorem d_jdk_42_method_158_0 : decode jdk_42_method_158_code 0 = .ok (.iload_n 0, 1) := by decide +kernel
theorem d_jdk_42_method_158_1 : decode jdk_42_method_158_code 1 = .ok (.iload_n 1, 1) := by decide +kernel
theorem d_jdk_42_method_158_2 : decode jdk_42_method_158_code 2 = .ok (.iload_n 2, 1) := by decide +kernel
theorem d_jdk_42_method_158_3 : decode jdk_42_method_158_code 3 = .ok (.getstatic 1053, 3) := by decide +kernel
theorem d_jdk_42_method_158_6 : decode jdk_42_method_158_code 6 = .ok (.invokestatic 1062, 3) := by decide +kernel
theorem d_jdk_42_method_158_9 : decode jdk_42_method_158_code 9 = .ok (.pop, 1) := by decide +kernel
theorem d_jdk_42_method_158_10 : decode jdk_42_method_158_code 10 = .ok (.return_, 1) := by decide +kernel
theorem d_jdk_65_method_131_0 : decode jdk_65_method_131_code 0 = .ok (.iload_n 1, 1) := by decide +kernel
theorem d_jdk_65_method_131_1 : decode jdk_65_method_131_code 1 = .ok (.iload_n 0, 1) := by decide +kernel
theorem d_jdk_65_method_131_2 : decode jdk_65_method_131_code 2 = .ok (.if_icmp .ge 35, 3) := by decide +kernel
theorem d_jdk_65_method_131_37 : decode jdk_65_method_131_code 37 = .ok (.return_, 1) := by decide +kernel
theorem d_jdk_42_method_151_0 : decode jdk_42_method_151_code 0 = .ok (.aload_n 0, 1) := by decide +kernel
theorem d_jdk_42_method_151_1 : decode jdk_42_method_151_code 1 = .ok (.invokespecial 1, 3) := by decide +kernel
theorem d_jdk_42_method_151_4 : decode jdk_42_method_151_code 4 = .ok (.aload_n 0, 1) := by decide +kernel
theorem d_jdk_42_method_151_5 : decode jdk_42_method_151_code 5 = .ok (.aload_n 1, 1) := by decide +kernel
theorem d_jdk_42_method_151_6 : decode jdk_42_method_151_code 6 = .ok (.putfield 9, 3) := by decide +kernel
theorem d_jdk_42_method_151_9 : decode jdk_42_method_151_code 9 = .ok (.aload_n 0, 1) := by decide +kernel
theorem d_jdk_42_method_151_10 : decode jdk_42_method_151_code 10 = .ok (.iload_n 2, 1) := by decide +kernel
theorem d_jdk_42_method_151_11 : decode jdk_42_method_151_code 11 = .ok (.putfield 15, 3) := by decide +kernel
theorem d_jdk_42_method_151_14 : decode jdk_42_method_151_code 14 = .ok (.return_, 1) := by decide +kernel
theorem d_jdk_65_method_133_0 : decode jdk_65_method_133_code 0 = .ok (.iload_n 1, 1) := by decide +kernel
theorem d_jdk_65_method_133_1 : decode jdk_65_method_133_code 1 = .ok (.iload_n 2, 1) := by decide +kernel
theorem d_jdk_65_method_133_2 : decode jdk_65_method_133_code 2 = .ok (.invokestatic 343, 3) := by decide +kernel
theorem d_jdk_65_method_133_5 : decode jdk_65_method_133_code 5 = .ok (.iload_n 2, 1) := by decide +kernel
theorem d_jdk_65_method_133_6 : decode jdk_65_method_133_code 6 = .ok (.iload_n 1, 1) := by decide +kernel
theorem d_jdk_65_method_133_7 : decode jdk_65_method_133_code 7 = .ok (.isub, 1) := by decide +kernel
theorem d_jdk_65_method_133_8 : decode jdk_65_method_133_code 8 = .ok (.istore_n 3, 1) := by decide +kernel
theorem d_jdk_65_method_133_9 : decode jdk_65_method_133_code 9 = .ok (.iload_n 3, 1) := by decide +kernel
theorem d_jdk_65_method_133_10 : decode jdk_65_method_133_code 10 = .ok (.newarray .byte, 2) := by decide +kernel
theorem d_jdk_65_method_133_12 : decode jdk_65_method_133_code 12 = .ok (.astore 4, 2) := by decide +kernel
theorem d_jdk_65_method_133_14 : decode jdk_65_method_133_code 14 = .ok (.aload_n 0, 1) := by decide +kernel
theorem d_jdk_65_method_133_15 : decode jdk_65_method_133_code 15 = .ok (.iload_n 1, 1) := by decide +kernel
theorem d_jdk_65_method_133_16 : decode jdk_65_method_133_code 16 = .ok (.aload 4, 2) := by decide +kernel
theorem d_jdk_65_method_133_18 : decode jdk_65_method_133_code 18 = .ok (.iconst 0, 1) := by decide +kernel
theorem d_jdk_65_method_133_19 : decode jdk_65_method_133_code 19 = .ok (.aload_n 0, 1) := by decide +kernel
theorem d_jdk_65_method_133_20 : decode jdk_65_method_133_code 20 = .ok (.arraylength, 1) := by decide +kernel
theorem d_jdk_65_method_133_21 : decode jdk_65_method_133_code 21 = .ok (.iload_n 1, 1) := by decide +kernel
theorem d_jdk_65_method_133_22 : decode jdk_65_method_133_code 22 = .ok (.isub, 1) := by decide +kernel
theorem d_jdk_65_method_133_23 : decode jdk_65_method_133_code 23 = .ok (.iload_n 3, 1) := by decide +kernel
theorem d_jdk_65_method_133_24 : decode jdk_65_method_133_code 24 = .ok (.invokestatic 304, 3) := by decide +kernel
theorem d_jdk_65_method_133_27 : decode jdk_65_method_133_code 27 = .ok (.invokestatic 150, 3) := by decide +kernel
theorem d_jdk_65_method_133_30 : decode jdk_65_method_133_code 30 = .ok (.aload 4, 2) := by decide +kernel
theorem d_jdk_65_method_133_32 : decode jdk_65_method_133_code 32 = .ok (.areturn, 1) := by decide +kernel
theorem d_jdk_65_method_132_0 : decode jdk_65_method_132_code 0 = .ok (.iload_n 1, 1) := by decide +kernel
theorem d_jdk_65_method_132_1 : decode jdk_65_method_132_code 1 = .ok (.ifCond .ne 9, 3) := by decide +kernel
theorem d_jdk_65_method_132_10 : decode jdk_65_method_132_code 10 = .ok (.aload_n 0, 1) := by decide +kernel
theorem d_jdk_65_method_132_11 : decode jdk_65_method_132_code 11 = .ok (.iload_n 1, 1) := by decide +kernel
theorem d_jdk_65_method_132_12 : decode jdk_65_method_132_code 12 = .ok (.iload_n 2, 1) := by decide +kernel
theorem d_jdk_65_method_132_13 : decode jdk_65_method_132_code 13 = .ok (.invokestatic 339, 3) := by decide +kernel
theorem d_jdk_65_method_132_16 : decode jdk_65_method_132_code 16 = .ok (.areturn, 1) := by decide +kernel
theorem d_jdk_43_method_47_0 : decode jdk_43_method_47_code 0 = .ok (.iload_n 2, 1) := by decide +kernel
theorem d_jdk_43_method_47_1 : decode jdk_43_method_47_code 1 = .ok (.ifCond .ne 6, 3) := by decide +kernel
theorem d_jdk_43_method_47_7 : decode jdk_43_method_47_code 7 = .ok (.new 1, 3) := by decide +kernel
theorem d_jdk_43_method_47_10 : decode jdk_43_method_47_code 10 = .ok (.dup, 1) := by decide +kernel
theorem d_jdk_43_method_47_11 : decode jdk_43_method_47_code 11 = .ok (.aload_n 0, 1) := by decide +kernel
theorem d_jdk_43_method_47_12 : decode jdk_43_method_47_code 12 = .ok (.iload_n 1, 1) := by decide +kernel
theorem d_jdk_43_method_47_13 : decode jdk_43_method_47_code 13 = .ok (.iload_n 1, 1) := by decide +kernel
theorem d_jdk_43_method_47_14 : decode jdk_43_method_47_code 14 = .ok (.iload_n 2, 1) := by decide +kernel
theorem d_jdk_43_method_47_15 : decode jdk_43_method_47_code 15 = .ok (.iadd, 1) := by decide +kernel
theorem d_jdk_43_method_47_16 : decode jdk_43_method_47_code 16 = .ok (.invokestatic 232, 3) := by decide +kernel
theorem d_jdk_43_method_47_19 : decode jdk_43_method_47_code 19 = .ok (.iconst 0, 1) := by decide +kernel
theorem d_jdk_43_method_47_20 : decode jdk_43_method_47_code 20 = .ok (.invokespecial 112, 3) := by decide +kernel
theorem d_jdk_43_method_47_23 : decode jdk_43_method_47_code 23 = .ok (.areturn, 1) := by decide +kernel
theorem d_jdk_43_method_47_4 : decode jdk_43_method_47_code 4 = .ok (.ldc 151, 2) := by decide +kernel
theorem d_jdk_43_method_47_6 : decode jdk_43_method_47_code 6 = .ok (.areturn, 1) := by decide +kernel
theorem d_jdk_42_method_92_0 : decode jdk_42_method_92_code 0 = .ok (.aload_n 0, 1) := by decide +kernel
theorem d_jdk_42_method_92_1 : decode jdk_42_method_92_code 1 = .ok (.invokevirtual 505, 3) := by decide +kernel
theorem d_jdk_42_method_92_4 : decode jdk_42_method_92_code 4 = .ok (.istore_n 3, 1) := by decide +kernel
theorem d_jdk_42_method_92_5 : decode jdk_42_method_92_code 5 = .ok (.iload_n 1, 1) := by decide +kernel
theorem d_jdk_42_method_92_6 : decode jdk_42_method_92_code 6 = .ok (.iload_n 2, 1) := by decide +kernel
theorem d_jdk_42_method_92_7 : decode jdk_42_method_92_code 7 = .ok (.iload_n 3, 1) := by decide +kernel
theorem d_jdk_42_method_92_8 : decode jdk_42_method_92_code 8 = .ok (.invokestatic 521, 3) := by decide +kernel
theorem d_jdk_42_method_92_11 : decode jdk_42_method_92_code 11 = .ok (.iload_n 1, 1) := by decide +kernel
theorem d_jdk_42_method_92_12 : decode jdk_42_method_92_code 12 = .ok (.ifCond .ne 10, 3) := by decide +kernel
theorem d_jdk_42_method_92_22 : decode jdk_42_method_92_code 22 = .ok (.iload_n 2, 1) := by decide +kernel
theorem d_jdk_42_method_92_23 : decode jdk_42_method_92_code 23 = .ok (.iload_n 1, 1) := by decide +kernel
theorem d_jdk_42_method_92_24 : decode jdk_42_method_92_code 24 = .ok (.isub, 1) := by decide +kernel
theorem d_jdk_42_method_92_25 : decode jdk_42_method_92_code 25 = .ok (.istore 4, 2) := by decide +kernel
theorem d_jdk_42_method_92_27 : decode jdk_42_method_92_code 27 = .ok (.aload_n 0, 1) := by decide +kernel
theorem d_jdk_42_method_92_28 : decode jdk_42_method_92_code 28 = .ok (.invokevirtual 492, 3) := by decide +kernel
theorem d_jdk_42_method_92_31 : decode jdk_42_method_92_code 31 = .ok (.ifCond .eq 16, 3) := by decide +kernel
theorem d_jdk_42_method_92_34 : decode jdk_42_method_92_code 34 = .ok (.aload_n 0, 1) := by decide +kernel
theorem d_jdk_42_method_92_35 : decode jdk_42_method_92_code 35 = .ok (.getfield 9, 3) := by decide +kernel
theorem d_jdk_42_method_92_38 : decode jdk_42_method_92_code 38 = .ok (.iload_n 1, 1) := by decide +kernel
theorem d_jdk_42_method_92_39 : decode jdk_42_method_92_code 39 = .ok (.iload 4, 2) := by decide +kernel
theorem d_jdk_42_method_92_41 : decode jdk_42_method_92_code 41 = .ok (.invokestatic 685, 3) := by decide +kernel
theorem d_jdk_42_method_92_44 : decode jdk_42_method_92_code 44 = .ok (.goto 13, 3) := by decide +kernel
theorem d_jdk_42_method_92_57 : decode jdk_42_method_92_code 57 = .ok (.areturn, 1) := by decide +kernel
theorem d_jdk_42_method_92_15 : decode jdk_42_method_92_code 15 = .ok (.iload_n 2, 1) := by decide +kernel
theorem d_jdk_42_method_92_16 : decode jdk_42_method_92_code 16 = .ok (.iload_n 3, 1) := by decide +kernel
theorem d_jdk_42_method_92_17 : decode jdk_42_method_92_code 17 = .ok (.if_icmp .ne 5, 3) := by decide +kernel
theorem d_jdk_42_method_92_20 : decode jdk_42_method_92_code 20 = .ok (.aload_n 0, 1) := by decide +kernel
theorem d_jdk_42_method_92_21 : decode jdk_42_method_92_code 21 = .ok (.areturn, 1) := by decide +kernel
theorem d_jdk_42_method_91_0 : decode jdk_42_method_91_code 0 = .ok (.aload_n 0, 1) := by decide +kernel
theorem d_jdk_42_method_91_1 : decode jdk_42_method_91_code 1 = .ok (.iload_n 1, 1) := by decide +kernel
theorem d_jdk_42_method_91_2 : decode jdk_42_method_91_code 2 = .ok (.aload_n 0, 1) := by decide +kernel
theorem d_jdk_42_method_91_3 : decode jdk_42_method_91_code 3 = .ok (.invokevirtual 505, 3) := by decide +kernel
theorem d_jdk_42_method_91_6 : decode jdk_42_method_91_code 6 = .ok (.invokevirtual 681, 3) := by decide +kernel
theorem d_jdk_42_method_91_9 : decode jdk_42_method_91_code 9 = .ok (.areturn, 1) := by decide +kernel
theorem d_method_2_0 : decode method_2_code 0 = .ok (.iload_n 0, 1) := by decide +kernel
theorem d_method_2_1 : decode method_2_code 1 = .ok (.bipush 8, 2) := by decide +kernel
theorem d_method_2_3 : decode method_2_code 3 = .ok (.iushr, 1) := by decide +kernel
theorem d_method_2_4 : decode method_2_code 4 = .ok (.iconst 1, 1) := by decide +kernel
theorem d_method_2_5 : decode method_2_code 5 = .ok (.iand, 1) := by decide +kernel
theorem d_method_2_6 : decode method_2_code 6 = .ok (.ifCond .ne 8, 3) := by decide +kernel
theorem d_method_2_14 : decode method_2_code 14 = .ok (.iload_n 0, 1) := by decide +kernel
theorem d_method_2_15 : decode method_2_code 15 = .ok (.sipush 255, 3) := by decide +kernel
theorem d_method_2_18 : decode method_2_code 18 = .ok (.iand, 1) := by decide +kernel
theorem d_method_2_19 : decode method_2_code 19 = .ok (.i2c, 1) := by decide +kernel
theorem d_method_2_20 : decode method_2_code 20 = .ok (.ireturn, 1) := by decide +kernel
theorem d_method_2_9 : decode method_2_code 9 = .ok (.bipush 46, 2) := by decide +kernel
theorem d_method_2_11 : decode method_2_code 11 = .ok (.goto 9, 3) := by decide +kernel
theorem d_method_3_0 : decode method_3_code 0 = .ok (.iload_n 0, 1) := by decide +kernel
theorem d_method_3_1 : decode method_3_code 1 = .ok (.ifCond .ne 6, 3) := by decide +kernel
theorem d_method_3_7 : decode method_3_code 7 = .ok (.iload_n 0, 1) := by decide +kernel
theorem d_method_3_8 : decode method_3_code 8 = .ok (.iconst 1, 1) := by decide +kernel
theorem d_method_3_9 : decode method_3_code 9 = .ok (.if_icmp .ne 20, 3) := by decide +kernel
theorem d_method_3_29 : decode method_3_code 29 = .ok (.iload_n 0, 1) := by decide +kernel
theorem d_method_3_30 : decode method_3_code 30 = .ok (.iconst 2, 1) := by decide +kernel
theorem d_method_3_31 : decode method_3_code 31 = .ok (.if_icmp .ne 26, 3) := by decide +kernel
theorem d_method_3_57 : decode method_3_code 57 = .ok (.iload_n 0, 1) := by decide +kernel
theorem d_method_3_58 : decode method_3_code 58 = .ok (.iconst 3, 1) := by decide +kernel
theorem d_method_3_59 : decode method_3_code 59 = .ok (.if_icmp .ne 32, 3) := by decide +kernel
theorem d_method_3_91 : decode method_3_code 91 = .ok (.new 9, 3) := by decide +kernel
theorem d_method_3_94 : decode method_3_code 94 = .ok (.dup, 1) := by decide +kernel
theorem d_method_3_95 : decode method_3_code 95 = .ok (.iconst 4, 1) := by decide +kernel
theorem d_method_3_96 : decode method_3_code 96 = .ok (.newarray .char, 2) := by decide +kernel
theorem d_method_3_98 : decode method_3_code 98 = .ok (.dup, 1) := by decide +kernel
theorem d_method_3_99 : decode method_3_code 99 = .ok (.iconst 0, 1) := by decide +kernel
theorem d_method_3_100 : decode method_3_code 100 = .ok (.aload_n 1, 1) := by decide +kernel
theorem d_method_3_101 : decode method_3_code 101 = .ok (.iconst 0, 1) := by decide +kernel
theorem d_method_3_102 : decode method_3_code 102 = .ok (.caload, 1) := by decide +kernel
theorem d_method_3_103 : decode method_3_code 103 = .ok (.castore, 1) := by decide +kernel
theorem d_method_3_104 : decode method_3_code 104 = .ok (.dup, 1) := by decide +kernel
theorem d_method_3_105 : decode method_3_code 105 = .ok (.iconst 1, 1) := by decide +kernel
theorem d_method_3_106 : decode method_3_code 106 = .ok (.aload_n 1, 1) := by decide +kernel
theorem d_method_3_107 : decode method_3_code 107 = .ok (.iconst 1, 1) := by decide +kernel
theorem d_method_3_108 : decode method_3_code 108 = .ok (.caload, 1) := by decide +kernel
theorem d_method_3_109 : decode method_3_code 109 = .ok (.castore, 1) := by decide +kernel
theorem d_method_3_110 : decode method_3_code 110 = .ok (.dup, 1) := by decide +kernel
theorem d_method_3_111 : decode method_3_code 111 = .ok (.iconst 2, 1) := by decide +kernel
theorem d_method_3_112 : decode method_3_code 112 = .ok (.aload_n 1, 1) := by decide +kernel
theorem d_method_3_113 : decode method_3_code 113 = .ok (.iconst 2, 1) := by decide +kernel
theorem d_method_3_114 : decode method_3_code 114 = .ok (.caload, 1) := by decide +kernel
theorem d_method_3_115 : decode method_3_code 115 = .ok (.castore, 1) := by decide +kernel
theorem d_method_3_116 : decode method_3_code 116 = .ok (.dup, 1) := by decide +kernel
theorem d_method_3_117 : decode method_3_code 117 = .ok (.iconst 3, 1) := by decide +kernel
theorem d_method_3_118 : decode method_3_code 118 = .ok (.aload_n 1, 1) := by decide +kernel
theorem d_method_3_119 : decode method_3_code 119 = .ok (.iconst 3, 1) := by decide +kernel
theorem d_method_3_120 : decode method_3_code 120 = .ok (.caload, 1) := by decide +kernel
theorem d_method_3_121 : decode method_3_code 121 = .ok (.castore, 1) := by decide +kernel
theorem d_method_3_122 : decode method_3_code 122 = .ok (.invokespecial 11, 3) := by decide +kernel
theorem d_method_3_125 : decode method_3_code 125 = .ok (.areturn, 1) := by decide +kernel
theorem d_method_3_62 : decode method_3_code 62 = .ok (.new 9, 3) := by decide +kernel
theorem d_method_3_65 : decode method_3_code 65 = .ok (.dup, 1) := by decide +kernel
theorem d_method_3_66 : decode method_3_code 66 = .ok (.iconst 3, 1) := by decide +kernel
theorem d_method_3_67 : decode method_3_code 67 = .ok (.newarray .char, 2) := by decide +kernel
theorem d_method_3_69 : decode method_3_code 69 = .ok (.dup, 1) := by decide +kernel
theorem d_method_3_70 : decode method_3_code 70 = .ok (.iconst 0, 1) := by decide +kernel
theorem d_method_3_71 : decode method_3_code 71 = .ok (.aload_n 1, 1) := by decide +kernel
theorem d_method_3_72 : decode method_3_code 72 = .ok (.iconst 0, 1) := by decide +kernel
theorem d_method_3_73 : decode method_3_code 73 = .ok (.caload, 1) := by decide +kernel
theorem d_method_3_74 : decode method_3_code 74 = .ok (.castore, 1) := by decide +kernel
theorem d_method_3_75 : decode method_3_code 75 = .ok (.dup, 1) := by decide +kernel
theorem d_method_3_76 : decode method_3_code 76 = .ok (.iconst 1, 1) := by decide +kernel
theorem d_method_3_77 : decode method_3_code 77 = .ok (.aload_n 1, 1) := by decide +kernel
theorem d_method_3_78 : decode method_3_code 78 = .ok (.iconst 1, 1) := by decide +kernel
theorem d_method_3_79 : decode method_3_code 79 = .ok (.caload, 1) := by decide +kernel
theorem d_method_3_80 : decode method_3_code 80 = .ok (.castore, 1) := by decide +kernel
theorem d_method_3_81 : decode method_3_code 81 = .ok (.dup, 1) := by decide +kernel
theorem d_method_3_82 : decode method_3_code 82 = .ok (.iconst 2, 1) := by decide +kernel
theorem d_method_3_83 : decode method_3_code 83 = .ok (.aload_n 1, 1) := by decide +kernel
theorem d_method_3_84 : decode method_3_code 84 = .ok (.iconst 2, 1) := by decide +kernel
theorem d_method_3_85 : decode method_3_code 85 = .ok (.caload, 1) := by decide +kernel
theorem d_method_3_86 : decode method_3_code 86 = .ok (.castore, 1) := by decide +kernel
theorem d_method_3_87 : decode method_3_code 87 = .ok (.invokespecial 11, 3) := by decide +kernel
theorem d_method_3_90 : decode method_3_code 90 = .ok (.areturn, 1) := by decide +kernel
theorem d_method_3_34 : decode method_3_code 34 = .ok (.new 9, 3) := by decide +kernel
theorem d_method_3_37 : decode method_3_code 37 = .ok (.dup, 1) := by decide +kernel
theorem d_method_3_38 : decode method_3_code 38 = .ok (.iconst 2, 1) := by decide +kernel
theorem d_method_3_39 : decode method_3_code 39 = .ok (.newarray .char, 2) := by decide +kernel
theorem d_method_3_41 : decode method_3_code 41 = .ok (.dup, 1) := by decide +kernel
theorem d_method_3_42 : decode method_3_code 42 = .ok (.iconst 0, 1) := by decide +kernel
theorem d_method_3_43 : decode method_3_code 43 = .ok (.aload_n 1, 1) := by decide +kernel
theorem d_method_3_44 : decode method_3_code 44 = .ok (.iconst 0, 1) := by decide +kernel
theorem d_method_3_45 : decode method_3_code 45 = .ok (.caload, 1) := by decide +kernel
theorem d_method_3_46 : decode method_3_code 46 = .ok (.castore, 1) := by decide +kernel
theorem d_method_3_47 : decode method_3_code 47 = .ok (.dup, 1) := by decide +kernel
theorem d_method_3_48 : decode method_3_code 48 = .ok (.iconst 1, 1) := by decide +kernel
theorem d_method_3_49 : decode method_3_code 49 = .ok (.aload_n 1, 1) := by decide +kernel
theorem d_method_3_50 : decode method_3_code 50 = .ok (.iconst 1, 1) := by decide +kernel
theorem d_method_3_51 : decode method_3_code 51 = .ok (.caload, 1) := by decide +kernel
theorem d_method_3_52 : decode method_3_code 52 = .ok (.castore, 1) := by decide +kernel
theorem d_method_3_53 : decode method_3_code 53 = .ok (.invokespecial 11, 3) := by decide +kernel
theorem d_method_3_56 : decode method_3_code 56 = .ok (.areturn, 1) := by decide +kernel
theorem d_method_3_12 : decode method_3_code 12 = .ok (.new 9, 3) := by decide +kernel
theorem d_method_3_15 : decode method_3_code 15 = .ok (.dup, 1) := by decide +kernel
theorem d_method_3_16 : decode method_3_code 16 = .ok (.iconst 1, 1) := by decide +kernel
theorem d_method_3_17 : decode method_3_code 17 = .ok (.newarray .char, 2) := by decide +kernel
theorem d_method_3_19 : decode method_3_code 19 = .ok (.dup, 1) := by decide +kernel
theorem d_method_3_20 : decode method_3_code 20 = .ok (.iconst 0, 1) := by decide +kernel
theorem d_method_3_21 : decode method_3_code 21 = .ok (.aload_n 1, 1) := by decide +kernel
theorem d_method_3_22 : decode method_3_code 22 = .ok (.iconst 0, 1) := by decide +kernel
theorem d_method_3_23 : decode method_3_code 23 = .ok (.caload, 1) := by decide +kernel
theorem d_method_3_24 : decode method_3_code 24 = .ok (.castore, 1) := by decide +kernel
theorem d_method_3_25 : decode method_3_code 25 = .ok (.invokespecial 11, 3) := by decide +kernel
theorem d_method_3_28 : decode method_3_code 28 = .ok (.areturn, 1) := by decide +kernel
theorem d_method_3_4 : decode method_3_code 4 = .ok (.ldc 7, 2) := by decide +kernel
theorem d_method_3_6 : decode method_3_code 6 = .ok (.areturn, 1) := by decide +kernel
theorem d_jdk_30_method_1_0 : decode jdk_30_method_1_code 0 = .ok (.aload_n 0, 1) := by decide +kernel
theorem d_jdk_30_method_1_1 : decode jdk_30_method_1_code 1 = .ok (.invokespecial 1, 3) := by decide +kernel
theorem d_jdk_30_method_1_4 : decode jdk_30_method_1_code 4 = .ok (.return_, 1) := by decide +kernel
theorem d_prog_69_method_1_0 : decode prog_69_method_1_code 0 = .ok (.aload_n 0, 1) := by decide +kernel
theorem d_prog_69_method_1_1 : decode prog_69_method_1_code 1 = .ok (.invokespecial 1, 3) := by decide +kernel
theorem d_prog_69_method_1_4 : decode prog_69_method_1_code 4 = .ok (.aload_n 0, 1) := by decide +kernel
theorem d_prog_69_method_1_5 : decode prog_69_method_1_code 5 = .ok (.iload_n 1, 1) := by decide +kernel
theorem d_prog_69_method_1_6 : decode prog_69_method_1_code 6 = .ok (.putfield 7, 3) := by decide +kernel
theorem d_prog_69_method_1_9 : decode prog_69_method_1_code 9 = .ok (.aload_n 0, 1) := by decide +kernel
theorem d_prog_69_method_1_10 : decode prog_69_method_1_code 10 = .ok (.iload_n 2, 1) := by decide +kernel
theorem d_prog_69_method_1_11 : decode prog_69_method_1_code 11 = .ok (.putfield 13, 3) := by decide +kernel
theorem d_prog_69_method_1_14 : decode prog_69_method_1_code 14 = .ok (.return_, 1) := by decide +kernel
theorem d_prog_36_method_1_0 : decode prog_36_method_1_code 0 = .ok (.aload_n 0, 1) := by decide +kernel
theorem d_prog_36_method_1_1 : decode prog_36_method_1_code 1 = .ok (.invokespecial 1, 3) := by decide +kernel
theorem d_prog_36_method_1_4 : decode prog_36_method_1_code 4 = .ok (.aload_n 0, 1) := by decide +kernel
theorem d_prog_36_method_1_5 : decode prog_36_method_1_code 5 = .ok (.aload_n 1, 1) := by decide +kernel
theorem d_prog_36_method_1_6 : decode prog_36_method_1_code 6 = .ok (.putfield 7, 3) := by decide +kernel
theorem d_prog_36_method_1_9 : decode prog_36_method_1_code 9 = .ok (.aload_n 0, 1) := by decide +kernel
theorem d_prog_36_method_1_10 : decode prog_36_method_1_code 10 = .ok (.aload_n 2, 1) := by decide +kernel
theorem d_prog_36_method_1_11 : decode prog_36_method_1_code 11 = .ok (.putfield 13, 3) := by decide +kernel
theorem d_prog_36_method_1_14 : decode prog_36_method_1_code 14 = .ok (.return_, 1) := by decide +kernel
theorem d_prog_36_method_2_0 : decode prog_36_method_2_code 0 = .ok (.aload_n 0, 1) := by decide +kernel
theorem d_prog_36_method_2_1 : decode prog_36_method_2_code 1 = .ok (.getfield 13, 3) := by decide +kernel
theorem d_prog_36_method_2_4 : decode prog_36_method_2_code 4 = .ok (.aload_n 0, 1) := by decide +kernel
theorem d_prog_36_method_2_5 : decode prog_36_method_2_code 5 = .ok (.getfield 13, 3) := by decide +kernel
theorem d_prog_36_method_2_8 : decode prog_36_method_2_code 8 = .ok (.bipush 46, 2) := by decide +kernel
theorem d_prog_36_method_2_10 : decode prog_36_method_2_code 10 = .ok (.invokevirtual 17, 3) := by decide +kernel
theorem d_prog_36_method_2_13 : decode prog_36_method_2_code 13 = .ok (.iconst 1, 1) := by decide +kernel
theorem d_prog_36_method_2_14 : decode prog_36_method_2_code 14 = .ok (.iadd, 1) := by decide +kernel
theorem d_prog_36_method_2_15 : decode prog_36_method_2_code 15 = .ok (.invokevirtual 23, 3) := by decide +kernel
theorem d_prog_36_method_2_18 : decode prog_36_method_2_code 18 = .ok (.areturn, 1) := by decide +kernel
theorem d_method_4_0 : decode method_4_code 0 = .ok (.iload_n 1, 1) := by decide +kernel
theorem d_method_4_1 : decode method_4_code 1 = .ok (.iload_n 2, 1) := by decide +kernel
theorem d_method_4_2 : decode method_4_code 2 = .ok (.if_icmp .lt 5, 3) := by decide +kernel
theorem d_method_4_7 : decode method_4_code 7 = .ok (.aload_n 0, 1) := by decide +kernel
theorem d_method_4_8 : decode method_4_code 8 = .ok (.iload_n 1, 1) := by decide +kernel
theorem d_method_4_9 : decode method_4_code 9 = .ok (.invokevirtual 14, 3) := by decide +kernel
theorem d_method_4_12 : decode method_4_code 12 = .ok (.aload_n 3, 1) := by decide +kernel
theorem d_method_4_13 : decode method_4_code 13 = .ok (.iload 4, 2) := by decide +kernel
theorem d_method_4_15 : decode method_4_code 15 = .ok (.iload_n 1, 1) := by decide +kernel
theorem d_method_4_16 : decode method_4_code 16 = .ok (.iadd, 1) := by decide +kernel
theorem d_method_4_17 : decode method_4_code 17 = .ok (.caload, 1) := by decide +kernel
theorem d_method_4_18 : decode method_4_code 18 = .ok (.if_icmp .ne 7, 3) := by decide +kernel
theorem d_method_4_21 : decode method_4_code 21 = .ok (.iconst 1, 1) := by decide +kernel
theorem d_method_4_22 : decode method_4_code 22 = .ok (.goto 4, 3) := by decide +kernel
theorem d_method_4_26 : decode method_4_code 26 = .ok (.ireturn, 1) := by decide +kernel
theorem d_method_4_5 : decode method_4_code 5 = .ok (.iconst 1, 1) := by decide +kernel
theorem d_method_4_6 : decode method_4_code 6 = .ok (.ireturn, 1) := by decide +kernel
theorem pn_0 : plainName "java/lang/String" = true := by first | (simp [plainName, overriddenIn]; done) | decide +kernel
theorem pn_1 : plainName "java/lang/StringLatin1" = true := by first | (simp [plainName, overriddenIn]; done) | decide +kernel
theorem pn_2 : plainName "jdk/internal/util/Preconditions" = true := by first | (simp [plainName, overriddenIn]; done) | decide +kernel
theorem pn_3 : plainName "java/util/Arrays" = true := by first | (simp [plainName, overriddenIn]; done) | decide +kernel
theorem pn_4 : plainName "com/example/stubwright/stubwright/ImportSimpleNamePinLaw" = true := by first | (simp [plainName, overriddenIn]; done) | decide +kernel
theorem pn_5 : plainName "java/lang/Record" = true := by first | (simp [plainName, overriddenIn]; done) | decide +kernel
theorem pn_6 : plainName "com/example/stubwright/stubwright/Position" = true := by first | (simp [plainName, overriddenIn]; done) | decide +kernel
theorem pn_7 : plainName "com/example/stubwright/stubwright/Document$Import" = true := by first | (simp [plainName, overriddenIn]; done) | decide +kernel
theorem pd_0 : parseMethodDescriptor "(I)Z" = some ⟨[.int], some .boolean⟩ := by decide +kernel
theorem pd_1 : parseMethodDescriptor "(II)I" = some ⟨[.int, .int], some .int⟩ := by decide +kernel
theorem pd_2 : parseMethodDescriptor "()Z" = some ⟨[], some .boolean⟩ := by decide +kernel
theorem pd_3 : parseMethodDescriptor "([BII)I" = some ⟨[(.array .byte), .int, .int], some .int⟩ := by decide +kernel
theorem pd_4 : parseMethodDescriptor "()I" = some ⟨[], some .int⟩ := by decide +kernel
theorem pd_5 : parseMethodDescriptor "(IIILjava/util/function/BiFunction;)I" = some ⟨[.int, .int, .int, (.object "java/util/function/BiFunction")], some .int⟩ := by decide +kernel
theorem pd_6 : parseMethodDescriptor "(II)V" = some ⟨[.int, .int], none⟩ := by decide +kernel
theorem pd_7 : parseMethodDescriptor "([BII)[B" = some ⟨[(.array .byte), .int, .int], some (.array .byte)⟩ := by decide +kernel
theorem pd_8 : parseMethodDescriptor "([BB)V" = some ⟨[(.array .byte), .byte], none⟩ := by decide +kernel
theorem pd_9 : parseMethodDescriptor "(III)V" = some ⟨[.int, .int, .int], none⟩ := by decide +kernel
theorem pd_10 : parseMethodDescriptor "([BII)Ljava/lang/String;" = some ⟨[(.array .byte), .int, .int], some (.object "java/lang/String")⟩ := by decide +kernel
theorem pd_11 : parseMethodDescriptor "(II)Ljava/lang/String;" = some ⟨[.int, .int], some (.object "java/lang/String")⟩ := by decide +kernel
theorem pd_12 : parseMethodDescriptor "([C)V" = some ⟨[(.array .char)], none⟩ := by decide +kernel
theorem pd_13 : parseMethodDescriptor "()V" = some ⟨[], none⟩ := by decide +kernel
theorem pd_14 : parseMethodDescriptor "(I)I" = some ⟨[.int], some .int⟩ := by decide +kernel
theorem pd_15 : parseMethodDescriptor "(I)Ljava/lang/String;" = some ⟨[.int], some (.object "java/lang/String")⟩ := by decide +kernel
theorem pd_16 : parseMethodDescriptor "(I)C" = some ⟨[.int], some .char⟩ := by decide +kernel
theorem pd_17 : parseMethodDescriptor "(I[C)Ljava/lang/String;" = some ⟨[.int, (.array .char)], some (.object "java/lang/String")⟩ := by decide +kernel
theorem pd_18 : parseMethodDescriptor "(Lcom/example/stubwright/stubwright/Position;Ljava/lang/String;)V" = some ⟨[(.object "com/example/stubwright/stubwright/Position"), (.object "java/lang/String")], none⟩ := by decide +kernel
theorem pd_19 : parseMethodDescriptor "()Ljava/lang/String;" = some ⟨[], some (.object "java/lang/String")⟩ := by decide +kernel
theorem pd_20 : parseMethodDescriptor "(Ljava/lang/String;II[CI)Z" = some ⟨[(.object "java/lang/String"), .int, .int, (.array .char), .int], some .boolean⟩ := by decide +kernel
theorem ef_own_isL1 (m : MethodId) (x : Addr) : entryFrame m #[(.ref x)] 1 = mkF m 0 #[.val (.ref x)] [] := by first | (simp [entryFrame, mkF, argsToLocals, Value.category, maxLocals]; done) | rfl
theorem ef_own_min (m : MethodId) (a : Int32) : entryFrame m #[(.int a), (.int a)] 2 = mkF m 0 #[.val (.int a), .val (.int a)] [] := by first | (simp [entryFrame, mkF, argsToLocals, Value.category, maxLocals]; done) | rfl
theorem ef_own_canI (m : MethodId)  : entryFrame m #[(.int (46 : Int32))] 1 = mkF m 0 #[.val (.int (46 : Int32))] [] := by first | (simp [entryFrame, mkF, argsToLocals, Value.category, maxLocals]; done) | rfl
theorem ef_own_lioA0 (m : MethodId) (t : Addr) : entryFrame m #[(.ref t), (.int (46 : Int32)), (.int (-1 : Int32))] 4 = mkF m 0 #[.val (.ref t), .val (.int (46 : Int32)), .val (.int (-1 : Int32)), .unset] [] := by first | (simp [entryFrame, mkF, argsToLocals, Value.category, maxLocals]; done) | rfl
theorem ef_own_lioA1 (m : MethodId) (t : Addr) : entryFrame m #[(.ref t), (.int (46 : Int32)), (.int (0 : Int32))] 4 = mkF m 0 #[.val (.ref t), .val (.int (46 : Int32)), .val (.int (0 : Int32)), .unset] [] := by first | (simp [entryFrame, mkF, argsToLocals, Value.category, maxLocals]; done) | rfl
theorem ef_own_lioA2 (m : MethodId) (t : Addr) : entryFrame m #[(.ref t), (.int (46 : Int32)), (.int (1 : Int32))] 4 = mkF m 0 #[.val (.ref t), .val (.int (46 : Int32)), .val (.int (1 : Int32)), .unset] [] := by first | (simp [entryFrame, mkF, argsToLocals, Value.category, maxLocals]; done) | rfl
theorem ef_own_lioA3 (m : MethodId) (t : Addr) : entryFrame m #[(.ref t), (.int (46 : Int32)), (.int (2 : Int32))] 4 = mkF m 0 #[.val (.ref t), .val (.int (46 : Int32)), .val (.int (2 : Int32)), .unset] [] := by first | (simp [entryFrame, mkF, argsToLocals, Value.category, maxLocals]; done) | rfl
theorem ef_own_lioA4 (m : MethodId) (t : Addr) : entryFrame m #[(.ref t), (.int (46 : Int32)), (.int (3 : Int32))] 4 = mkF m 0 #[.val (.ref t), .val (.int (46 : Int32)), .val (.int (3 : Int32)), .unset] [] := by first | (simp [entryFrame, mkF, argsToLocals, Value.category, maxLocals]; done) | rfl
theorem ef_own_lioB (m : MethodId) (x : Addr) (q1 : Int32) : entryFrame m #[(.ref x), (.int (46 : Int32)), (.int q1)] 3 = mkF m 0 #[.val (.ref x), .val (.int (46 : Int32)), .val (.int q1)] [] := by first | (simp [entryFrame, mkF, argsToLocals, Value.category, maxLocals]; done) | rfl
theorem ef_own_lio (m : MethodId) (x : Addr) : entryFrame m #[(.ref x), (.int (46 : Int32))] 2 = mkF m 0 #[.val (.ref x), .val (.int (46 : Int32))] [] := by first | (simp [entryFrame, mkF, argsToLocals, Value.category, maxLocals]; done) | rfl
theorem ef_own_cft (m : MethodId) (s0 : Int32) (n : Int32) (fm : Value) (r_fm : fm.isRef = true) : entryFrame m #[(.int s0), (.int n), (.int n), fm] 4 = mkF m 0 #[.val (.int s0), .val (.int n), .val (.int n), .val fm] [] := by
  rcases ref_cases r_fm with rfl | ⟨_, rfl⟩ <;> first | (simp [entryFrame, mkF, argsToLocals, Value.category, maxLocals]; done) | rfl
theorem ef_own_cbe (m : MethodId) (s0 : Int32) (n : Int32) : entryFrame m #[(.int s0), (.int n), (.int n)] 3 = mkF m 0 #[.val (.int s0), .val (.int n), .val (.int n)] [] := by first | (simp [entryFrame, mkF, argsToLocals, Value.category, maxLocals]; done) | rfl
theorem ef_own_chl (m : MethodId) (s0 : Int32) (n : Int32) : entryFrame m #[(.int s0), (.int n)] 2 = mkF m 0 #[.val (.int s0), .val (.int n)] [] := by first | (simp [entryFrame, mkF, argsToLocals, Value.category, maxLocals]; done) | rfl
theorem ef_own_newB (m : MethodId) (x : Addr) (t : Addr) : entryFrame m #[(.ref x), (.ref t), (.int (0 : Int32))] 3 = mkF m 0 #[.val (.ref x), .val (.ref t), .val (.int (0 : Int32))] [] := by first | (simp [entryFrame, mkF, argsToLocals, Value.category, maxLocals]; done) | rfl
theorem ef_own_crb41 (m : MethodId) (t : Addr) : entryFrame m #[(.ref t), (.int (1 : Int32)), (.int (4 : Int32))] 5 = mkF m 0 #[.val (.ref t), .val (.int (1 : Int32)), .val (.int (4 : Int32)), .unset, .unset] [] := by first | (simp [entryFrame, mkF, argsToLocals, Value.category, maxLocals]; done) | rfl
theorem ef_own_cor41 (m : MethodId) (t : Addr) : entryFrame m #[(.ref t), (.int (1 : Int32)), (.int (4 : Int32))] 3 = mkF m 0 #[.val (.ref t), .val (.int (1 : Int32)), .val (.int (4 : Int32))] [] := by first | (simp [entryFrame, mkF, argsToLocals, Value.category, maxLocals]; done) | rfl
theorem ef_own_nst41 (m : MethodId) (t : Addr) : entryFrame m #[(.ref t), (.int (1 : Int32)), (.int (3 : Int32))] 3 = mkF m 0 #[.val (.ref t), .val (.int (1 : Int32)), .val (.int (3 : Int32))] [] := by first | (simp [entryFrame, mkF, argsToLocals, Value.category, maxLocals]; done) | rfl
theorem ef_own_crb42 (m : MethodId) (t : Addr) : entryFrame m #[(.ref t), (.int (2 : Int32)), (.int (4 : Int32))] 5 = mkF m 0 #[.val (.ref t), .val (.int (2 : Int32)), .val (.int (4 : Int32)), .unset, .unset] [] := by first | (simp [entryFrame, mkF, argsToLocals, Value.category, maxLocals]; done) | rfl
theorem ef_own_cor42 (m : MethodId) (t : Addr) : entryFrame m #[(.ref t), (.int (2 : Int32)), (.int (4 : Int32))] 3 = mkF m 0 #[.val (.ref t), .val (.int (2 : Int32)), .val (.int (4 : Int32))] [] := by first | (simp [entryFrame, mkF, argsToLocals, Value.category, maxLocals]; done) | rfl
theorem ef_own_nst42 (m : MethodId) (t : Addr) : entryFrame m #[(.ref t), (.int (2 : Int32)), (.int (2 : Int32))] 3 = mkF m 0 #[.val (.ref t), .val (.int (2 : Int32)), .val (.int (2 : Int32))] [] := by first | (simp [entryFrame, mkF, argsToLocals, Value.category, maxLocals]; done) | rfl
theorem ef_own_crb43 (m : MethodId) (t : Addr) : entryFrame m #[(.ref t), (.int (3 : Int32)), (.int (4 : Int32))] 5 = mkF m 0 #[.val (.ref t), .val (.int (3 : Int32)), .val (.int (4 : Int32)), .unset, .unset] [] := by first | (simp [entryFrame, mkF, argsToLocals, Value.category, maxLocals]; done) | rfl
theorem ef_own_cor43 (m : MethodId) (t : Addr) : entryFrame m #[(.ref t), (.int (3 : Int32)), (.int (4 : Int32))] 3 = mkF m 0 #[.val (.ref t), .val (.int (3 : Int32)), .val (.int (4 : Int32))] [] := by first | (simp [entryFrame, mkF, argsToLocals, Value.category, maxLocals]; done) | rfl
theorem ef_own_nst43 (m : MethodId) (t : Addr) : entryFrame m #[(.ref t), (.int (3 : Int32)), (.int (1 : Int32))] 3 = mkF m 0 #[.val (.ref t), .val (.int (3 : Int32)), .val (.int (1 : Int32))] [] := by first | (simp [entryFrame, mkF, argsToLocals, Value.category, maxLocals]; done) | rfl
theorem ef_own_nst44 (m : MethodId) (t : Addr) : entryFrame m #[(.ref t), (.int (4 : Int32)), (.int (0 : Int32))] 3 = mkF m 0 #[.val (.ref t), .val (.int (4 : Int32)), .val (.int (0 : Int32))] [] := by first | (simp [entryFrame, mkF, argsToLocals, Value.category, maxLocals]; done) | rfl
theorem ef_own_crb31 (m : MethodId) (t : Addr) : entryFrame m #[(.ref t), (.int (1 : Int32)), (.int (3 : Int32))] 5 = mkF m 0 #[.val (.ref t), .val (.int (1 : Int32)), .val (.int (3 : Int32)), .unset, .unset] [] := by first | (simp [entryFrame, mkF, argsToLocals, Value.category, maxLocals]; done) | rfl
theorem ef_own_cor31 (m : MethodId) (t : Addr) : entryFrame m #[(.ref t), (.int (1 : Int32)), (.int (3 : Int32))] 3 = mkF m 0 #[.val (.ref t), .val (.int (1 : Int32)), .val (.int (3 : Int32))] [] := by first | (simp [entryFrame, mkF, argsToLocals, Value.category, maxLocals]; done) | rfl
theorem ef_own_nst31 (m : MethodId) (t : Addr) : entryFrame m #[(.ref t), (.int (1 : Int32)), (.int (2 : Int32))] 3 = mkF m 0 #[.val (.ref t), .val (.int (1 : Int32)), .val (.int (2 : Int32))] [] := by first | (simp [entryFrame, mkF, argsToLocals, Value.category, maxLocals]; done) | rfl
theorem ef_own_crb32 (m : MethodId) (t : Addr) : entryFrame m #[(.ref t), (.int (2 : Int32)), (.int (3 : Int32))] 5 = mkF m 0 #[.val (.ref t), .val (.int (2 : Int32)), .val (.int (3 : Int32)), .unset, .unset] [] := by first | (simp [entryFrame, mkF, argsToLocals, Value.category, maxLocals]; done) | rfl
theorem ef_own_cor32 (m : MethodId) (t : Addr) : entryFrame m #[(.ref t), (.int (2 : Int32)), (.int (3 : Int32))] 3 = mkF m 0 #[.val (.ref t), .val (.int (2 : Int32)), .val (.int (3 : Int32))] [] := by first | (simp [entryFrame, mkF, argsToLocals, Value.category, maxLocals]; done) | rfl
theorem ef_own_nst32 (m : MethodId) (t : Addr) : entryFrame m #[(.ref t), (.int (2 : Int32)), (.int (1 : Int32))] 3 = mkF m 0 #[.val (.ref t), .val (.int (2 : Int32)), .val (.int (1 : Int32))] [] := by first | (simp [entryFrame, mkF, argsToLocals, Value.category, maxLocals]; done) | rfl
theorem ef_own_nst33 (m : MethodId) (t : Addr) : entryFrame m #[(.ref t), (.int (3 : Int32)), (.int (0 : Int32))] 3 = mkF m 0 #[.val (.ref t), .val (.int (3 : Int32)), .val (.int (0 : Int32))] [] := by first | (simp [entryFrame, mkF, argsToLocals, Value.category, maxLocals]; done) | rfl
theorem ef_own_crb21 (m : MethodId) (t : Addr) : entryFrame m #[(.ref t), (.int (1 : Int32)), (.int (2 : Int32))] 5 = mkF m 0 #[.val (.ref t), .val (.int (1 : Int32)), .val (.int (2 : Int32)), .unset, .unset] [] := by first | (simp [entryFrame, mkF, argsToLocals, Value.category, maxLocals]; done) | rfl
theorem ef_own_cor21 (m : MethodId) (t : Addr) : entryFrame m #[(.ref t), (.int (1 : Int32)), (.int (2 : Int32))] 3 = mkF m 0 #[.val (.ref t), .val (.int (1 : Int32)), .val (.int (2 : Int32))] [] := by first | (simp [entryFrame, mkF, argsToLocals, Value.category, maxLocals]; done) | rfl
theorem ef_own_nst21 (m : MethodId) (t : Addr) : entryFrame m #[(.ref t), (.int (1 : Int32)), (.int (1 : Int32))] 3 = mkF m 0 #[.val (.ref t), .val (.int (1 : Int32)), .val (.int (1 : Int32))] [] := by first | (simp [entryFrame, mkF, argsToLocals, Value.category, maxLocals]; done) | rfl
theorem ef_own_nst22 (m : MethodId) (t : Addr) : entryFrame m #[(.ref t), (.int (2 : Int32)), (.int (0 : Int32))] 3 = mkF m 0 #[.val (.ref t), .val (.int (2 : Int32)), .val (.int (0 : Int32))] [] := by first | (simp [entryFrame, mkF, argsToLocals, Value.category, maxLocals]; done) | rfl
theorem ef_own_nst11 (m : MethodId) (t : Addr) : entryFrame m #[(.ref t), (.int (1 : Int32)), (.int (0 : Int32))] 3 = mkF m 0 #[.val (.ref t), .val (.int (1 : Int32)), .val (.int (0 : Int32))] [] := by first | (simp [entryFrame, mkF, argsToLocals, Value.category, maxLocals]; done) | rfl
theorem ef_own_sbB (m : MethodId) (x : Addr) (s0 : Int32) (n0 : Int32) : entryFrame m #[(.ref x), (.int s0), (.int n0)] 5 = mkF m 0 #[.val (.ref x), .val (.int s0), .val (.int n0), .unset, .unset] [] := by first | (simp [entryFrame, mkF, argsToLocals, Value.category, maxLocals]; done) | rfl
theorem ef_own_sb (m : MethodId) (x : Addr) (s0 : Int32) : entryFrame m #[(.ref x), (.int s0)] 2 = mkF m 0 #[.val (.ref x), .val (.int s0)] [] := by first | (simp [entryFrame, mkF, argsToLocals, Value.category, maxLocals]; done) | rfl
theorem ef_own_draw (m : MethodId) (x0 : Int32) : entryFrame m #[(.int x0)] 1 = mkF m 0 #[.val (.int x0)] [] := by first | (simp [entryFrame, mkF, argsToLocals, Value.category, maxLocals]; done) | rfl
theorem ef_own_make4 (m : MethodId) (b : Addr) : entryFrame m #[(.int (4 : Int32)), (.ref b)] 2 = mkF m 0 #[.val (.int (4 : Int32)), .val (.ref b)] [] := by first | (simp [entryFrame, mkF, argsToLocals, Value.category, maxLocals]; done) | rfl
theorem ef_own_make3 (m : MethodId) (b : Addr) : entryFrame m #[(.int (3 : Int32)), (.ref b)] 2 = mkF m 0 #[.val (.int (3 : Int32)), .val (.ref b)] [] := by first | (simp [entryFrame, mkF, argsToLocals, Value.category, maxLocals]; done) | rfl
theorem ef_own_make2 (m : MethodId) (b : Addr) : entryFrame m #[(.int (2 : Int32)), (.ref b)] 2 = mkF m 0 #[.val (.int (2 : Int32)), .val (.ref b)] [] := by first | (simp [entryFrame, mkF, argsToLocals, Value.category, maxLocals]; done) | rfl
theorem ef_own_make1 (m : MethodId) (b : Addr) : entryFrame m #[(.int (1 : Int32)), (.ref b)] 2 = mkF m 0 #[.val (.int (1 : Int32)), .val (.ref b)] [] := by first | (simp [entryFrame, mkF, argsToLocals, Value.category, maxLocals]; done) | rfl
theorem ef_own_make0 (m : MethodId) (b : Addr) : entryFrame m #[(.int (0 : Int32)), (.ref b)] 2 = mkF m 0 #[.val (.int (0 : Int32)), .val (.ref b)] [] := by first | (simp [entryFrame, mkF, argsToLocals, Value.category, maxLocals]; done) | rfl
theorem ef_own_record (m : MethodId) (x : Addr) : entryFrame m #[(.ref x)] 1 = mkF m 0 #[.val (.ref x)] [] := by first | (simp [entryFrame, mkF, argsToLocals, Value.category, maxLocals]; done) | rfl
theorem ef_own_pos (m : MethodId) (x : Addr) (l0 : Int32) (c0 : Int32) : entryFrame m #[(.ref x), (.int l0), (.int c0)] 3 = mkF m 0 #[.val (.ref x), .val (.int l0), .val (.int c0)] [] := by first | (simp [entryFrame, mkF, argsToLocals, Value.category, maxLocals]; done) | rfl
theorem ef_own_imp (m : MethodId) (x : Addr) (q : Addr) (a : Addr) : entryFrame m #[(.ref x), (.ref q), (.ref a)] 3 = mkF m 0 #[.val (.ref x), .val (.ref q), .val (.ref a)] [] := by first | (simp [entryFrame, mkF, argsToLocals, Value.category, maxLocals]; done) | rfl
theorem ef_own_sn (m : MethodId) (y : Addr) : entryFrame m #[(.ref y)] 1 = mkF m 0 #[.val (.ref y)] [] := by first | (simp [entryFrame, mkF, argsToLocals, Value.category, maxLocals]; done) | rfl
theorem ef_own_at (m : MethodId) (a : Addr) (j : Int32) (mm : Int32) (b : Addr) (o : Int32) : entryFrame m #[(.ref a), (.int j), (.int mm), (.ref b), (.int o)] 5 = mkF m 0 #[.val (.ref a), .val (.int j), .val (.int mm), .val (.ref b), .val (.int o)] [] := by first | (simp [entryFrame, mkF, argsToLocals, Value.category, maxLocals]; done) | rfl
theorem ef_own_law (m : MethodId) (i0 : Int32) (i1 : Int32) (i2 : Int32) (i3 : Int32) (i4 : Int32) (i5 : Int32) : entryFrame m #[(.int i0), (.int i1), (.int i2), (.int i3), (.int i4), (.int i5)] maxLocals = mkF m 0 #[.val (.int i0), .val (.int i1), .val (.int i2), .val (.int i3), .val (.int i4), .val (.int i5), .unset, .unset, .unset, .unset, .unset, .unset, .unset, .unset] [] := by first | (simp [entryFrame, mkF, argsToLocals, Value.category, maxLocals]; done) | rfl
def own_l1 (d0 : Int32) : Int32 := if d0 = 46 then 0 else -1
def own_l2 (d0 d1 : Int32) : Int32 := if d1 = 46 then 1 else own_l1 d0
def own_l3 (d0 d1 d2 : Int32) : Int32 := if d2 = 46 then 2 else own_l2 d0 d1
def own_l4 (d0 d1 d2 d3 : Int32) : Int32 := if d3 = 46 then 3 else own_l3 d0 d1 d2
theorem own_b46 {d : Int32} (h : ¬ d < 0 ∧ ¬ (255 : Int32) < d) : (d.toInt8.toInt32 = (46 : Int32)) ↔ d = 46 := by
  obtain ⟨k, hk⟩ : ∃ k : Fin 256, d = Int32.ofNat k.val := by
    have h1 := h.1
    have h2 := h.2
    rw [Int32.lt_iff_toInt_lt] at h1 h2
    have e0 : (0 : Int32).toInt = 0 := rfl
    have e1 : (255 : Int32).toInt = 255 := rfl
    refine ⟨⟨d.toInt.toNat, by omega⟩, ?_⟩
    apply Int32.toInt_inj.mp
    show d.toInt = (Int32.ofNat d.toInt.toNat).toInt
    rw [Int32.toInt_ofNat_of_lt (by omega)]
    omega
  subst hk
  have t : ∀ k : Fin 256, (Int32.ofNat k.val).toInt8.toInt32 = (46 : Int32) ↔ Int32.ofNat k.val = 46 := by decide +kernel
  exact t k
def own_last : List Int32 → Int32
  | [] => -1
  | [d0] => own_l1 d0
  | [d0, d1] => own_l2 d0 d1
  | [d0, d1, d2] => own_l3 d0 d1 d2
  | [d0, d1, d2, d3] => own_l4 d0 d1 d2 d3
  | _ => 0
def own_sN : List Int32 → Nat
  | [] => 0
  | [d0] => if d0 = 46 then 1 else 0
  | [d0, d1] => if d1 = 46 then 2 else if d0 = 46 then 1 else 0
  | [d0, d1, d2] => if d2 = 46 then 3 else if d1 = 46 then 2 else if d0 = 46 then 1 else 0
  | [d0, d1, d2, d3] => if d3 = 46 then 4 else if d2 = 46 then 3 else if d1 = 46 then 2 else if d0 = 46 then 1 else 0
  | _ => 0
theorem own_last_s (cs : List Int32) (h : cs.length ≤ 4) : own_last cs + 1 = Int32.ofNat (own_sN cs) ∧ own_sN cs ≤ cs.length := by
  have z0 : Int32.ofNat 0 = 0 := rfl
  have z1 : Int32.ofNat 1 = 1 := rfl
  have z2 : Int32.ofNat 2 = 2 := rfl
  have z3 : Int32.ofNat 3 = 3 := rfl
  have z4 : Int32.ofNat 4 = 4 := rfl
  match cs, h with
  | [], _ => exact ⟨by decide, by decide⟩
  | [d0], _ => by_cases h0 : d0 = 46 <;> simp [own_last, own_sN, own_l1, h0, z0, z1] <;> decide
  | [d0, d1], _ => by_cases h0 : d0 = 46 <;> by_cases h1 : d1 = 46 <;> simp [own_last, own_sN, own_l2, own_l1, h0, h1, z0, z1, z2] <;> decide
  | [d0, d1, d2], _ => by_cases h0 : d0 = 46 <;> by_cases h1 : d1 = 46 <;> by_cases h2 : d2 = 46 <;> simp [own_last, own_sN, own_l3, own_l2, own_l1, h0, h1, h2, z0, z1, z2, z3] <;> decide
  | [d0, d1, d2, d3], _ => by_cases h0 : d0 = 46 <;> by_cases h1 : d1 = 46 <;> by_cases h2 : d2 = 46 <;> by_cases h3 : d3 = 46 <;> simp [own_last, own_sN, own_l4, own_l3, own_l2, own_l1, h0, h1, h2, h3, z0, z1, z2, z3, z4] <;> decide
  | _ :: _ :: _ :: _ :: _ :: _, h => exact absurd h (by simp only [List.length_cons, List.length_nil]; omega)
theorem own_f1 {s : Nat} (h : s ≤ 4) : ¬ Int32.ofNat s < 0 := (by decide +kernel : ∀ k : Fin 5, ¬ Int32.ofNat k.val < 0) ⟨s, by omega⟩
theorem own_f2 {s n : Nat} (h : s ≤ n) (h4 : n ≤ 4) : ¬ Int32.ofNat n < Int32.ofNat s := (by decide +kernel : ∀ j k : Fin 5, j.val ≤ k.val → ¬ Int32.ofNat k.val < Int32.ofNat j.val) ⟨s, by omega⟩ ⟨n, by omega⟩ h
theorem own_f3 {s : Nat} (h : s ≤ 4) (q : Int32.ofNat s = 0) : s = 0 := (by decide +kernel : ∀ k : Fin 5, Int32.ofNat k.val = 0 → k.val = 0) ⟨s, by omega⟩ q
theorem own_f4 {j n : Nat} (hj : j ≤ 4) (h4 : n ≤ 4) (q : Int32.ofNat j < Int32.ofNat n) : j < n := (by decide +kernel : ∀ j k : Fin 5, Int32.ofNat j.val < Int32.ofNat k.val → j.val < k.val) ⟨j, by omega⟩ ⟨n, by omega⟩ q
theorem own_f5 {s n : Nat} (h : s ≤ n) (h4 : n ≤ 4) : Int32.ofNat n - Int32.ofNat s = Int32.ofNat (n - s) := (by decide +kernel : ∀ j k : Fin 5, j.val ≤ k.val → Int32.ofNat k.val - Int32.ofNat j.val = Int32.ofNat (k.val - j.val)) ⟨s, by omega⟩ ⟨n, by omega⟩ h
theorem own_f6 {s j : Nat} (h : s + j < 4) : (¬ (Int32.ofNat s + Int32.ofNat j) < 0 ∧ (Int32.ofNat s + Int32.ofNat j) < (4 : Int32)) ∧ (Int32.ofNat s + Int32.ofNat j).toNatClampNeg = s + j := (by decide +kernel : ∀ j k : Fin 4, j.val + k.val < 4 → (¬ (Int32.ofNat j.val + Int32.ofNat k.val) < 0 ∧ (Int32.ofNat j.val + Int32.ofNat k.val) < (4 : Int32)) ∧ (Int32.ofNat j.val + Int32.ofNat k.val).toNatClampNeg = j.val + k.val) ⟨s, by omega⟩ ⟨j, by omega⟩ h

theorem own_k5 {r : Int32} (h : r = 0 ∨ r = 1 ∨ r = 2 ∨ r = 3 ∨ r = 4) : ∃ k : Nat, k ≤ 4 ∧ r = Int32.ofNat k := by
  rcases h with rfl | rfl | rfl | rfl | rfl
  · exact ⟨0, by decide, rfl⟩
  · exact ⟨1, by decide, rfl⟩
  · exact ⟨2, by decide, rfl⟩
  · exact ⟨3, by decide, rfl⟩
  · exact ⟨4, by decide, rfl⟩
theorem own_e4 {k : Nat} (hk : k ≤ 4) {d0 d1 d2 d3 nn e1 e2 e3 e4 : Int32} (hn : nn = Int32.ofNat k) (h1 : e1 = (if (0 : Int32) < nn then (if d0 = (46 : Int32) then (0 : Int32) else (-1 : Int32)) else (-1 : Int32))) (h2 : e2 = (if (1 : Int32) < nn then (if d1 = (46 : Int32) then (1 : Int32) else e1) else e1)) (h3 : e3 = (if (2 : Int32) < nn then (if d2 = (46 : Int32) then (2 : Int32) else e2) else e2)) (h4 : e4 = (if (3 : Int32) < nn then (if d3 = (46 : Int32) then (3 : Int32) else e3) else e3)) : e4 = own_last (([d0, d1, d2, d3] : List Int32).take k) := by
  have hc : k = 0 ∨ k = 1 ∨ k = 2 ∨ k = 3 ∨ k = 4 := by omega
  rcases hc with rfl | rfl | rfl | rfl | rfl
  · obtain rfl : nn = (0 : Int32) := hn
    subst h1 h2 h3 h4
    first | (simp [own_last]; done) | (simp [own_last] <;> (repeat' split) <;> simp_all)
  · obtain rfl : nn = (1 : Int32) := hn
    subst h1 h2 h3 h4
    first | (simp [own_last, own_l1]; done) | (simp [own_last, own_l1] <;> (repeat' split) <;> simp_all)
  · obtain rfl : nn = (2 : Int32) := hn
    subst h1 h2 h3 h4
    first | (simp [own_last, own_l2, own_l1]; done) | (simp [own_last, own_l2, own_l1] <;> (repeat' split) <;> simp_all)
  · obtain rfl : nn = (3 : Int32) := hn
    subst h1 h2 h3 h4
    first | (simp [own_last, own_l3, own_l2, own_l1]; done) | (simp [own_last, own_l3, own_l2, own_l1] <;> (repeat' split) <;> simp_all)
  · obtain rfl : nn = (4 : Int32) := hn
    subst h1 h2 h3 h4
    first | (simp [own_last, own_l4, own_l3, own_l2, own_l1]; done) | (simp [own_last, own_l4, own_l3, own_l2, own_l1] <;> (repeat' split) <;> simp_all)
theorem own_tk {k : Nat} (hk : k ≤ 4) (d0 d1 d2 d3 : Int32) : (([d0, d1, d2, d3] : List Int32).take k).length = k := by simp; omega
theorem own_H {k s jn : Nat} {d0 d1 d2 d3 o j : Int32} (hk : k ≤ 4) (ho : o = Int32.ofNat s) (hj : j = Int32.ofNat jn) (h : jn < ((([d0, d1, d2, d3] : List Int32).take k).drop s).length) : (¬ (o + j) < 0 ∧ (o + j) < (4 : Int32)) ∧ ([(.int d0), (.int d1), (.int d2), (.int d3)] : List Value).getD (o + j).toNatClampNeg (.int (0 : Int32)) = .int (((([d0, d1, d2, d3] : List Int32).take k).drop s).getD jn 0) := by
  subst ho hj
  have hl : s + jn < k := by simp at h; omega
  obtain ⟨q1, q2⟩ := own_f6 (s := s) (j := jn) (by omega)
  refine ⟨q1, ?_⟩
  rw [q2]
  have e : ((([d0, d1, d2, d3] : List Int32).take k).drop s).getD jn 0 = ([d0, d1, d2, d3] : List Int32).getD (s + jn) 0 := by
    simp only [List.getD_eq_getElem?_getD, List.getElem?_drop, List.getElem?_take]
    rw [if_pos hl]
  rw [e]
  have hq : s + jn < 4 := by omega
  match s + jn, hq with
  | 0, _ => rfl
  | 1, _ => rfl
  | 2, _ => rfl
  | 3, _ => rfl
  | n + 4, h => exact absurd h (by omega)

theorem own_wS {Z : State} {a0 : Array Value} (hw : ∀ d ∈ tables_1, d.before a0 Z = true) : ∀ a ∈ Bundle.stringAtoms, a.before a0 Z = true := fun d hd => hw d ((by decide +kernel : ∀ d ∈ Bundle.stringAtoms, d ∈ tables_1) d hd)
theorem own_ws {Z : State} {a0 : Array Value} (hw : ∀ d ∈ tables_1, d.before a0 Z = true) : ∀ d ∈ StrChars.Road.words, d.before a0 Z = true := fun d hd => hw d ((by decide +kernel : ∀ d ∈ StrChars.Road.words, d ∈ tables_1) d hd)
theorem own_wsLen {Z : State} {a0 : Array Value} (hw : ∀ d ∈ tables_1, d.before a0 Z = true) : ∀ d ∈ StrChars.Road.wordsLen, d.before a0 Z = true := fun d hd => hw d ((by decide +kernel : ∀ d ∈ StrChars.Road.wordsLen, d ∈ tables_1) d hd)
theorem own_wsCh {Z : State} {a0 : Array Value} (hw : ∀ d ∈ tables_1, d.before a0 Z = true) : ∀ d ∈ StrChars.Road.wordsChN, d.before a0 Z = true := fun d hd => hw d ((by decide +kernel : ∀ d ∈ StrChars.Road.wordsChN, d ∈ tables_1) d hd)
set_option maxRecDepth 65536 in
set_option maxHeartbeats 40000000 in
theorem own_isL1 (l : Launch) (Z : State) (a0 : Array Value) (hw : ∀ d ∈ tables_1, d.before a0 Z = true) (h0 : Heap) (hO : Ext Z.heap h0) (x : Addr) (G1 : Int32) (O2 : Sta Z Z.heap "java/lang/String" "COMPACT_STRINGS" "Z" (.int G1)) (P5 : ¬ (G1 = (0 : Int32))) (C_x : Fld Z h0 x "java/lang/String" "coder" "B" (.int (0 : Int32))) :
    CtrN l Z (⟨"java/lang/String", "isLatin1", "()Z"⟩ : MethodName) jdk_42_method_154_code 1 (some .boolean) ({ frames := 0, cells := 0, slots := 0, locals := 0 } : Room) #[(.ref x)] h0 (fun v h' => Keep h0 h' [] ∧ v = some (.int (1 : Int32))) := by
  refine CtrN.of (plainFor_of_name pn_0) hO ?_
  intro p e s m below meth cD_ T0 X0 hsh hby hml hret hlk hnm
  refine Goes.cast (ef_own_isL1 m x) ?_
  show Goes _ _ _ _ T0 (mkF m 0 #[.val (.ref x)] [])
  refine Wk.getS X0 (host := "") (Or.inl (w_67 hw)) Via.refl O2 rfl (hb hby d_jdk_42_method_154_0) ?_
  intro T3 X3
  show Goes _ _ _ _ T3 (mkF m 3 #[.val (.ref x)] [(.int G1)])
  refine Goes.go (fun _ kS_ => XS.ifNo X3.here X3.ex rfl (hb hby d_jdk_42_method_154_3) rfl ((if0 _ _).trans (cd_f (cd := .eq) (x := G1) (y := (0 : Int32)) (P5))) kS_) ?_
  show Goes _ _ _ _ T3 (mkF m 6 #[.val (.ref x)] [])
  refine Goes.go (fun _ kS_ => XS.aloadN X3.here X3.ex rfl (hb hby d_jdk_42_method_154_6) rfl rfl kS_) ?_
  show Goes _ _ _ _ T3 (mkF m 7 #[.val (.ref x)] [(.ref x)])
  refine Wk.getF X3 (host := "") (Or.inl (w_68 hw)) Via.refl C_x rfl rfl (hb hby d_jdk_42_method_154_7) ?_
  intro T4 X4
  show Goes _ _ _ _ T4 (mkF m 10 #[.val (.ref x)] [(.int (0 : Int32))])
  refine Goes.go (fun _ kS_ => XS.ifNo X4.here X4.ex rfl (hb hby d_jdk_42_method_154_10) rfl ((if0 _ _).trans (cd_f (cd := .ne) (x := (0 : Int32)) (y := (0 : Int32)) (by decide))) (XS.iconst X4.here X4.ex rfl (hb hby d_jdk_42_method_154_13) (XS.goto X4.here X4.ex rfl (pc0 := 14) (pc' := 18) rfl (hb hby d_jdk_42_method_154_14) (by decide) (by decide) kS_))) ?_
  show Goes _ _ _ _ T4 (mkF m 18 #[.val (.ref x)] [(.int (1 : Int32))])
  refine Goes.outN X4 (fun q => by rw [hret] at q; cases q) hlk (X4.rB hret (by simp) (hb hby d_jdk_42_method_154_18)) ?_ (by decide) (by decide)
  exact ⟨Ext.oKeepOf X4.ext [], rfl⟩
set_option maxRecDepth 65536 in
set_option maxHeartbeats 40000000 in
theorem own_min (l : Launch) (Z : State) (a0 : Array Value) (hw : ∀ d ∈ tables_1, d.before a0 Z = true) (h0 : Heap) (hO : Ext Z.heap h0) (a : Int32)  :
    CtrN l Z (⟨"java/lang/Math", "min", "(II)I"⟩ : MethodName) jdk_29_method_69_code 2 (some .int) ({ frames := 0, cells := 0, slots := 0, locals := 0 } : Room) #[(.int a), (.int a)] h0 (fun v h' => Keep h0 h' [] ∧ v = some (.int a)) := by
  refine CtrN.of (by decide +kernel) hO ?_
  intro p e s m below meth cD_ T0 X0 hsh hby hml hret hlk hnm
  refine Goes.cast (ef_own_min m a) ?_
  show Goes _ _ _ _ T0 (mkF m 0 #[.val (.int a), .val (.int a)] [])
  refine Goes.go (fun _ kS_ => XS.iloadN X0.here X0.ex rfl (hb hby d_jdk_29_method_69_0) rfl (XS.iloadN X0.here X0.ex rfl (hb hby d_jdk_29_method_69_1) rfl kS_)) ?_
  show Goes _ _ _ _ T0 (mkF m 2 #[.val (.int a), .val (.int a)] [(.int a), (.int a)])
  refine Goes.go (fun _ kS_ => XS.icmpNo X0.here X0.ex rfl (hb hby d_jdk_29_method_69_2) rfl (cd_f (cd := .gt) (x := a) (y := a) (Int32.lt_irrefl)) kS_) ?_
  show Goes _ _ _ _ T0 (mkF m 5 #[.val (.int a), .val (.int a)] [])
  refine Goes.go (fun _ kS_ => XS.iloadN X0.here X0.ex rfl (hb hby d_jdk_29_method_69_5) rfl (XS.goto X0.here X0.ex rfl (pc0 := 6) (pc' := 10) rfl (hb hby d_jdk_29_method_69_6) (by decide) (by decide) kS_)) ?_
  show Goes _ _ _ _ T0 (mkF m 10 #[.val (.int a), .val (.int a)] [(.int a)])
  refine Goes.outN X0 (fun q => by rw [hret] at q; cases q) hlk (X0.rI hret (hb hby d_jdk_29_method_69_10)) ?_ (by decide) (by decide)
  exact ⟨Ext.oKeepOf X0.ext [], rfl⟩
set_option maxRecDepth 65536 in
set_option maxHeartbeats 40000000 in
theorem own_canI (l : Launch) (Z : State) (a0 : Array Value) (hw : ∀ d ∈ tables_1, d.before a0 Z = true) (h0 : Heap) (hO : Ext Z.heap h0)   :
    CtrN l Z (⟨"java/lang/StringLatin1", "canEncode", "(I)Z"⟩ : MethodName) jdk_43_method_4_code 1 (some .boolean) ({ frames := 0, cells := 0, slots := 0, locals := 0 } : Room) #[(.int (46 : Int32))] h0 (fun v h' => Keep h0 h' [] ∧ v = some (.int (1 : Int32))) := by
  refine CtrN.of (plainFor_of_name pn_1) hO ?_
  intro p e s m below meth cD_ T0 X0 hsh hby hml hret hlk hnm
  refine Goes.cast (ef_own_canI m ) ?_
  show Goes _ _ _ _ T0 (mkF m 0 #[.val (.int (46 : Int32))] [])
  refine Goes.go (fun _ kS_ => XS.iloadN X0.here X0.ex rfl (hb hby d_jdk_43_method_4_0) rfl (XS.ifNo X0.here X0.ex rfl (hb hby d_jdk_43_method_4_1) rfl ((if0 _ _).trans (cd_f (cd := .lt) (x := (46 : Int32)) (y := (0 : Int32)) (by decide))) (XS.iloadN X0.here X0.ex rfl (hb hby d_jdk_43_method_4_4) rfl (XS.sipush X0.here X0.ex rfl (hb hby d_jdk_43_method_4_5) (XS.icmpNo X0.here X0.ex rfl (hb hby d_jdk_43_method_4_8) rfl (cd_f (cd := .gt) (x := (46 : Int32)) (y := (255 : Int32)) (by decide)) (XS.iconst X0.here X0.ex rfl (hb hby d_jdk_43_method_4_11) kS_)))))) ?_
  show Goes _ _ _ _ T0 (mkF m 12 #[.val (.int (46 : Int32))] [(.int (1 : Int32))])
  refine Goes.go (fun _ kS_ => XS.goto X0.here X0.ex rfl (pc0 := 12) (pc' := 16) rfl (hb hby d_jdk_43_method_4_12) (by decide) (by decide) kS_) ?_
  show Goes _ _ _ _ T0 (mkF m 16 #[.val (.int (46 : Int32))] [(.int (1 : Int32))])
  refine Goes.outN X0 (fun q => by rw [hret] at q; cases q) hlk (X0.rB hret (by simp) (hb hby d_jdk_43_method_4_16)) ?_ (by decide) (by decide)
  exact ⟨Ext.oKeepOf X0.ext [], rfl⟩
set_option maxRecDepth 65536 in
set_option maxHeartbeats 40000000 in
theorem own_lioA0 (l : Launch) (Z : State) (a0 : Array Value) (hw : ∀ d ∈ tables_1, d.before a0 Z = true) (h0 : Heap) (hO : Ext Z.heap h0) (t : Addr) (kb : ClassId) (V_t : Arv Z h0 t kb .byte (0 : Int32) [] (.int (0 : Int32)))  :
    CtrN l Z (⟨"java/lang/StringLatin1", "lastIndexOf", "([BII)I"⟩ : MethodName) jdk_43_method_27_code 4 (some .int) ({ frames := 1, cells := 0, slots := 0, locals := 13 } : Room) #[(.ref t), (.int (46 : Int32)), (.int (-1 : Int32))] h0 (fun v h' => Keep h0 h' [] ∧ v = some (.int (-1 : Int32))) := by
  refine CtrN.of (plainFor_of_name pn_1) hO ?_
  intro p e s m below meth cD_ T0 X0 hsh hby hml hret hlk hnm
  refine Goes.cast (ef_own_lioA0 m t) ?_
  show Goes _ _ _ _ T0 (mkF m 0 #[.val (.ref t), .val (.int (46 : Int32)), .val (.int (-1 : Int32)), .unset] [])
  refine Goes.go (fun _ kS_ => XS.iloadN X0.here X0.ex rfl (hb hby d_jdk_43_method_27_0) rfl kS_) ?_
  show Goes _ _ _ _ T0 (mkF m 1 #[.val (.ref t), .val (.int (46 : Int32)), .val (.int (-1 : Int32)), .unset] [(.int (46 : Int32))])
  refine Wk.static (hm' := fun _ => h0) (y := (⟨"java/lang/StringLatin1", "canEncode", "(I)Z"⟩ : MethodName)) (W := 0) (kc := 0) (ks := 0) (argsL := [(.int (46 : Int32))]) (rest := []) (as' := #[(.int (46 : Int32))]) (ws := []) X0 (w_83 hw) (w_84 hw) (w_81 hw) (w_85 hw) (by decide) (CtrN.pays (own_canI l Z a0 hw h0 X0.old ) (w_85 hw) (w_81 hw) (by decide) (by decide)) (fun v h' L q => ⟨q.2, q.1.1⟩) all0 (fun _ => Mark.stay all0) rfl (by rw [hml]; rfl) (lenOf pd_0 rfl) rfl rfl (by show 2 * 0 + _ ≤ _; exact Nat.le_of_eq rfl) (hb hby d_jdk_43_method_27_1) (by decide) (by decide) ?_
  intro T7 h7 v7 L7 X7 q7 K7
  obtain ⟨⟨-, rfl⟩, -⟩ := q7
  replace V_t := V_t.ext K7.oExt
  show Goes _ _ _ _ T7 (mkF m 4 #[.val (.ref t), .val (.int (46 : Int32)), .val (.int (-1 : Int32)), .unset] [(.int (1 : Int32))])
  refine Goes.go (fun _ kS_ => XS.ifYes X7.here X7.ex rfl (pc0 := 4) (pc' := 9) rfl (hb hby d_jdk_43_method_27_4) rfl ((if0 _ _).trans (cd_t (cd := .ne) (x := (1 : Int32)) (y := (0 : Int32)) (by decide))) (by decide) (by decide) (XS.iloadN X7.here X7.ex rfl (hb hby d_jdk_43_method_27_9) rfl (XS.aloadN X7.here X7.ex rfl (hb hby d_jdk_43_method_27_10) rfl rfl kS_))) ?_
  show Goes _ _ _ _ T7 (mkF m 11 #[.val (.ref t), .val (.int (46 : Int32)), .val (.int (-1 : Int32)), .unset] [(.ref t), (.int (-1 : Int32))])
  refine Goes.go (X7.alen V_t rfl rfl (hb hby d_jdk_43_method_27_11)) ?_
  show Goes _ _ _ _ T7 (mkF m 12 #[.val (.ref t), .val (.int (46 : Int32)), .val (.int (-1 : Int32)), .unset] [(.int (0 : Int32)), (.int (-1 : Int32))])
  refine Goes.go (fun _ kS_ => XS.iconst X7.here X7.ex rfl (hb hby d_jdk_43_method_27_12) (XS.isub X7.here X7.ex rfl (hb hby d_jdk_43_method_27_13) rfl kS_)) ?_
  show Goes _ _ _ _ T7 (mkF m 14 #[.val (.ref t), .val (.int (46 : Int32)), .val (.int (-1 : Int32)), .unset] [(.int ((0 : Int32) - (1 : Int32))), (.int (-1 : Int32))])
  refine Goes.cast (congrArg (fun zq_ => (mkF m 14 #[.val (.ref t), .val (.int (46 : Int32)), .val (.int (-1 : Int32)), .unset] [(.int zq_), (.int (-1 : Int32))])) (show (((0 : Int32) - (1 : Int32)) : Int32) = (-1 : Int32) from by decide)) ?_
  show Goes _ _ _ _ T7 (mkF m 14 #[.val (.ref t), .val (.int (46 : Int32)), .val (.int (-1 : Int32)), .unset] [(.int (-1 : Int32)), (.int (-1 : Int32))])
  refine Wk.static (hm' := fun _ => h0) (y := (⟨"java/lang/Math", "min", "(II)I"⟩ : MethodName)) (W := 0) (kc := 0) (ks := 0) (argsL := [(.int (-1 : Int32)), (.int (-1 : Int32))]) (rest := []) (as' := #[(.int (-1 : Int32)), (.int (-1 : Int32))]) (ws := []) X7 (w_86 hw) (w_87 hw) (w_88 hw) (w_89 hw) (by decide) (CtrN.pays (own_min l Z a0 hw h7 X7.old (-1 : Int32)) (w_89 hw) (w_88 hw) (by decide) (by decide)) (fun v h' L q => ⟨q.2, q.1.1⟩) all0 (fun _ => Mark.stay all0) rfl (by rw [hml]; rfl) (lenOf pd_1 rfl) rfl rfl (by show 2 * 0 + _ ≤ _; exact Nat.le_of_eq rfl) (hb hby d_jdk_43_method_27_14) (by decide) (by decide) ?_
  intro T8 h8 v8 L8 X8 q8 K8
  obtain ⟨⟨-, rfl⟩, -⟩ := q8
  replace V_t := V_t.ext K8.oExt
  show Goes _ _ _ _ T8 (mkF m 17 #[.val (.ref t), .val (.int (46 : Int32)), .val (.int (-1 : Int32)), .unset] [(.int (-1 : Int32))])
  refine Goes.go (fun _ kS_ => XS.istoreN X8.here X8.ex rfl (hb hby d_jdk_43_method_27_17) rfl (l' := #[.val (.ref t), .val (.int (46 : Int32)), .val (.int (-1 : Int32)), .val (.int (-1 : Int32))]) rfl (XS.iloadN X8.here X8.ex rfl (hb hby d_jdk_43_method_27_18) rfl (XS.ifYes X8.here X8.ex rfl (pc0 := 19) (pc' := 38) rfl (hb hby d_jdk_43_method_27_19) rfl ((if0 _ _).trans (cd_t (cd := .lt) (x := (-1 : Int32)) (y := (0 : Int32)) (by decide))) (by decide) (by decide) (XS.iconst X8.here X8.ex rfl (hb hby d_jdk_43_method_27_38) kS_)))) ?_
  show Goes _ _ _ _ T8 (mkF m 39 #[.val (.ref t), .val (.int (46 : Int32)), .val (.int (-1 : Int32)), .val (.int (-1 : Int32))] [(.int (-1 : Int32))])
  refine Goes.outN X8 (fun q => by rw [hret] at q; cases q) hlk (X8.rI hret (hb hby d_jdk_43_method_27_39)) ?_ (by decide) (by decide)
  exact ⟨Ext.oKeepOf X8.ext [], rfl⟩
set_option maxRecDepth 65536 in
set_option maxHeartbeats 40000000 in
theorem own_lioA1 (l : Launch) (Z : State) (a0 : Array Value) (hw : ∀ d ∈ tables_1, d.before a0 Z = true) (h0 : Heap) (hO : Ext Z.heap h0) (t : Addr) (kb : ClassId) (d0 : Int32) (V_t : Arv Z h0 t kb .byte (1 : Int32) [(.int (d0.toInt8.toInt32))] (.int (0 : Int32))) (b0 : ¬ d0 < 0 ∧ ¬ (255 : Int32) < d0) :
    CtrN l Z (⟨"java/lang/StringLatin1", "lastIndexOf", "([BII)I"⟩ : MethodName) jdk_43_method_27_code 4 (some .int) ({ frames := 1, cells := 0, slots := 0, locals := 13 } : Room) #[(.ref t), (.int (46 : Int32)), (.int (0 : Int32))] h0 (fun v h' => Keep h0 h' [] ∧ v = some (.int (own_l1 d0))) := by
  refine CtrN.of (plainFor_of_name pn_1) hO ?_
  intro p e s m below meth cD_ T0 X0 hsh hby hml hret hlk hnm
  refine Goes.cast (ef_own_lioA1 m t) ?_
  show Goes _ _ _ _ T0 (mkF m 0 #[.val (.ref t), .val (.int (46 : Int32)), .val (.int (0 : Int32)), .unset] [])
  refine Goes.go (fun _ kS_ => XS.iloadN X0.here X0.ex rfl (hb hby d_jdk_43_method_27_0) rfl kS_) ?_
  show Goes _ _ _ _ T0 (mkF m 1 #[.val (.ref t), .val (.int (46 : Int32)), .val (.int (0 : Int32)), .unset] [(.int (46 : Int32))])
  refine Wk.static (hm' := fun _ => h0) (y := (⟨"java/lang/StringLatin1", "canEncode", "(I)Z"⟩ : MethodName)) (W := 0) (kc := 0) (ks := 0) (argsL := [(.int (46 : Int32))]) (rest := []) (as' := #[(.int (46 : Int32))]) (ws := []) X0 (w_83 hw) (w_84 hw) (w_81 hw) (w_85 hw) (by decide) (CtrN.pays (own_canI l Z a0 hw h0 X0.old ) (w_85 hw) (w_81 hw) (by decide) (by decide)) (fun v h' L q => ⟨q.2, q.1.1⟩) all0 (fun _ => Mark.stay all0) rfl (by rw [hml]; rfl) (lenOf pd_0 rfl) rfl rfl (by show 2 * 0 + _ ≤ _; exact Nat.le_of_eq rfl) (hb hby d_jdk_43_method_27_1) (by decide) (by decide) ?_
  intro T11 h11 v11 L11 X11 q11 K11
  obtain ⟨⟨-, rfl⟩, -⟩ := q11
  replace V_t := V_t.ext K11.oExt
  show Goes _ _ _ _ T11 (mkF m 4 #[.val (.ref t), .val (.int (46 : Int32)), .val (.int (0 : Int32)), .unset] [(.int (1 : Int32))])
  refine Goes.go (fun _ kS_ => XS.ifYes X11.here X11.ex rfl (pc0 := 4) (pc' := 9) rfl (hb hby d_jdk_43_method_27_4) rfl ((if0 _ _).trans (cd_t (cd := .ne) (x := (1 : Int32)) (y := (0 : Int32)) (by decide))) (by decide) (by decide) (XS.iloadN X11.here X11.ex rfl (hb hby d_jdk_43_method_27_9) rfl (XS.aloadN X11.here X11.ex rfl (hb hby d_jdk_43_method_27_10) rfl rfl kS_))) ?_
  show Goes _ _ _ _ T11 (mkF m 11 #[.val (.ref t), .val (.int (46 : Int32)), .val (.int (0 : Int32)), .unset] [(.ref t), (.int (0 : Int32))])
  refine Goes.go (X11.alen V_t rfl rfl (hb hby d_jdk_43_method_27_11)) ?_
  show Goes _ _ _ _ T11 (mkF m 12 #[.val (.ref t), .val (.int (46 : Int32)), .val (.int (0 : Int32)), .unset] [(.int (1 : Int32)), (.int (0 : Int32))])
  refine Goes.go (fun _ kS_ => XS.iconst X11.here X11.ex rfl (hb hby d_jdk_43_method_27_12) (XS.isub X11.here X11.ex rfl (hb hby d_jdk_43_method_27_13) rfl kS_)) ?_
  show Goes _ _ _ _ T11 (mkF m 14 #[.val (.ref t), .val (.int (46 : Int32)), .val (.int (0 : Int32)), .unset] [(.int ((1 : Int32) - (1 : Int32))), (.int (0 : Int32))])
  refine Goes.cast (congrArg (fun zq_ => (mkF m 14 #[.val (.ref t), .val (.int (46 : Int32)), .val (.int (0 : Int32)), .unset] [(.int zq_), (.int (0 : Int32))])) (show (((1 : Int32) - (1 : Int32)) : Int32) = (0 : Int32) from by decide)) ?_
  show Goes _ _ _ _ T11 (mkF m 14 #[.val (.ref t), .val (.int (46 : Int32)), .val (.int (0 : Int32)), .unset] [(.int (0 : Int32)), (.int (0 : Int32))])
  refine Wk.static (hm' := fun _ => h0) (y := (⟨"java/lang/Math", "min", "(II)I"⟩ : MethodName)) (W := 0) (kc := 0) (ks := 0) (argsL := [(.int (0 : Int32)), (.int (0 : Int32))]) (rest := []) (as' := #[(.int (0 : Int32)), (.int (0 : Int32))]) (ws := []) X11 (w_86 hw) (w_87 hw) (w_88 hw) (w_89 hw) (by decide) (CtrN.pays (own_min l Z a0 hw h11 X11.old (0 : Int32)) (w_89 hw) (w_88 hw) (by decide) (by decide)) (fun v h' L q => ⟨q.2, q.1.1⟩) all0 (fun _ => Mark.stay all0) rfl (by rw [hml]; rfl) (lenOf pd_1 rfl) rfl rfl (by show 2 * 0 + _ ≤ _; exact Nat.le_of_eq rfl) (hb hby d_jdk_43_method_27_14) (by decide) (by decide) ?_
  intro T12 h12 v12 L12 X12 q12 K12
  obtain ⟨⟨-, rfl⟩, -⟩ := q12
  replace V_t := V_t.ext K12.oExt
  show Goes _ _ _ _ T12 (mkF m 17 #[.val (.ref t), .val (.int (46 : Int32)), .val (.int (0 : Int32)), .unset] [(.int (0 : Int32))])
  refine Goes.go (fun _ kS_ => XS.istoreN X12.here X12.ex rfl (hb hby d_jdk_43_method_27_17) rfl (l' := #[.val (.ref t), .val (.int (46 : Int32)), .val (.int (0 : Int32)), .val (.int (0 : Int32))]) rfl (XS.iloadN X12.here X12.ex rfl (hb hby d_jdk_43_method_27_18) rfl (XS.ifNo X12.here X12.ex rfl (hb hby d_jdk_43_method_27_19) rfl ((if0 _ _).trans (cd_f (cd := .lt) (x := (0 : Int32)) (y := (0 : Int32)) (by decide))) (XS.aloadN X12.here X12.ex rfl (hb hby d_jdk_43_method_27_22) rfl rfl (XS.iloadN X12.here X12.ex rfl (hb hby d_jdk_43_method_27_23) rfl kS_))))) ?_
  show Goes _ _ _ _ T12 (mkF m 24 #[.val (.ref t), .val (.int (46 : Int32)), .val (.int (0 : Int32)), .val (.int (0 : Int32))] [(.int (0 : Int32)), (.ref t)])
  refine Goes.go (X12.baload V_t ⟨by decide, by decide⟩ (v := .int (d0.toInt8.toInt32)) rfl rfl rfl (hb hby d_jdk_43_method_27_24)) ?_
  show Goes _ _ _ _ T12 (mkF m 25 #[.val (.ref t), .val (.int (46 : Int32)), .val (.int (0 : Int32)), .val (.int (0 : Int32))] [(.int (d0.toInt8.toInt32))])
  refine Goes.go (fun _ kS_ => XS.iloadN X12.here X12.ex rfl (hb hby d_jdk_43_method_27_25) rfl (XS.i2b X12.here X12.ex rfl (hb hby d_jdk_43_method_27_26) rfl kS_)) ?_
  show Goes _ _ _ _ T12 (mkF m 27 #[.val (.ref t), .val (.int (46 : Int32)), .val (.int (0 : Int32)), .val (.int (0 : Int32))] [(.int ((46 : Int32).toInt8.toInt32)), (.int (d0.toInt8.toInt32))])
  refine Goes.cast (congrArg (fun zq_ => (mkF m 27 #[.val (.ref t), .val (.int (46 : Int32)), .val (.int (0 : Int32)), .val (.int (0 : Int32))] [(.int zq_), (.int (d0.toInt8.toInt32))])) (show (((46 : Int32).toInt8.toInt32) : Int32) = (46 : Int32) from by decide)) ?_
  show Goes _ _ _ _ T12 (mkF m 27 #[.val (.ref t), .val (.int (46 : Int32)), .val (.int (0 : Int32)), .val (.int (0 : Int32))] [(.int (46 : Int32)), (.int (d0.toInt8.toInt32))])
  refine Goes.icmp (pc' := 32) X12.here X12.ex (hb hby d_jdk_43_method_27_27) (by decide) (by decide) (fun hk0 => ?_) (fun hk0 => ?_)
  · have hk0 : ¬ ((d0.toInt8.toInt32) = (46 : Int32)) := hk0
    show Goes _ _ _ _ T12 (mkF m 32 #[.val (.ref t), .val (.int (46 : Int32)), .val (.int (0 : Int32)), .val (.int (0 : Int32))] [])
    rw [own_b46 b0] at hk0
    refine Goes.go (fun _ kS_ => XS.iinc X12.here X12.ex rfl (hb hby d_jdk_43_method_27_32) rfl (l' := #[.val (.ref t), .val (.int (46 : Int32)), .val (.int (0 : Int32)), .val (.int ((0 : Int32) + (-1 : Int32)))]) rfl kS_) ?_
    show Goes _ _ _ _ T12 (mkF m 35 #[.val (.ref t), .val (.int (46 : Int32)), .val (.int (0 : Int32)), .val (.int ((0 : Int32) + (-1 : Int32)))] [])
    refine Goes.cast (congrArg (fun zq_ => (mkF m 35 #[.val (.ref t), .val (.int (46 : Int32)), .val (.int (0 : Int32)), .val (.int zq_)] [])) (show (((0 : Int32) + (-1 : Int32)) : Int32) = (-1 : Int32) from by decide)) ?_
    show Goes _ _ _ _ T12 (mkF m 35 #[.val (.ref t), .val (.int (46 : Int32)), .val (.int (0 : Int32)), .val (.int (-1 : Int32))] [])
    refine Goes.go (fun _ kS_ => XS.goto X12.here X12.ex rfl (pc0 := 35) (pc' := 18) rfl (hb hby d_jdk_43_method_27_35) (by decide) (by decide) (XS.iloadN X12.here X12.ex rfl (hb hby d_jdk_43_method_27_18) rfl (XS.ifYes X12.here X12.ex rfl (pc0 := 19) (pc' := 38) rfl (hb hby d_jdk_43_method_27_19) rfl ((if0 _ _).trans (cd_t (cd := .lt) (x := (-1 : Int32)) (y := (0 : Int32)) (by decide))) (by decide) (by decide) (XS.iconst X12.here X12.ex rfl (hb hby d_jdk_43_method_27_38) kS_)))) ?_
    show Goes _ _ _ _ T12 (mkF m 39 #[.val (.ref t), .val (.int (46 : Int32)), .val (.int (0 : Int32)), .val (.int (-1 : Int32))] [(.int (-1 : Int32))])
    refine Goes.outN X12 (fun q => by rw [hret] at q; cases q) hlk (X12.rI hret (hb hby d_jdk_43_method_27_39)) ?_ (by decide) (by decide)
    exact ⟨Ext.oKeepOf X12.ext [], by rw [own_l1, if_neg hk0]⟩
  · have hk0 : (d0.toInt8.toInt32) = (46 : Int32) := Classical.not_not.mp hk0
    show Goes _ _ _ _ T12 (mkF m 30 #[.val (.ref t), .val (.int (46 : Int32)), .val (.int (0 : Int32)), .val (.int (0 : Int32))] [])
    rw [own_b46 b0] at hk0
    refine Goes.go (fun _ kS_ => XS.iloadN X12.here X12.ex rfl (hb hby d_jdk_43_method_27_30) rfl kS_) ?_
    show Goes _ _ _ _ T12 (mkF m 31 #[.val (.ref t), .val (.int (46 : Int32)), .val (.int (0 : Int32)), .val (.int (0 : Int32))] [(.int (0 : Int32))])
    refine Goes.outN X12 (fun q => by rw [hret] at q; cases q) hlk (X12.rI hret (hb hby d_jdk_43_method_27_31)) ?_ (by decide) (by decide)
    exact ⟨Ext.oKeepOf X12.ext [], by rw [own_l1, if_pos hk0]⟩
set_option maxRecDepth 65536 in
set_option maxHeartbeats 40000000 in
theorem own_lioA2 (l : Launch) (Z : State) (a0 : Array Value) (hw : ∀ d ∈ tables_1, d.before a0 Z = true) (h0 : Heap) (hO : Ext Z.heap h0) (t : Addr) (kb : ClassId) (d0 : Int32) (d1 : Int32) (V_t : Arv Z h0 t kb .byte (2 : Int32) [(.int (d0.toInt8.toInt32)), (.int (d1.toInt8.toInt32))] (.int (0 : Int32))) (b0 : ¬ d0 < 0 ∧ ¬ (255 : Int32) < d0) (b1 : ¬ d1 < 0 ∧ ¬ (255 : Int32) < d1) :
    CtrN l Z (⟨"java/lang/StringLatin1", "lastIndexOf", "([BII)I"⟩ : MethodName) jdk_43_method_27_code 4 (some .int) ({ frames := 1, cells := 0, slots := 0, locals := 13 } : Room) #[(.ref t), (.int (46 : Int32)), (.int (1 : Int32))] h0 (fun v h' => Keep h0 h' [] ∧ v = some (.int (own_l2 d0 d1))) := by
  refine CtrN.of (plainFor_of_name pn_1) hO ?_
  intro p e s m below meth cD_ T0 X0 hsh hby hml hret hlk hnm
  refine Goes.cast (ef_own_lioA2 m t) ?_
  show Goes _ _ _ _ T0 (mkF m 0 #[.val (.ref t), .val (.int (46 : Int32)), .val (.int (1 : Int32)), .unset] [])
  refine Goes.go (fun _ kS_ => XS.iloadN X0.here X0.ex rfl (hb hby d_jdk_43_method_27_0) rfl kS_) ?_
  show Goes _ _ _ _ T0 (mkF m 1 #[.val (.ref t), .val (.int (46 : Int32)), .val (.int (1 : Int32)), .unset] [(.int (46 : Int32))])
  refine Wk.static (hm' := fun _ => h0) (y := (⟨"java/lang/StringLatin1", "canEncode", "(I)Z"⟩ : MethodName)) (W := 0) (kc := 0) (ks := 0) (argsL := [(.int (46 : Int32))]) (rest := []) (as' := #[(.int (46 : Int32))]) (ws := []) X0 (w_83 hw) (w_84 hw) (w_81 hw) (w_85 hw) (by decide) (CtrN.pays (own_canI l Z a0 hw h0 X0.old ) (w_85 hw) (w_81 hw) (by decide) (by decide)) (fun v h' L q => ⟨q.2, q.1.1⟩) all0 (fun _ => Mark.stay all0) rfl (by rw [hml]; rfl) (lenOf pd_0 rfl) rfl rfl (by show 2 * 0 + _ ≤ _; exact Nat.le_of_eq rfl) (hb hby d_jdk_43_method_27_1) (by decide) (by decide) ?_
  intro T15 h15 v15 L15 X15 q15 K15
  obtain ⟨⟨-, rfl⟩, -⟩ := q15
  replace V_t := V_t.ext K15.oExt
  show Goes _ _ _ _ T15 (mkF m 4 #[.val (.ref t), .val (.int (46 : Int32)), .val (.int (1 : Int32)), .unset] [(.int (1 : Int32))])
  refine Goes.go (fun _ kS_ => XS.ifYes X15.here X15.ex rfl (pc0 := 4) (pc' := 9) rfl (hb hby d_jdk_43_method_27_4) rfl ((if0 _ _).trans (cd_t (cd := .ne) (x := (1 : Int32)) (y := (0 : Int32)) (by decide))) (by decide) (by decide) (XS.iloadN X15.here X15.ex rfl (hb hby d_jdk_43_method_27_9) rfl (XS.aloadN X15.here X15.ex rfl (hb hby d_jdk_43_method_27_10) rfl rfl kS_))) ?_
  show Goes _ _ _ _ T15 (mkF m 11 #[.val (.ref t), .val (.int (46 : Int32)), .val (.int (1 : Int32)), .unset] [(.ref t), (.int (1 : Int32))])
  refine Goes.go (X15.alen V_t rfl rfl (hb hby d_jdk_43_method_27_11)) ?_
  show Goes _ _ _ _ T15 (mkF m 12 #[.val (.ref t), .val (.int (46 : Int32)), .val (.int (1 : Int32)), .unset] [(.int (2 : Int32)), (.int (1 : Int32))])
  refine Goes.go (fun _ kS_ => XS.iconst X15.here X15.ex rfl (hb hby d_jdk_43_method_27_12) (XS.isub X15.here X15.ex rfl (hb hby d_jdk_43_method_27_13) rfl kS_)) ?_
  show Goes _ _ _ _ T15 (mkF m 14 #[.val (.ref t), .val (.int (46 : Int32)), .val (.int (1 : Int32)), .unset] [(.int ((2 : Int32) - (1 : Int32))), (.int (1 : Int32))])
  refine Goes.cast (congrArg (fun zq_ => (mkF m 14 #[.val (.ref t), .val (.int (46 : Int32)), .val (.int (1 : Int32)), .unset] [(.int zq_), (.int (1 : Int32))])) (show (((2 : Int32) - (1 : Int32)) : Int32) = (1 : Int32) from by decide)) ?_
  show Goes _ _ _ _ T15 (mkF m 14 #[.val (.ref t), .val (.int (46 : Int32)), .val (.int (1 : Int32)), .unset] [(.int (1 : Int32)), (.int (1 : Int32))])
  refine Wk.static (hm' := fun _ => h0) (y := (⟨"java/lang/Math", "min", "(II)I"⟩ : MethodName)) (W := 0) (kc := 0) (ks := 0) (argsL := [(.int (1 : Int32)), (.int (1 : Int32))]) (rest := []) (as' := #[(.int (1 : Int32)), (.int (1 : Int32))]) (ws := []) X15 (w_86 hw) (w_87 hw) (w_88 hw) (w_89 hw) (by decide) (CtrN.pays (own_min l Z a0 hw h15 X15.old (1 : Int32)) (w_89 hw) (w_88 hw) (by decide) (by decide)) (fun v h' L q => ⟨q.2, q.1.1⟩) all0 (fun _ => Mark.stay all0) rfl (by rw [hml]; rfl) (lenOf pd_1 rfl) rfl rfl (by show 2 * 0 + _ ≤ _; exact Nat.le_of_eq rfl) (hb hby d_jdk_43_method_27_14) (by decide) (by decide) ?_
  intro T16 h16 v16 L16 X16 q16 K16
  obtain ⟨⟨-, rfl⟩, -⟩ := q16
  replace V_t := V_t.ext K16.oExt
  show Goes _ _ _ _ T16 (mkF m 17 #[.val (.ref t), .val (.int (46 : Int32)), .val (.int (1 : Int32)), .unset] [(.int (1 : Int32))])
  refine Goes.go (fun _ kS_ => XS.istoreN X16.here X16.ex rfl (hb hby d_jdk_43_method_27_17) rfl (l' := #[.val (.ref t), .val (.int (46 : Int32)), .val (.int (1 : Int32)), .val (.int (1 : Int32))]) rfl (XS.iloadN X16.here X16.ex rfl (hb hby d_jdk_43_method_27_18) rfl (XS.ifNo X16.here X16.ex rfl (hb hby d_jdk_43_method_27_19) rfl ((if0 _ _).trans (cd_f (cd := .lt) (x := (1 : Int32)) (y := (0 : Int32)) (by decide))) (XS.aloadN X16.here X16.ex rfl (hb hby d_jdk_43_method_27_22) rfl rfl (XS.iloadN X16.here X16.ex rfl (hb hby d_jdk_43_method_27_23) rfl kS_))))) ?_
  show Goes _ _ _ _ T16 (mkF m 24 #[.val (.ref t), .val (.int (46 : Int32)), .val (.int (1 : Int32)), .val (.int (1 : Int32))] [(.int (1 : Int32)), (.ref t)])
  refine Goes.go (X16.baload V_t ⟨by decide, by decide⟩ (v := .int (d1.toInt8.toInt32)) rfl rfl rfl (hb hby d_jdk_43_method_27_24)) ?_
  show Goes _ _ _ _ T16 (mkF m 25 #[.val (.ref t), .val (.int (46 : Int32)), .val (.int (1 : Int32)), .val (.int (1 : Int32))] [(.int (d1.toInt8.toInt32))])
  refine Goes.go (fun _ kS_ => XS.iloadN X16.here X16.ex rfl (hb hby d_jdk_43_method_27_25) rfl (XS.i2b X16.here X16.ex rfl (hb hby d_jdk_43_method_27_26) rfl kS_)) ?_
  show Goes _ _ _ _ T16 (mkF m 27 #[.val (.ref t), .val (.int (46 : Int32)), .val (.int (1 : Int32)), .val (.int (1 : Int32))] [(.int ((46 : Int32).toInt8.toInt32)), (.int (d1.toInt8.toInt32))])
  refine Goes.cast (congrArg (fun zq_ => (mkF m 27 #[.val (.ref t), .val (.int (46 : Int32)), .val (.int (1 : Int32)), .val (.int (1 : Int32))] [(.int zq_), (.int (d1.toInt8.toInt32))])) (show (((46 : Int32).toInt8.toInt32) : Int32) = (46 : Int32) from by decide)) ?_
  show Goes _ _ _ _ T16 (mkF m 27 #[.val (.ref t), .val (.int (46 : Int32)), .val (.int (1 : Int32)), .val (.int (1 : Int32))] [(.int (46 : Int32)), (.int (d1.toInt8.toInt32))])
  refine Goes.icmp (pc' := 32) X16.here X16.ex (hb hby d_jdk_43_method_27_27) (by decide) (by decide) (fun hk1 => ?_) (fun hk1 => ?_)
  · have hk1 : ¬ ((d1.toInt8.toInt32) = (46 : Int32)) := hk1
    show Goes _ _ _ _ T16 (mkF m 32 #[.val (.ref t), .val (.int (46 : Int32)), .val (.int (1 : Int32)), .val (.int (1 : Int32))] [])
    rw [own_b46 b1] at hk1
    refine Goes.go (fun _ kS_ => XS.iinc X16.here X16.ex rfl (hb hby d_jdk_43_method_27_32) rfl (l' := #[.val (.ref t), .val (.int (46 : Int32)), .val (.int (1 : Int32)), .val (.int ((1 : Int32) + (-1 : Int32)))]) rfl kS_) ?_
    show Goes _ _ _ _ T16 (mkF m 35 #[.val (.ref t), .val (.int (46 : Int32)), .val (.int (1 : Int32)), .val (.int ((1 : Int32) + (-1 : Int32)))] [])
    refine Goes.cast (congrArg (fun zq_ => (mkF m 35 #[.val (.ref t), .val (.int (46 : Int32)), .val (.int (1 : Int32)), .val (.int zq_)] [])) (show (((1 : Int32) + (-1 : Int32)) : Int32) = (0 : Int32) from by decide)) ?_
    show Goes _ _ _ _ T16 (mkF m 35 #[.val (.ref t), .val (.int (46 : Int32)), .val (.int (1 : Int32)), .val (.int (0 : Int32))] [])
    refine Goes.go (fun _ kS_ => XS.goto X16.here X16.ex rfl (pc0 := 35) (pc' := 18) rfl (hb hby d_jdk_43_method_27_35) (by decide) (by decide) (XS.iloadN X16.here X16.ex rfl (hb hby d_jdk_43_method_27_18) rfl (XS.ifNo X16.here X16.ex rfl (hb hby d_jdk_43_method_27_19) rfl ((if0 _ _).trans (cd_f (cd := .lt) (x := (0 : Int32)) (y := (0 : Int32)) (by decide))) (XS.aloadN X16.here X16.ex rfl (hb hby d_jdk_43_method_27_22) rfl rfl (XS.iloadN X16.here X16.ex rfl (hb hby d_jdk_43_method_27_23) rfl kS_))))) ?_
    show Goes _ _ _ _ T16 (mkF m 24 #[.val (.ref t), .val (.int (46 : Int32)), .val (.int (1 : Int32)), .val (.int (0 : Int32))] [(.int (0 : Int32)), (.ref t)])
    refine Goes.go (X16.baload V_t ⟨by decide, by decide⟩ (v := .int (d0.toInt8.toInt32)) rfl rfl rfl (hb hby d_jdk_43_method_27_24)) ?_
    show Goes _ _ _ _ T16 (mkF m 25 #[.val (.ref t), .val (.int (46 : Int32)), .val (.int (1 : Int32)), .val (.int (0 : Int32))] [(.int (d0.toInt8.toInt32))])
    refine Goes.go (fun _ kS_ => XS.iloadN X16.here X16.ex rfl (hb hby d_jdk_43_method_27_25) rfl (XS.i2b X16.here X16.ex rfl (hb hby d_jdk_43_method_27_26) rfl kS_)) ?_
    show Goes _ _ _ _ T16 (mkF m 27 #[.val (.ref t), .val (.int (46 : Int32)), .val (.int (1 : Int32)), .val (.int (0 : Int32))] [(.int ((46 : Int32).toInt8.toInt32)), (.int (d0.toInt8.toInt32))])
    refine Goes.cast (congrArg (fun zq_ => (mkF m 27 #[.val (.ref t), .val (.int (46 : Int32)), .val (.int (1 : Int32)), .val (.int (0 : Int32))] [(.int zq_), (.int (d0.toInt8.toInt32))])) (show (((46 : Int32).toInt8.toInt32) : Int32) = (46 : Int32) from by decide)) ?_
    show Goes _ _ _ _ T16 (mkF m 27 #[.val (.ref t), .val (.int (46 : Int32)), .val (.int (1 : Int32)), .val (.int (0 : Int32))] [(.int (46 : Int32)), (.int (d0.toInt8.toInt32))])
    refine Goes.icmp (pc' := 32) X16.here X16.ex (hb hby d_jdk_43_method_27_27) (by decide) (by decide) (fun hk0 => ?_) (fun hk0 => ?_)
    · have hk0 : ¬ ((d0.toInt8.toInt32) = (46 : Int32)) := hk0
      show Goes _ _ _ _ T16 (mkF m 32 #[.val (.ref t), .val (.int (46 : Int32)), .val (.int (1 : Int32)), .val (.int (0 : Int32))] [])
      rw [own_b46 b0] at hk0
      refine Goes.go (fun _ kS_ => XS.iinc X16.here X16.ex rfl (hb hby d_jdk_43_method_27_32) rfl (l' := #[.val (.ref t), .val (.int (46 : Int32)), .val (.int (1 : Int32)), .val (.int ((0 : Int32) + (-1 : Int32)))]) rfl kS_) ?_
      show Goes _ _ _ _ T16 (mkF m 35 #[.val (.ref t), .val (.int (46 : Int32)), .val (.int (1 : Int32)), .val (.int ((0 : Int32) + (-1 : Int32)))] [])
      refine Goes.cast (congrArg (fun zq_ => (mkF m 35 #[.val (.ref t), .val (.int (46 : Int32)), .val (.int (1 : Int32)), .val (.int zq_)] [])) (show (((0 : Int32) + (-1 : Int32)) : Int32) = (-1 : Int32) from by decide)) ?_
      show Goes _ _ _ _ T16 (mkF m 35 #[.val (.ref t), .val (.int (46 : Int32)), .val (.int (1 : Int32)), .val (.int (-1 : Int32))] [])
      refine Goes.go (fun _ kS_ => XS.goto X16.here X16.ex rfl (pc0 := 35) (pc' := 18) rfl (hb hby d_jdk_43_method_27_35) (by decide) (by decide) (XS.iloadN X16.here X16.ex rfl (hb hby d_jdk_43_method_27_18) rfl (XS.ifYes X16.here X16.ex rfl (pc0 := 19) (pc' := 38) rfl (hb hby d_jdk_43_method_27_19) rfl ((if0 _ _).trans (cd_t (cd := .lt) (x := (-1 : Int32)) (y := (0 : Int32)) (by decide))) (by decide) (by decide) (XS.iconst X16.here X16.ex rfl (hb hby d_jdk_43_method_27_38) kS_)))) ?_
      show Goes _ _ _ _ T16 (mkF m 39 #[.val (.ref t), .val (.int (46 : Int32)), .val (.int (1 : Int32)), .val (.int (-1 : Int32))] [(.int (-1 : Int32))])
      refine Goes.outN X16 (fun q => by rw [hret] at q; cases q) hlk (X16.rI hret (hb hby d_jdk_43_method_27_39)) ?_ (by decide) (by decide)
      exact ⟨Ext.oKeepOf X16.ext [], by rw [own_l2, if_neg hk1, own_l1, if_neg hk0]⟩
    · have hk0 : (d0.toInt8.toInt32) = (46 : Int32) := Classical.not_not.mp hk0
      show Goes _ _ _ _ T16 (mkF m 30 #[.val (.ref t), .val (.int (46 : Int32)), .val (.int (1 : Int32)), .val (.int (0 : Int32))] [])
      rw [own_b46 b0] at hk0
      refine Goes.go (fun _ kS_ => XS.iloadN X16.here X16.ex rfl (hb hby d_jdk_43_method_27_30) rfl kS_) ?_
      show Goes _ _ _ _ T16 (mkF m 31 #[.val (.ref t), .val (.int (46 : Int32)), .val (.int (1 : Int32)), .val (.int (0 : Int32))] [(.int (0 : Int32))])
      refine Goes.outN X16 (fun q => by rw [hret] at q; cases q) hlk (X16.rI hret (hb hby d_jdk_43_method_27_31)) ?_ (by decide) (by decide)
      exact ⟨Ext.oKeepOf X16.ext [], by rw [own_l2, if_neg hk1, own_l1, if_pos hk0]⟩
  · have hk1 : (d1.toInt8.toInt32) = (46 : Int32) := Classical.not_not.mp hk1
    show Goes _ _ _ _ T16 (mkF m 30 #[.val (.ref t), .val (.int (46 : Int32)), .val (.int (1 : Int32)), .val (.int (1 : Int32))] [])
    rw [own_b46 b1] at hk1
    refine Goes.go (fun _ kS_ => XS.iloadN X16.here X16.ex rfl (hb hby d_jdk_43_method_27_30) rfl kS_) ?_
    show Goes _ _ _ _ T16 (mkF m 31 #[.val (.ref t), .val (.int (46 : Int32)), .val (.int (1 : Int32)), .val (.int (1 : Int32))] [(.int (1 : Int32))])
    refine Goes.outN X16 (fun q => by rw [hret] at q; cases q) hlk (X16.rI hret (hb hby d_jdk_43_method_27_31)) ?_ (by decide) (by decide)
    exact ⟨Ext.oKeepOf X16.ext [], by rw [own_l2, if_pos hk1]⟩
set_option maxRecDepth 65536 in
set_option maxHeartbeats 40000000 in
theorem own_lioA3 (l : Launch) (Z : State) (a0 : Array Value) (hw : ∀ d ∈ tables_1, d.before a0 Z = true) (h0 : Heap) (hO : Ext Z.heap h0) (t : Addr) (kb : ClassId) (d0 : Int32) (d1 : Int32) (d2 : Int32) (V_t : Arv Z h0 t kb .byte (3 : Int32) [(.int (d0.toInt8.toInt32)), (.int (d1.toInt8.toInt32)), (.int (d2.toInt8.toInt32))] (.int (0 : Int32))) (b0 : ¬ d0 < 0 ∧ ¬ (255 : Int32) < d0) (b1 : ¬ d1 < 0 ∧ ¬ (255 : Int32) < d1) (b2 : ¬ d2 < 0 ∧ ¬ (255 : Int32) < d2) :
    CtrN l Z (⟨"java/lang/StringLatin1", "lastIndexOf", "([BII)I"⟩ : MethodName) jdk_43_method_27_code 4 (some .int) ({ frames := 1, cells := 0, slots := 0, locals := 13 } : Room) #[(.ref t), (.int (46 : Int32)), (.int (2 : Int32))] h0 (fun v h' => Keep h0 h' [] ∧ v = some (.int (own_l3 d0 d1 d2))) := by
  refine CtrN.of (plainFor_of_name pn_1) hO ?_
  intro p e s m below meth cD_ T0 X0 hsh hby hml hret hlk hnm
  refine Goes.cast (ef_own_lioA3 m t) ?_
  show Goes _ _ _ _ T0 (mkF m 0 #[.val (.ref t), .val (.int (46 : Int32)), .val (.int (2 : Int32)), .unset] [])
  refine Goes.go (fun _ kS_ => XS.iloadN X0.here X0.ex rfl (hb hby d_jdk_43_method_27_0) rfl kS_) ?_
  show Goes _ _ _ _ T0 (mkF m 1 #[.val (.ref t), .val (.int (46 : Int32)), .val (.int (2 : Int32)), .unset] [(.int (46 : Int32))])
  refine Wk.static (hm' := fun _ => h0) (y := (⟨"java/lang/StringLatin1", "canEncode", "(I)Z"⟩ : MethodName)) (W := 0) (kc := 0) (ks := 0) (argsL := [(.int (46 : Int32))]) (rest := []) (as' := #[(.int (46 : Int32))]) (ws := []) X0 (w_83 hw) (w_84 hw) (w_81 hw) (w_85 hw) (by decide) (CtrN.pays (own_canI l Z a0 hw h0 X0.old ) (w_85 hw) (w_81 hw) (by decide) (by decide)) (fun v h' L q => ⟨q.2, q.1.1⟩) all0 (fun _ => Mark.stay all0) rfl (by rw [hml]; rfl) (lenOf pd_0 rfl) rfl rfl (by show 2 * 0 + _ ≤ _; exact Nat.le_of_eq rfl) (hb hby d_jdk_43_method_27_1) (by decide) (by decide) ?_
  intro T19 h19 v19 L19 X19 q19 K19
  obtain ⟨⟨-, rfl⟩, -⟩ := q19
  replace V_t := V_t.ext K19.oExt
  show Goes _ _ _ _ T19 (mkF m 4 #[.val (.ref t), .val (.int (46 : Int32)), .val (.int (2 : Int32)), .unset] [(.int (1 : Int32))])
  refine Goes.go (fun _ kS_ => XS.ifYes X19.here X19.ex rfl (pc0 := 4) (pc' := 9) rfl (hb hby d_jdk_43_method_27_4) rfl ((if0 _ _).trans (cd_t (cd := .ne) (x := (1 : Int32)) (y := (0 : Int32)) (by decide))) (by decide) (by decide) (XS.iloadN X19.here X19.ex rfl (hb hby d_jdk_43_method_27_9) rfl (XS.aloadN X19.here X19.ex rfl (hb hby d_jdk_43_method_27_10) rfl rfl kS_))) ?_
  show Goes _ _ _ _ T19 (mkF m 11 #[.val (.ref t), .val (.int (46 : Int32)), .val (.int (2 : Int32)), .unset] [(.ref t), (.int (2 : Int32))])
  refine Goes.go (X19.alen V_t rfl rfl (hb hby d_jdk_43_method_27_11)) ?_
  show Goes _ _ _ _ T19 (mkF m 12 #[.val (.ref t), .val (.int (46 : Int32)), .val (.int (2 : Int32)), .unset] [(.int (3 : Int32)), (.int (2 : Int32))])
  refine Goes.go (fun _ kS_ => XS.iconst X19.here X19.ex rfl (hb hby d_jdk_43_method_27_12) (XS.isub X19.here X19.ex rfl (hb hby d_jdk_43_method_27_13) rfl kS_)) ?_
  show Goes _ _ _ _ T19 (mkF m 14 #[.val (.ref t), .val (.int (46 : Int32)), .val (.int (2 : Int32)), .unset] [(.int ((3 : Int32) - (1 : Int32))), (.int (2 : Int32))])
  refine Goes.cast (congrArg (fun zq_ => (mkF m 14 #[.val (.ref t), .val (.int (46 : Int32)), .val (.int (2 : Int32)), .unset] [(.int zq_), (.int (2 : Int32))])) (show (((3 : Int32) - (1 : Int32)) : Int32) = (2 : Int32) from by decide)) ?_
  show Goes _ _ _ _ T19 (mkF m 14 #[.val (.ref t), .val (.int (46 : Int32)), .val (.int (2 : Int32)), .unset] [(.int (2 : Int32)), (.int (2 : Int32))])
  refine Wk.static (hm' := fun _ => h0) (y := (⟨"java/lang/Math", "min", "(II)I"⟩ : MethodName)) (W := 0) (kc := 0) (ks := 0) (argsL := [(.int (2 : Int32)), (.int (2 : Int32))]) (rest := []) (as' := #[(.int (2 : Int32)), (.int (2 : Int32))]) (ws := []) X19 (w_86 hw) (w_87 hw) (w_88 hw) (w_89 hw) (by decide) (CtrN.pays (own_min l Z a0 hw h19 X19.old (2 : Int32)) (w_89 hw) (w_88 hw) (by decide) (by decide)) (fun v h' L q => ⟨q.2, q.1.1⟩) all0 (fun _ => Mark.stay all0) rfl (by rw [hml]; rfl) (lenOf pd_1 rfl) rfl rfl (by show 2 * 0 + _ ≤ _; exact Nat.le_of_eq rfl) (hb hby d_jdk_43_method_27_14) (by decide) (by decide) ?_
  intro T20 h20 v20 L20 X20 q20 K20
  obtain ⟨⟨-, rfl⟩, -⟩ := q20
  replace V_t := V_t.ext K20.oExt
  show Goes _ _ _ _ T20 (mkF m 17 #[.val (.ref t), .val (.int (46 : Int32)), .val (.int (2 : Int32)), .unset] [(.int (2 : Int32))])
  refine Goes.go (fun _ kS_ => XS.istoreN X20.here X20.ex rfl (hb hby d_jdk_43_method_27_17) rfl (l' := #[.val (.ref t), .val (.int (46 : Int32)), .val (.int (2 : Int32)), .val (.int (2 : Int32))]) rfl (XS.iloadN X20.here X20.ex rfl (hb hby d_jdk_43_method_27_18) rfl (XS.ifNo X20.here X20.ex rfl (hb hby d_jdk_43_method_27_19) rfl ((if0 _ _).trans (cd_f (cd := .lt) (x := (2 : Int32)) (y := (0 : Int32)) (by decide))) (XS.aloadN X20.here X20.ex rfl (hb hby d_jdk_43_method_27_22) rfl rfl (XS.iloadN X20.here X20.ex rfl (hb hby d_jdk_43_method_27_23) rfl kS_))))) ?_
  show Goes _ _ _ _ T20 (mkF m 24 #[.val (.ref t), .val (.int (46 : Int32)), .val (.int (2 : Int32)), .val (.int (2 : Int32))] [(.int (2 : Int32)), (.ref t)])
  refine Goes.go (X20.baload V_t ⟨by decide, by decide⟩ (v := .int (d2.toInt8.toInt32)) rfl rfl rfl (hb hby d_jdk_43_method_27_24)) ?_
  show Goes _ _ _ _ T20 (mkF m 25 #[.val (.ref t), .val (.int (46 : Int32)), .val (.int (2 : Int32)), .val (.int (2 : Int32))] [(.int (d2.toInt8.toInt32))])
  refine Goes.go (fun _ kS_ => XS.iloadN X20.here X20.ex rfl (hb hby d_jdk_43_method_27_25) rfl (XS.i2b X20.here X20.ex rfl (hb hby d_jdk_43_method_27_26) rfl kS_)) ?_
  show Goes _ _ _ _ T20 (mkF m 27 #[.val (.ref t), .val (.int (46 : Int32)), .val (.int (2 : Int32)), .val (.int (2 : Int32))] [(.int ((46 : Int32).toInt8.toInt32)), (.int (d2.toInt8.toInt32))])
  refine Goes.cast (congrArg (fun zq_ => (mkF m 27 #[.val (.ref t), .val (.int (46 : Int32)), .val (.int (2 : Int32)), .val (.int (2 : Int32))] [(.int zq_), (.int (d2.toInt8.toInt32))])) (show (((46 : Int32).toInt8.toInt32) : Int32) = (46 : Int32) from by decide)) ?_
  show Goes _ _ _ _ T20 (mkF m 27 #[.val (.ref t), .val (.int (46 : Int32)), .val (.int (2 : Int32)), .val (.int (2 : Int32))] [(.int (46 : Int32)), (.int (d2.toInt8.toInt32))])
  refine Goes.icmp (pc' := 32) X20.here X20.ex (hb hby d_jdk_43_method_27_27) (by decide) (by decide) (fun hk2 => ?_) (fun hk2 => ?_)
  · have hk2 : ¬ ((d2.toInt8.toInt32) = (46 : Int32)) := hk2
    show Goes _ _ _ _ T20 (mkF m 32 #[.val (.ref t), .val (.int (46 : Int32)), .val (.int (2 : Int32)), .val (.int (2 : Int32))] [])
    rw [own_b46 b2] at hk2
    refine Goes.go (fun _ kS_ => XS.iinc X20.here X20.ex rfl (hb hby d_jdk_43_method_27_32) rfl (l' := #[.val (.ref t), .val (.int (46 : Int32)), .val (.int (2 : Int32)), .val (.int ((2 : Int32) + (-1 : Int32)))]) rfl kS_) ?_
    show Goes _ _ _ _ T20 (mkF m 35 #[.val (.ref t), .val (.int (46 : Int32)), .val (.int (2 : Int32)), .val (.int ((2 : Int32) + (-1 : Int32)))] [])
    refine Goes.cast (congrArg (fun zq_ => (mkF m 35 #[.val (.ref t), .val (.int (46 : Int32)), .val (.int (2 : Int32)), .val (.int zq_)] [])) (show (((2 : Int32) + (-1 : Int32)) : Int32) = (1 : Int32) from by decide)) ?_
    show Goes _ _ _ _ T20 (mkF m 35 #[.val (.ref t), .val (.int (46 : Int32)), .val (.int (2 : Int32)), .val (.int (1 : Int32))] [])
    refine Goes.go (fun _ kS_ => XS.goto X20.here X20.ex rfl (pc0 := 35) (pc' := 18) rfl (hb hby d_jdk_43_method_27_35) (by decide) (by decide) (XS.iloadN X20.here X20.ex rfl (hb hby d_jdk_43_method_27_18) rfl (XS.ifNo X20.here X20.ex rfl (hb hby d_jdk_43_method_27_19) rfl ((if0 _ _).trans (cd_f (cd := .lt) (x := (1 : Int32)) (y := (0 : Int32)) (by decide))) (XS.aloadN X20.here X20.ex rfl (hb hby d_jdk_43_method_27_22) rfl rfl (XS.iloadN X20.here X20.ex rfl (hb hby d_jdk_43_method_27_23) rfl kS_))))) ?_
    show Goes _ _ _ _ T20 (mkF m 24 #[.val (.ref t), .val (.int (46 : Int32)), .val (.int (2 : Int32)), .val (.int (1 : Int32))] [(.int (1 : Int32)), (.ref t)])
    refine Goes.go (X20.baload V_t ⟨by decide, by decide⟩ (v := .int (d1.toInt8.toInt32)) rfl rfl rfl (hb hby d_jdk_43_method_27_24)) ?_
    show Goes _ _ _ _ T20 (mkF m 25 #[.val (.ref t), .val (.int (46 : Int32)), .val (.int (2 : Int32)), .val (.int (1 : Int32))] [(.int (d1.toInt8.toInt32))])
    refine Goes.go (fun _ kS_ => XS.iloadN X20.here X20.ex rfl (hb hby d_jdk_43_method_27_25) rfl (XS.i2b X20.here X20.ex rfl (hb hby d_jdk_43_method_27_26) rfl kS_)) ?_
    show Goes _ _ _ _ T20 (mkF m 27 #[.val (.ref t), .val (.int (46 : Int32)), .val (.int (2 : Int32)), .val (.int (1 : Int32))] [(.int ((46 : Int32).toInt8.toInt32)), (.int (d1.toInt8.toInt32))])
    refine Goes.cast (congrArg (fun zq_ => (mkF m 27 #[.val (.ref t), .val (.int (46 : Int32)), .val (.int (2 : Int32)), .val (.int (1 : Int32))] [(.int zq_), (.int (d1.toInt8.toInt32))])) (show (((46 : Int32).toInt8.toInt32) : Int32) = (46 : Int32) from by decide)) ?_
    show Goes _ _ _ _ T20 (mkF m 27 #[.val (.ref t), .val (.int (46 : Int32)), .val (.int (2 : Int32)), .val (.int (1 : Int32))] [(.int (46 : Int32)), (.int (d1.toInt8.toInt32))])
    refine Goes.icmp (pc' := 32) X20.here X20.ex (hb hby d_jdk_43_method_27_27) (by decide) (by decide) (fun hk1 => ?_) (fun hk1 => ?_)
    · have hk1 : ¬ ((d1.toInt8.toInt32) = (46 : Int32)) := hk1
      show Goes _ _ _ _ T20 (mkF m 32 #[.val (.ref t), .val (.int (46 : Int32)), .val (.int (2 : Int32)), .val (.int (1 : Int32))] [])
      rw [own_b46 b1] at hk1
      refine Goes.go (fun _ kS_ => XS.iinc X20.here X20.ex rfl (hb hby d_jdk_43_method_27_32) rfl (l' := #[.val (.ref t), .val (.int (46 : Int32)), .val (.int (2 : Int32)), .val (.int ((1 : Int32) + (-1 : Int32)))]) rfl kS_) ?_
      show Goes _ _ _ _ T20 (mkF m 35 #[.val (.ref t), .val (.int (46 : Int32)), .val (.int (2 : Int32)), .val (.int ((1 : Int32) + (-1 : Int32)))] [])
      refine Goes.cast (congrArg (fun zq_ => (mkF m 35 #[.val (.ref t), .val (.int (46 : Int32)), .val (.int (2 : Int32)), .val (.int zq_)] [])) (show (((1 : Int32) + (-1 : Int32)) : Int32) = (0 : Int32) from by decide)) ?_
      show Goes _ _ _ _ T20 (mkF m 35 #[.val (.ref t), .val (.int (46 : Int32)), .val (.int (2 : Int32)), .val (.int (0 : Int32))] [])
      refine Goes.go (fun _ kS_ => XS.goto X20.here X20.ex rfl (pc0 := 35) (pc' := 18) rfl (hb hby d_jdk_43_method_27_35) (by decide) (by decide) (XS.iloadN X20.here X20.ex rfl (hb hby d_jdk_43_method_27_18) rfl (XS.ifNo X20.here X20.ex rfl (hb hby d_jdk_43_method_27_19) rfl ((if0 _ _).trans (cd_f (cd := .lt) (x := (0 : Int32)) (y := (0 : Int32)) (by decide))) (XS.aloadN X20.here X20.ex rfl (hb hby d_jdk_43_method_27_22) rfl rfl (XS.iloadN X20.here X20.ex rfl (hb hby d_jdk_43_method_27_23) rfl kS_))))) ?_
      show Goes _ _ _ _ T20 (mkF m 24 #[.val (.ref t), .val (.int (46 : Int32)), .val (.int (2 : Int32)), .val (.int (0 : Int32))] [(.int (0 : Int32)), (.ref t)])
      refine Goes.go (X20.baload V_t ⟨by decide, by decide⟩ (v := .int (d0.toInt8.toInt32)) rfl rfl rfl (hb hby d_jdk_43_method_27_24)) ?_
      show Goes _ _ _ _ T20 (mkF m 25 #[.val (.ref t), .val (.int (46 : Int32)), .val (.int (2 : Int32)), .val (.int (0 : Int32))] [(.int (d0.toInt8.toInt32))])
      refine Goes.go (fun _ kS_ => XS.iloadN X20.here X20.ex rfl (hb hby d_jdk_43_method_27_25) rfl (XS.i2b X20.here X20.ex rfl (hb hby d_jdk_43_method_27_26) rfl kS_)) ?_
      show Goes _ _ _ _ T20 (mkF m 27 #[.val (.ref t), .val (.int (46 : Int32)), .val (.int (2 : Int32)), .val (.int (0 : Int32))] [(.int ((46 : Int32).toInt8.toInt32)), (.int (d0.toInt8.toInt32))])
      refine Goes.cast (congrArg (fun zq_ => (mkF m 27 #[.val (.ref t), .val (.int (46 : Int32)), .val (.int (2 : Int32)), .val (.int (0 : Int32))] [(.int zq_), (.int (d0.toInt8.toInt32))])) (show (((46 : Int32).toInt8.toInt32) : Int32) = (46 : Int32) from by decide)) ?_
      show Goes _ _ _ _ T20 (mkF m 27 #[.val (.ref t), .val (.int (46 : Int32)), .val (.int (2 : Int32)), .val (.int (0 : Int32))] [(.int (46 : Int32)), (.int (d0.toInt8.toInt32))])
      refine Goes.icmp (pc' := 32) X20.here X20.ex (hb hby d_jdk_43_method_27_27) (by decide) (by decide) (fun hk0 => ?_) (fun hk0 => ?_)
      · have hk0 : ¬ ((d0.toInt8.toInt32) = (46 : Int32)) := hk0
        show Goes _ _ _ _ T20 (mkF m 32 #[.val (.ref t), .val (.int (46 : Int32)), .val (.int (2 : Int32)), .val (.int (0 : Int32))] [])
        rw [own_b46 b0] at hk0
        refine Goes.go (fun _ kS_ => XS.iinc X20.here X20.ex rfl (hb hby d_jdk_43_method_27_32) rfl (l' := #[.val (.ref t), .val (.int (46 : Int32)), .val (.int (2 : Int32)), .val (.int ((0 : Int32) + (-1 : Int32)))]) rfl kS_) ?_
        show Goes _ _ _ _ T20 (mkF m 35 #[.val (.ref t), .val (.int (46 : Int32)), .val (.int (2 : Int32)), .val (.int ((0 : Int32) + (-1 : Int32)))] [])
        refine Goes.cast (congrArg (fun zq_ => (mkF m 35 #[.val (.ref t), .val (.int (46 : Int32)), .val (.int (2 : Int32)), .val (.int zq_)] [])) (show (((0 : Int32) + (-1 : Int32)) : Int32) = (-1 : Int32) from by decide)) ?_
        show Goes _ _ _ _ T20 (mkF m 35 #[.val (.ref t), .val (.int (46 : Int32)), .val (.int (2 : Int32)), .val (.int (-1 : Int32))] [])
        refine Goes.go (fun _ kS_ => XS.goto X20.here X20.ex rfl (pc0 := 35) (pc' := 18) rfl (hb hby d_jdk_43_method_27_35) (by decide) (by decide) (XS.iloadN X20.here X20.ex rfl (hb hby d_jdk_43_method_27_18) rfl (XS.ifYes X20.here X20.ex rfl (pc0 := 19) (pc' := 38) rfl (hb hby d_jdk_43_method_27_19) rfl ((if0 _ _).trans (cd_t (cd := .lt) (x := (-1 : Int32)) (y := (0 : Int32)) (by decide))) (by decide) (by decide) (XS.iconst X20.here X20.ex rfl (hb hby d_jdk_43_method_27_38) kS_)))) ?_
        show Goes _ _ _ _ T20 (mkF m 39 #[.val (.ref t), .val (.int (46 : Int32)), .val (.int (2 : Int32)), .val (.int (-1 : Int32))] [(.int (-1 : Int32))])
        refine Goes.outN X20 (fun q => by rw [hret] at q; cases q) hlk (X20.rI hret (hb hby d_jdk_43_method_27_39)) ?_ (by decide) (by decide)
        exact ⟨Ext.oKeepOf X20.ext [], by rw [own_l3, if_neg hk2, own_l2, if_neg hk1, own_l1, if_neg hk0]⟩
      · have hk0 : (d0.toInt8.toInt32) = (46 : Int32) := Classical.not_not.mp hk0
        show Goes _ _ _ _ T20 (mkF m 30 #[.val (.ref t), .val (.int (46 : Int32)), .val (.int (2 : Int32)), .val (.int (0 : Int32))] [])
        rw [own_b46 b0] at hk0
        refine Goes.go (fun _ kS_ => XS.iloadN X20.here X20.ex rfl (hb hby d_jdk_43_method_27_30) rfl kS_) ?_
        show Goes _ _ _ _ T20 (mkF m 31 #[.val (.ref t), .val (.int (46 : Int32)), .val (.int (2 : Int32)), .val (.int (0 : Int32))] [(.int (0 : Int32))])
        refine Goes.outN X20 (fun q => by rw [hret] at q; cases q) hlk (X20.rI hret (hb hby d_jdk_43_method_27_31)) ?_ (by decide) (by decide)
        exact ⟨Ext.oKeepOf X20.ext [], by rw [own_l3, if_neg hk2, own_l2, if_neg hk1, own_l1, if_pos hk0]⟩
    · have hk1 : (d1.toInt8.toInt32) = (46 : Int32) := Classical.not_not.mp hk1
      show Goes _ _ _ _ T20 (mkF m 30 #[.val (.ref t), .val (.int (46 : Int32)), .val (.int (2 : Int32)), .val (.int (1 : Int32))] [])
      rw [own_b46 b1] at hk1
      refine Goes.go (fun _ kS_ => XS.iloadN X20.here X20.ex rfl (hb hby d_jdk_43_method_27_30) rfl kS_) ?_
      show Goes _ _ _ _ T20 (mkF m 31 #[.val (.ref t), .val (.int (46 : Int32)), .val (.int (2 : Int32)), .val (.int (1 : Int32))] [(.int (1 : Int32))])
      refine Goes.outN X20 (fun q => by rw [hret] at q; cases q) hlk (X20.rI hret (hb hby d_jdk_43_method_27_31)) ?_ (by decide) (by decide)
      exact ⟨Ext.oKeepOf X20.ext [], by rw [own_l3, if_neg hk2, own_l2, if_pos hk1]⟩
  · have hk2 : (d2.toInt8.toInt32) = (46 : Int32) := Classical.not_not.mp hk2
    show Goes _ _ _ _ T20 (mkF m 30 #[.val (.ref t), .val (.int (46 : Int32)), .val (.int (2 : Int32)), .val (.int (2 : Int32))] [])
    rw [own_b46 b2] at hk2
    refine Goes.go (fun _ kS_ => XS.iloadN X20.here X20.ex rfl (hb hby d_jdk_43_method_27_30) rfl kS_) ?_
    show Goes _ _ _ _ T20 (mkF m 31 #[.val (.ref t), .val (.int (46 : Int32)), .val (.int (2 : Int32)), .val (.int (2 : Int32))] [(.int (2 : Int32))])
    refine Goes.outN X20 (fun q => by rw [hret] at q; cases q) hlk (X20.rI hret (hb hby d_jdk_43_method_27_31)) ?_ (by decide) (by decide)
    exact ⟨Ext.oKeepOf X20.ext [], by rw [own_l3, if_pos hk2]⟩
set_option maxRecDepth 65536 in
set_option maxHeartbeats 40000000 in
theorem own_lioA4 (l : Launch) (Z : State) (a0 : Array Value) (hw : ∀ d ∈ tables_1, d.before a0 Z = true) (h0 : Heap) (hO : Ext Z.heap h0) (t : Addr) (kb : ClassId) (d0 : Int32) (d1 : Int32) (d2 : Int32) (d3 : Int32) (V_t : Arv Z h0 t kb .byte (4 : Int32) [(.int (d0.toInt8.toInt32)), (.int (d1.toInt8.toInt32)), (.int (d2.toInt8.toInt32)), (.int (d3.toInt8.toInt32))] (.int (0 : Int32))) (b0 : ¬ d0 < 0 ∧ ¬ (255 : Int32) < d0) (b1 : ¬ d1 < 0 ∧ ¬ (255 : Int32) < d1) (b2 : ¬ d2 < 0 ∧ ¬ (255 : Int32) < d2) (b3 : ¬ d3 < 0 ∧ ¬ (255 : Int32) < d3) :
    CtrN l Z (⟨"java/lang/StringLatin1", "lastIndexOf", "([BII)I"⟩ : MethodName) jdk_43_method_27_code 4 (some .int) ({ frames := 1, cells := 0, slots := 0, locals := 13 } : Room) #[(.ref t), (.int (46 : Int32)), (.int (3 : Int32))] h0 (fun v h' => Keep h0 h' [] ∧ v = some (.int (own_l4 d0 d1 d2 d3))) := by
  refine CtrN.of (plainFor_of_name pn_1) hO ?_
  intro p e s m below meth cD_ T0 X0 hsh hby hml hret hlk hnm
  refine Goes.cast (ef_own_lioA4 m t) ?_
  show Goes _ _ _ _ T0 (mkF m 0 #[.val (.ref t), .val (.int (46 : Int32)), .val (.int (3 : Int32)), .unset] [])
  refine Goes.go (fun _ kS_ => XS.iloadN X0.here X0.ex rfl (hb hby d_jdk_43_method_27_0) rfl kS_) ?_
  show Goes _ _ _ _ T0 (mkF m 1 #[.val (.ref t), .val (.int (46 : Int32)), .val (.int (3 : Int32)), .unset] [(.int (46 : Int32))])
  refine Wk.static (hm' := fun _ => h0) (y := (⟨"java/lang/StringLatin1", "canEncode", "(I)Z"⟩ : MethodName)) (W := 0) (kc := 0) (ks := 0) (argsL := [(.int (46 : Int32))]) (rest := []) (as' := #[(.int (46 : Int32))]) (ws := []) X0 (w_83 hw) (w_84 hw) (w_81 hw) (w_85 hw) (by decide) (CtrN.pays (own_canI l Z a0 hw h0 X0.old ) (w_85 hw) (w_81 hw) (by decide) (by decide)) (fun v h' L q => ⟨q.2, q.1.1⟩) all0 (fun _ => Mark.stay all0) rfl (by rw [hml]; rfl) (lenOf pd_0 rfl) rfl rfl (by show 2 * 0 + _ ≤ _; exact Nat.le_of_eq rfl) (hb hby d_jdk_43_method_27_1) (by decide) (by decide) ?_
  intro T23 h23 v23 L23 X23 q23 K23
  obtain ⟨⟨-, rfl⟩, -⟩ := q23
  replace V_t := V_t.ext K23.oExt
  show Goes _ _ _ _ T23 (mkF m 4 #[.val (.ref t), .val (.int (46 : Int32)), .val (.int (3 : Int32)), .unset] [(.int (1 : Int32))])
  refine Goes.go (fun _ kS_ => XS.ifYes X23.here X23.ex rfl (pc0 := 4) (pc' := 9) rfl (hb hby d_jdk_43_method_27_4) rfl ((if0 _ _).trans (cd_t (cd := .ne) (x := (1 : Int32)) (y := (0 : Int32)) (by decide))) (by decide) (by decide) (XS.iloadN X23.here X23.ex rfl (hb hby d_jdk_43_method_27_9) rfl (XS.aloadN X23.here X23.ex rfl (hb hby d_jdk_43_method_27_10) rfl rfl kS_))) ?_
  show Goes _ _ _ _ T23 (mkF m 11 #[.val (.ref t), .val (.int (46 : Int32)), .val (.int (3 : Int32)), .unset] [(.ref t), (.int (3 : Int32))])
  refine Goes.go (X23.alen V_t rfl rfl (hb hby d_jdk_43_method_27_11)) ?_
  show Goes _ _ _ _ T23 (mkF m 12 #[.val (.ref t), .val (.int (46 : Int32)), .val (.int (3 : Int32)), .unset] [(.int (4 : Int32)), (.int (3 : Int32))])
  refine Goes.go (fun _ kS_ => XS.iconst X23.here X23.ex rfl (hb hby d_jdk_43_method_27_12) (XS.isub X23.here X23.ex rfl (hb hby d_jdk_43_method_27_13) rfl kS_)) ?_
  show Goes _ _ _ _ T23 (mkF m 14 #[.val (.ref t), .val (.int (46 : Int32)), .val (.int (3 : Int32)), .unset] [(.int ((4 : Int32) - (1 : Int32))), (.int (3 : Int32))])
  refine Goes.cast (congrArg (fun zq_ => (mkF m 14 #[.val (.ref t), .val (.int (46 : Int32)), .val (.int (3 : Int32)), .unset] [(.int zq_), (.int (3 : Int32))])) (show (((4 : Int32) - (1 : Int32)) : Int32) = (3 : Int32) from by decide)) ?_
  show Goes _ _ _ _ T23 (mkF m 14 #[.val (.ref t), .val (.int (46 : Int32)), .val (.int (3 : Int32)), .unset] [(.int (3 : Int32)), (.int (3 : Int32))])
  refine Wk.static (hm' := fun _ => h0) (y := (⟨"java/lang/Math", "min", "(II)I"⟩ : MethodName)) (W := 0) (kc := 0) (ks := 0) (argsL := [(.int (3 : Int32)), (.int (3 : Int32))]) (rest := []) (as' := #[(.int (3 : Int32)), (.int (3 : Int32))]) (ws := []) X23 (w_86 hw) (w_87 hw) (w_88 hw) (w_89 hw) (by decide) (CtrN.pays (own_min l Z a0 hw h23 X23.old (3 : Int32)) (w_89 hw) (w_88 hw) (by decide) (by decide)) (fun v h' L q => ⟨q.2, q.1.1⟩) all0 (fun _ => Mark.stay all0) rfl (by rw [hml]; rfl) (lenOf pd_1 rfl) rfl rfl (by show 2 * 0 + _ ≤ _; exact Nat.le_of_eq rfl) (hb hby d_jdk_43_method_27_14) (by decide) (by decide) ?_
  intro T24 h24 v24 L24 X24 q24 K24
  obtain ⟨⟨-, rfl⟩, -⟩ := q24
  replace V_t := V_t.ext K24.oExt
  show Goes _ _ _ _ T24 (mkF m 17 #[.val (.ref t), .val (.int (46 : Int32)), .val (.int (3 : Int32)), .unset] [(.int (3 : Int32))])
  refine Goes.go (fun _ kS_ => XS.istoreN X24.here X24.ex rfl (hb hby d_jdk_43_method_27_17) rfl (l' := #[.val (.ref t), .val (.int (46 : Int32)), .val (.int (3 : Int32)), .val (.int (3 : Int32))]) rfl (XS.iloadN X24.here X24.ex rfl (hb hby d_jdk_43_method_27_18) rfl (XS.ifNo X24.here X24.ex rfl (hb hby d_jdk_43_method_27_19) rfl ((if0 _ _).trans (cd_f (cd := .lt) (x := (3 : Int32)) (y := (0 : Int32)) (by decide))) (XS.aloadN X24.here X24.ex rfl (hb hby d_jdk_43_method_27_22) rfl rfl (XS.iloadN X24.here X24.ex rfl (hb hby d_jdk_43_method_27_23) rfl kS_))))) ?_
  show Goes _ _ _ _ T24 (mkF m 24 #[.val (.ref t), .val (.int (46 : Int32)), .val (.int (3 : Int32)), .val (.int (3 : Int32))] [(.int (3 : Int32)), (.ref t)])
  refine Goes.go (X24.baload V_t ⟨by decide, by decide⟩ (v := .int (d3.toInt8.toInt32)) rfl rfl rfl (hb hby d_jdk_43_method_27_24)) ?_
  show Goes _ _ _ _ T24 (mkF m 25 #[.val (.ref t), .val (.int (46 : Int32)), .val (.int (3 : Int32)), .val (.int (3 : Int32))] [(.int (d3.toInt8.toInt32))])
  refine Goes.go (fun _ kS_ => XS.iloadN X24.here X24.ex rfl (hb hby d_jdk_43_method_27_25) rfl (XS.i2b X24.here X24.ex rfl (hb hby d_jdk_43_method_27_26) rfl kS_)) ?_
  show Goes _ _ _ _ T24 (mkF m 27 #[.val (.ref t), .val (.int (46 : Int32)), .val (.int (3 : Int32)), .val (.int (3 : Int32))] [(.int ((46 : Int32).toInt8.toInt32)), (.int (d3.toInt8.toInt32))])
  refine Goes.cast (congrArg (fun zq_ => (mkF m 27 #[.val (.ref t), .val (.int (46 : Int32)), .val (.int (3 : Int32)), .val (.int (3 : Int32))] [(.int zq_), (.int (d3.toInt8.toInt32))])) (show (((46 : Int32).toInt8.toInt32) : Int32) = (46 : Int32) from by decide)) ?_
  show Goes _ _ _ _ T24 (mkF m 27 #[.val (.ref t), .val (.int (46 : Int32)), .val (.int (3 : Int32)), .val (.int (3 : Int32))] [(.int (46 : Int32)), (.int (d3.toInt8.toInt32))])
  refine Goes.icmp (pc' := 32) X24.here X24.ex (hb hby d_jdk_43_method_27_27) (by decide) (by decide) (fun hk3 => ?_) (fun hk3 => ?_)
  · have hk3 : ¬ ((d3.toInt8.toInt32) = (46 : Int32)) := hk3
    show Goes _ _ _ _ T24 (mkF m 32 #[.val (.ref t), .val (.int (46 : Int32)), .val (.int (3 : Int32)), .val (.int (3 : Int32))] [])
    rw [own_b46 b3] at hk3
    refine Goes.go (fun _ kS_ => XS.iinc X24.here X24.ex rfl (hb hby d_jdk_43_method_27_32) rfl (l' := #[.val (.ref t), .val (.int (46 : Int32)), .val (.int (3 : Int32)), .val (.int ((3 : Int32) + (-1 : Int32)))]) rfl kS_) ?_
    show Goes _ _ _ _ T24 (mkF m 35 #[.val (.ref t), .val (.int (46 : Int32)), .val (.int (3 : Int32)), .val (.int ((3 : Int32) + (-1 : Int32)))] [])
    refine Goes.cast (congrArg (fun zq_ => (mkF m 35 #[.val (.ref t), .val (.int (46 : Int32)), .val (.int (3 : Int32)), .val (.int zq_)] [])) (show (((3 : Int32) + (-1 : Int32)) : Int32) = (2 : Int32) from by decide)) ?_
    show Goes _ _ _ _ T24 (mkF m 35 #[.val (.ref t), .val (.int (46 : Int32)), .val (.int (3 : Int32)), .val (.int (2 : Int32))] [])
    refine Goes.go (fun _ kS_ => XS.goto X24.here X24.ex rfl (pc0 := 35) (pc' := 18) rfl (hb hby d_jdk_43_method_27_35) (by decide) (by decide) (XS.iloadN X24.here X24.ex rfl (hb hby d_jdk_43_method_27_18) rfl (XS.ifNo X24.here X24.ex rfl (hb hby d_jdk_43_method_27_19) rfl ((if0 _ _).trans (cd_f (cd := .lt) (x := (2 : Int32)) (y := (0 : Int32)) (by decide))) (XS.aloadN X24.here X24.ex rfl (hb hby d_jdk_43_method_27_22) rfl rfl (XS.iloadN X24.here X24.ex rfl (hb hby d_jdk_43_method_27_23) rfl kS_))))) ?_
    show Goes _ _ _ _ T24 (mkF m 24 #[.val (.ref t), .val (.int (46 : Int32)), .val (.int (3 : Int32)), .val (.int (2 : Int32))] [(.int (2 : Int32)), (.ref t)])
    refine Goes.go (X24.baload V_t ⟨by decide, by decide⟩ (v := .int (d2.toInt8.toInt32)) rfl rfl rfl (hb hby d_jdk_43_method_27_24)) ?_
    show Goes _ _ _ _ T24 (mkF m 25 #[.val (.ref t), .val (.int (46 : Int32)), .val (.int (3 : Int32)), .val (.int (2 : Int32))] [(.int (d2.toInt8.toInt32))])
    refine Goes.go (fun _ kS_ => XS.iloadN X24.here X24.ex rfl (hb hby d_jdk_43_method_27_25) rfl (XS.i2b X24.here X24.ex rfl (hb hby d_jdk_43_method_27_26) rfl kS_)) ?_
    show Goes _ _ _ _ T24 (mkF m 27 #[.val (.ref t), .val (.int (46 : Int32)), .val (.int (3 : Int32)), .val (.int (2 : Int32))] [(.int ((46 : Int32).toInt8.toInt32)), (.int (d2.toInt8.toInt32))])
    refine Goes.cast (congrArg (fun zq_ => (mkF m 27 #[.val (.ref t), .val (.int (46 : Int32)), .val (.int (3 : Int32)), .val (.int (2 : Int32))] [(.int zq_), (.int (d2.toInt8.toInt32))])) (show (((46 : Int32).toInt8.toInt32) : Int32) = (46 : Int32) from by decide)) ?_
    show Goes _ _ _ _ T24 (mkF m 27 #[.val (.ref t), .val (.int (46 : Int32)), .val (.int (3 : Int32)), .val (.int (2 : Int32))] [(.int (46 : Int32)), (.int (d2.toInt8.toInt32))])
    refine Goes.icmp (pc' := 32) X24.here X24.ex (hb hby d_jdk_43_method_27_27) (by decide) (by decide) (fun hk2 => ?_) (fun hk2 => ?_)
    · have hk2 : ¬ ((d2.toInt8.toInt32) = (46 : Int32)) := hk2
      show Goes _ _ _ _ T24 (mkF m 32 #[.val (.ref t), .val (.int (46 : Int32)), .val (.int (3 : Int32)), .val (.int (2 : Int32))] [])
      rw [own_b46 b2] at hk2
      refine Goes.go (fun _ kS_ => XS.iinc X24.here X24.ex rfl (hb hby d_jdk_43_method_27_32) rfl (l' := #[.val (.ref t), .val (.int (46 : Int32)), .val (.int (3 : Int32)), .val (.int ((2 : Int32) + (-1 : Int32)))]) rfl kS_) ?_
      show Goes _ _ _ _ T24 (mkF m 35 #[.val (.ref t), .val (.int (46 : Int32)), .val (.int (3 : Int32)), .val (.int ((2 : Int32) + (-1 : Int32)))] [])
      refine Goes.cast (congrArg (fun zq_ => (mkF m 35 #[.val (.ref t), .val (.int (46 : Int32)), .val (.int (3 : Int32)), .val (.int zq_)] [])) (show (((2 : Int32) + (-1 : Int32)) : Int32) = (1 : Int32) from by decide)) ?_
      show Goes _ _ _ _ T24 (mkF m 35 #[.val (.ref t), .val (.int (46 : Int32)), .val (.int (3 : Int32)), .val (.int (1 : Int32))] [])
      refine Goes.go (fun _ kS_ => XS.goto X24.here X24.ex rfl (pc0 := 35) (pc' := 18) rfl (hb hby d_jdk_43_method_27_35) (by decide) (by decide) (XS.iloadN X24.here X24.ex rfl (hb hby d_jdk_43_method_27_18) rfl (XS.ifNo X24.here X24.ex rfl (hb hby d_jdk_43_method_27_19) rfl ((if0 _ _).trans (cd_f (cd := .lt) (x := (1 : Int32)) (y := (0 : Int32)) (by decide))) (XS.aloadN X24.here X24.ex rfl (hb hby d_jdk_43_method_27_22) rfl rfl (XS.iloadN X24.here X24.ex rfl (hb hby d_jdk_43_method_27_23) rfl kS_))))) ?_
      show Goes _ _ _ _ T24 (mkF m 24 #[.val (.ref t), .val (.int (46 : Int32)), .val (.int (3 : Int32)), .val (.int (1 : Int32))] [(.int (1 : Int32)), (.ref t)])
      refine Goes.go (X24.baload V_t ⟨by decide, by decide⟩ (v := .int (d1.toInt8.toInt32)) rfl rfl rfl (hb hby d_jdk_43_method_27_24)) ?_
      show Goes _ _ _ _ T24 (mkF m 25 #[.val (.ref t), .val (.int (46 : Int32)), .val (.int (3 : Int32)), .val (.int (1 : Int32))] [(.int (d1.toInt8.toInt32))])
      refine Goes.go (fun _ kS_ => XS.iloadN X24.here X24.ex rfl (hb hby d_jdk_43_method_27_25) rfl (XS.i2b X24.here X24.ex rfl (hb hby d_jdk_43_method_27_26) rfl kS_)) ?_
      show Goes _ _ _ _ T24 (mkF m 27 #[.val (.ref t), .val (.int (46 : Int32)), .val (.int (3 : Int32)), .val (.int (1 : Int32))] [(.int ((46 : Int32).toInt8.toInt32)), (.int (d1.toInt8.toInt32))])
      refine Goes.cast (congrArg (fun zq_ => (mkF m 27 #[.val (.ref t), .val (.int (46 : Int32)), .val (.int (3 : Int32)), .val (.int (1 : Int32))] [(.int zq_), (.int (d1.toInt8.toInt32))])) (show (((46 : Int32).toInt8.toInt32) : Int32) = (46 : Int32) from by decide)) ?_
      show Goes _ _ _ _ T24 (mkF m 27 #[.val (.ref t), .val (.int (46 : Int32)), .val (.int (3 : Int32)), .val (.int (1 : Int32))] [(.int (46 : Int32)), (.int (d1.toInt8.toInt32))])
      refine Goes.icmp (pc' := 32) X24.here X24.ex (hb hby d_jdk_43_method_27_27) (by decide) (by decide) (fun hk1 => ?_) (fun hk1 => ?_)
      · have hk1 : ¬ ((d1.toInt8.toInt32) = (46 : Int32)) := hk1
        show Goes _ _ _ _ T24 (mkF m 32 #[.val (.ref t), .val (.int (46 : Int32)), .val (.int (3 : Int32)), .val (.int (1 : Int32))] [])
        rw [own_b46 b1] at hk1
        refine Goes.go (fun _ kS_ => XS.iinc X24.here X24.ex rfl (hb hby d_jdk_43_method_27_32) rfl (l' := #[.val (.ref t), .val (.int (46 : Int32)), .val (.int (3 : Int32)), .val (.int ((1 : Int32) + (-1 : Int32)))]) rfl kS_) ?_
        show Goes _ _ _ _ T24 (mkF m 35 #[.val (.ref t), .val (.int (46 : Int32)), .val (.int (3 : Int32)), .val (.int ((1 : Int32) + (-1 : Int32)))] [])
        refine Goes.cast (congrArg (fun zq_ => (mkF m 35 #[.val (.ref t), .val (.int (46 : Int32)), .val (.int (3 : Int32)), .val (.int zq_)] [])) (show (((1 : Int32) + (-1 : Int32)) : Int32) = (0 : Int32) from by decide)) ?_
        show Goes _ _ _ _ T24 (mkF m 35 #[.val (.ref t), .val (.int (46 : Int32)), .val (.int (3 : Int32)), .val (.int (0 : Int32))] [])
        refine Goes.go (fun _ kS_ => XS.goto X24.here X24.ex rfl (pc0 := 35) (pc' := 18) rfl (hb hby d_jdk_43_method_27_35) (by decide) (by decide) (XS.iloadN X24.here X24.ex rfl (hb hby d_jdk_43_method_27_18) rfl (XS.ifNo X24.here X24.ex rfl (hb hby d_jdk_43_method_27_19) rfl ((if0 _ _).trans (cd_f (cd := .lt) (x := (0 : Int32)) (y := (0 : Int32)) (by decide))) (XS.aloadN X24.here X24.ex rfl (hb hby d_jdk_43_method_27_22) rfl rfl (XS.iloadN X24.here X24.ex rfl (hb hby d_jdk_43_method_27_23) rfl kS_))))) ?_
        show Goes _ _ _ _ T24 (mkF m 24 #[.val (.ref t), .val (.int (46 : Int32)), .val (.int (3 : Int32)), .val (.int (0 : Int32))] [(.int (0 : Int32)), (.ref t)])
        refine Goes.go (X24.baload V_t ⟨by decide, by decide⟩ (v := .int (d0.toInt8.toInt32)) rfl rfl rfl (hb hby d_jdk_43_method_27_24)) ?_
        show Goes _ _ _ _ T24 (mkF m 25 #[.val (.ref t), .val (.int (46 : Int32)), .val (.int (3 : Int32)), .val (.int (0 : Int32))] [(.int (d0.toInt8.toInt32))])
        refine Goes.go (fun _ kS_ => XS.iloadN X24.here X24.ex rfl (hb hby d_jdk_43_method_27_25) rfl (XS.i2b X24.here X24.ex rfl (hb hby d_jdk_43_method_27_26) rfl kS_)) ?_
        show Goes _ _ _ _ T24 (mkF m 27 #[.val (.ref t), .val (.int (46 : Int32)), .val (.int (3 : Int32)), .val (.int (0 : Int32))] [(.int ((46 : Int32).toInt8.toInt32)), (.int (d0.toInt8.toInt32))])
        refine Goes.cast (congrArg (fun zq_ => (mkF m 27 #[.val (.ref t), .val (.int (46 : Int32)), .val (.int (3 : Int32)), .val (.int (0 : Int32))] [(.int zq_), (.int (d0.toInt8.toInt32))])) (show (((46 : Int32).toInt8.toInt32) : Int32) = (46 : Int32) from by decide)) ?_
        show Goes _ _ _ _ T24 (mkF m 27 #[.val (.ref t), .val (.int (46 : Int32)), .val (.int (3 : Int32)), .val (.int (0 : Int32))] [(.int (46 : Int32)), (.int (d0.toInt8.toInt32))])
        refine Goes.icmp (pc' := 32) X24.here X24.ex (hb hby d_jdk_43_method_27_27) (by decide) (by decide) (fun hk0 => ?_) (fun hk0 => ?_)
        · have hk0 : ¬ ((d0.toInt8.toInt32) = (46 : Int32)) := hk0
          show Goes _ _ _ _ T24 (mkF m 32 #[.val (.ref t), .val (.int (46 : Int32)), .val (.int (3 : Int32)), .val (.int (0 : Int32))] [])
          rw [own_b46 b0] at hk0
          refine Goes.go (fun _ kS_ => XS.iinc X24.here X24.ex rfl (hb hby d_jdk_43_method_27_32) rfl (l' := #[.val (.ref t), .val (.int (46 : Int32)), .val (.int (3 : Int32)), .val (.int ((0 : Int32) + (-1 : Int32)))]) rfl kS_) ?_
          show Goes _ _ _ _ T24 (mkF m 35 #[.val (.ref t), .val (.int (46 : Int32)), .val (.int (3 : Int32)), .val (.int ((0 : Int32) + (-1 : Int32)))] [])
          refine Goes.cast (congrArg (fun zq_ => (mkF m 35 #[.val (.ref t), .val (.int (46 : Int32)), .val (.int (3 : Int32)), .val (.int zq_)] [])) (show (((0 : Int32) + (-1 : Int32)) : Int32) = (-1 : Int32) from by decide)) ?_
          show Goes _ _ _ _ T24 (mkF m 35 #[.val (.ref t), .val (.int (46 : Int32)), .val (.int (3 : Int32)), .val (.int (-1 : Int32))] [])
          refine Goes.go (fun _ kS_ => XS.goto X24.here X24.ex rfl (pc0 := 35) (pc' := 18) rfl (hb hby d_jdk_43_method_27_35) (by decide) (by decide) (XS.iloadN X24.here X24.ex rfl (hb hby d_jdk_43_method_27_18) rfl (XS.ifYes X24.here X24.ex rfl (pc0 := 19) (pc' := 38) rfl (hb hby d_jdk_43_method_27_19) rfl ((if0 _ _).trans (cd_t (cd := .lt) (x := (-1 : Int32)) (y := (0 : Int32)) (by decide))) (by decide) (by decide) (XS.iconst X24.here X24.ex rfl (hb hby d_jdk_43_method_27_38) kS_)))) ?_
          show Goes _ _ _ _ T24 (mkF m 39 #[.val (.ref t), .val (.int (46 : Int32)), .val (.int (3 : Int32)), .val (.int (-1 : Int32))] [(.int (-1 : Int32))])
          refine Goes.outN X24 (fun q => by rw [hret] at q; cases q) hlk (X24.rI hret (hb hby d_jdk_43_method_27_39)) ?_ (by decide) (by decide)
          exact ⟨Ext.oKeepOf X24.ext [], by rw [own_l4, if_neg hk3, own_l3, if_neg hk2, own_l2, if_neg hk1, own_l1, if_neg hk0]⟩
        · have hk0 : (d0.toInt8.toInt32) = (46 : Int32) := Classical.not_not.mp hk0
          show Goes _ _ _ _ T24 (mkF m 30 #[.val (.ref t), .val (.int (46 : Int32)), .val (.int (3 : Int32)), .val (.int (0 : Int32))] [])
          rw [own_b46 b0] at hk0
          refine Goes.go (fun _ kS_ => XS.iloadN X24.here X24.ex rfl (hb hby d_jdk_43_method_27_30) rfl kS_) ?_
          show Goes _ _ _ _ T24 (mkF m 31 #[.val (.ref t), .val (.int (46 : Int32)), .val (.int (3 : Int32)), .val (.int (0 : Int32))] [(.int (0 : Int32))])
          refine Goes.outN X24 (fun q => by rw [hret] at q; cases q) hlk (X24.rI hret (hb hby d_jdk_43_method_27_31)) ?_ (by decide) (by decide)
          exact ⟨Ext.oKeepOf X24.ext [], by rw [own_l4, if_neg hk3, own_l3, if_neg hk2, own_l2, if_neg hk1, own_l1, if_pos hk0]⟩
      · have hk1 : (d1.toInt8.toInt32) = (46 : Int32) := Classical.not_not.mp hk1
        show Goes _ _ _ _ T24 (mkF m 30 #[.val (.ref t), .val (.int (46 : Int32)), .val (.int (3 : Int32)), .val (.int (1 : Int32))] [])
        rw [own_b46 b1] at hk1
        refine Goes.go (fun _ kS_ => XS.iloadN X24.here X24.ex rfl (hb hby d_jdk_43_method_27_30) rfl kS_) ?_
        show Goes _ _ _ _ T24 (mkF m 31 #[.val (.ref t), .val (.int (46 : Int32)), .val (.int (3 : Int32)), .val (.int (1 : Int32))] [(.int (1 : Int32))])
        refine Goes.outN X24 (fun q => by rw [hret] at q; cases q) hlk (X24.rI hret (hb hby d_jdk_43_method_27_31)) ?_ (by decide) (by decide)
        exact ⟨Ext.oKeepOf X24.ext [], by rw [own_l4, if_neg hk3, own_l3, if_neg hk2, own_l2, if_pos hk1]⟩
    · have hk2 : (d2.toInt8.toInt32) = (46 : Int32) := Classical.not_not.mp hk2
      show Goes _ _ _ _ T24 (mkF m 30 #[.val (.ref t), .val (.int (46 : Int32)), .val (.int (3 : Int32)), .val (.int (2 : Int32))] [])
      rw [own_b46 b2] at hk2
      refine Goes.go (fun _ kS_ => XS.iloadN X24.here X24.ex rfl (hb hby d_jdk_43_method_27_30) rfl kS_) ?_
      show Goes _ _ _ _ T24 (mkF m 31 #[.val (.ref t), .val (.int (46 : Int32)), .val (.int (3 : Int32)), .val (.int (2 : Int32))] [(.int (2 : Int32))])
      refine Goes.outN X24 (fun q => by rw [hret] at q; cases q) hlk (X24.rI hret (hb hby d_jdk_43_method_27_31)) ?_ (by decide) (by decide)
      exact ⟨Ext.oKeepOf X24.ext [], by rw [own_l4, if_neg hk3, own_l3, if_pos hk2]⟩
  · have hk3 : (d3.toInt8.toInt32) = (46 : Int32) := Classical.not_not.mp hk3
    show Goes _ _ _ _ T24 (mkF m 30 #[.val (.ref t), .val (.int (46 : Int32)), .val (.int (3 : Int32)), .val (.int (3 : Int32))] [])
    rw [own_b46 b3] at hk3
    refine Goes.go (fun _ kS_ => XS.iloadN X24.here X24.ex rfl (hb hby d_jdk_43_method_27_30) rfl kS_) ?_
    show Goes _ _ _ _ T24 (mkF m 31 #[.val (.ref t), .val (.int (46 : Int32)), .val (.int (3 : Int32)), .val (.int (3 : Int32))] [(.int (3 : Int32))])
    refine Goes.outN X24 (fun q => by rw [hret] at q; cases q) hlk (X24.rI hret (hb hby d_jdk_43_method_27_31)) ?_ (by decide) (by decide)
    exact ⟨Ext.oKeepOf X24.ext [], by rw [own_l4, if_pos hk3]⟩
theorem own_lioA (l : Launch) (Z : State) (a0 : Array Value) (hw : ∀ d ∈ tables_1, d.before a0 Z = true) (h0 : Heap) (hO : Ext Z.heap h0) (t : Addr) (kb : ClassId) (cs : List Int32) (q1 : Int32) (hq : q1 = (Int32.ofNat cs.length) - 1) (V_t : Arv Z h0 t kb .byte (Int32.ofNat cs.length) ((cs.map fun c => c.toInt8.toInt32).map Value.int) (.int (0 : Int32))) (hp : ∀ c ∈ cs, ¬ c < 0 ∧ ¬ (255 : Int32) < c) (h4 : cs.length ≤ 4) :
    CtrN l Z (⟨"java/lang/StringLatin1", "lastIndexOf", "([BII)I"⟩ : MethodName) jdk_43_method_27_code 4 (some .int) ({ frames := 1, cells := 0, slots := 0, locals := 13 } : Room) #[(.ref t), (.int (46 : Int32)), (.int q1)] h0 (fun v h' => Keep h0 h' [] ∧ v = some (.int (own_last cs))) := by
  match cs, h4, hp, V_t, hq with
  | [], _, hp, V_t, hq =>
    obtain rfl : q1 = (-1 : Int32) := hq.trans (by simp only [List.length_cons, List.length_nil]; decide)
    exact own_lioA0 l Z a0 hw h0 hO t kb  V_t 
  | [d0], _, hp, V_t, hq =>
    obtain rfl : q1 = (0 : Int32) := hq.trans (by simp only [List.length_cons, List.length_nil]; decide)
    exact own_lioA1 l Z a0 hw h0 hO t kb d0 V_t (hp d0 (by simp))
  | [d0, d1], _, hp, V_t, hq =>
    obtain rfl : q1 = (1 : Int32) := hq.trans (by simp only [List.length_cons, List.length_nil]; decide)
    exact own_lioA2 l Z a0 hw h0 hO t kb d0 d1 V_t (hp d0 (by simp)) (hp d1 (by simp))
  | [d0, d1, d2], _, hp, V_t, hq =>
    obtain rfl : q1 = (2 : Int32) := hq.trans (by simp only [List.length_cons, List.length_nil]; decide)
    exact own_lioA3 l Z a0 hw h0 hO t kb d0 d1 d2 V_t (hp d0 (by simp)) (hp d1 (by simp)) (hp d2 (by simp))
  | [d0, d1, d2, d3], _, hp, V_t, hq =>
    obtain rfl : q1 = (3 : Int32) := hq.trans (by simp only [List.length_cons, List.length_nil]; decide)
    exact own_lioA4 l Z a0 hw h0 hO t kb d0 d1 d2 d3 V_t (hp d0 (by simp)) (hp d1 (by simp)) (hp d2 (by simp)) (hp d3 (by simp))
  | _ :: _ :: _ :: _ :: _ :: _, h, _, _, _ => exact absurd h (by simp only [List.length_cons, List.length_nil]; omega)
set_option maxRecDepth 65536 in
set_option maxHeartbeats 40000000 in
theorem own_lioB (l : Launch) (Z : State) (a0 : Array Value) (hw : ∀ d ∈ tables_1, d.before a0 Z = true) (h0 : Heap) (hO : Ext Z.heap h0) (x : Addr) (G1 : Int32) (cs : List Int32) (q1 : Int32) (O2 : Sta Z Z.heap "java/lang/String" "COMPACT_STRINGS" "Z" (.int G1)) (P5 : ¬ (G1 = (0 : Int32))) (hq : q1 = (Int32.ofNat cs.length) - 1) (S_x : LStr Z h0 x cs) (h4 : cs.length ≤ 4) :
    CtrN l Z (⟨"java/lang/String", "lastIndexOf", "(II)I"⟩ : MethodName) jdk_42_method_83_code 3 (some .int) ({ frames := 2, cells := 0, slots := 0, locals := 28 } : Room) #[(.ref x), (.int (46 : Int32)), (.int q1)] h0 (fun v h' => Keep h0 h' [] ∧ v = some (.int (own_last cs))) := by
  refine CtrN.of (plainFor_of_name pn_0) hO ?_
  intro p e s m below meth cD_ T0 X0 hsh hby hml hret hlk hnm
  refine Goes.cast (ef_own_lioB m x q1) ?_
  show Goes _ _ _ _ T0 (mkF m 0 #[.val (.ref x), .val (.int (46 : Int32)), .val (.int q1)] [])
  obtain ⟨Es29, Cs29, ⟨t29, kb29, Vs29, Ks29⟩, hp29, hl29⟩ := id S_x
  refine Goes.go (fun _ kS_ => XS.aloadN X0.here X0.ex rfl (hb hby d_jdk_42_method_83_0) rfl rfl kS_) ?_
  show Goes _ _ _ _ T0 (mkF m 1 #[.val (.ref x), .val (.int (46 : Int32)), .val (.int q1)] [(.ref x)])
  refine Wk.virtual (hm' := fun _ => h0) (C := "java/lang/String") (y := (⟨"java/lang/String", "isLatin1", "()Z"⟩ : MethodName)) (z := (⟨"java/lang/String", "isLatin1", "()Z"⟩ : MethodName)) (W := 0) (kc := 0) (ks := 0) (argsL := []) (rest := []) (as' := #[(.ref x)]) (ws := []) X0 (w_74 hw) (w_75 hw) (w_77 hw) (w_76 hw) (by decide) Es29 (nf_sel (w_77 hw)) (CtrN.pays (own_isL1 l Z a0 hw h0 X0.old x G1 O2 P5 Cs29) (w_78 hw) (w_10 hw) (by decide) (by decide)) (fun v h' L q => ⟨q.2, q.1.1⟩) all0 (fun _ => Mark.stay all0) rfl (by rw [hml]; rfl) (lenOf pd_2 rfl) rfl rfl (by show 2 * 0 + _ ≤ _; exact Nat.le_of_eq rfl) (hb hby d_jdk_42_method_83_1) (by decide) (by decide) ?_
  intro T30 h30 v30 L30 X30 q30 K30
  obtain ⟨⟨-, rfl⟩, -⟩ := q30
  replace Es29 := Es29.ext K30.oExt
  replace Cs29 := Cs29.ext K30.oExt
  replace Vs29 := Vs29.ext K30.oExt
  replace Ks29 := Ks29.ext K30.oExt
  show Goes _ _ _ _ T30 (mkF m 4 #[.val (.ref x), .val (.int (46 : Int32)), .val (.int q1)] [(.int (1 : Int32))])
  refine Goes.go (fun _ kS_ => XS.ifNo X30.here X30.ex rfl (hb hby d_jdk_42_method_83_4) rfl ((if0 _ _).trans (cd_f (cd := .eq) (x := (1 : Int32)) (y := (0 : Int32)) (by decide))) (XS.aloadN X30.here X30.ex rfl (hb hby d_jdk_42_method_83_7) rfl rfl kS_)) ?_
  show Goes _ _ _ _ T30 (mkF m 8 #[.val (.ref x), .val (.int (46 : Int32)), .val (.int q1)] [(.ref x)])
  refine Wk.getF X30 (host := "") (Or.inl (w_61 hw)) Via.refl Vs29 rfl rfl (hb hby d_jdk_42_method_83_8) ?_
  intro T31 X31
  show Goes _ _ _ _ T31 (mkF m 11 #[.val (.ref x), .val (.int (46 : Int32)), .val (.int q1)] [(.ref t29)])
  refine Goes.go (fun _ kS_ => XS.iloadN X31.here X31.ex rfl (hb hby d_jdk_42_method_83_11) rfl (XS.iloadN X31.here X31.ex rfl (hb hby d_jdk_42_method_83_12) rfl kS_)) ?_
  show Goes _ _ _ _ T31 (mkF m 13 #[.val (.ref x), .val (.int (46 : Int32)), .val (.int q1)] [(.int q1), (.int (46 : Int32)), (.ref t29)])
  refine Wk.static (hm' := fun _ => h0) (y := (⟨"java/lang/StringLatin1", "lastIndexOf", "([BII)I"⟩ : MethodName)) (W := 0) (kc := 0) (ks := 0) (argsL := [(.ref t29), (.int (46 : Int32)), (.int q1)]) (rest := []) (as' := #[(.ref t29), (.int (46 : Int32)), (.int q1)]) (ws := []) X31 (w_79 hw) (w_80 hw) (w_81 hw) (w_82 hw) (by decide) (CtrN.pays (own_lioA l Z a0 hw h30 X31.old t29 kb29 cs q1 hq Ks29 hp29 h4) (w_82 hw) (w_81 hw) (by decide) (by decide)) (fun v h' L q => ⟨q.2, q.1.1⟩) all0 (fun _ => Mark.stay all0) rfl (by rw [hml]; rfl) (lenOf pd_3 rfl) rfl rfl (by show 2 * 0 + _ ≤ _; exact Nat.le_of_eq rfl) (hb hby d_jdk_42_method_83_13) (by decide) (by decide) ?_
  intro T32 h32 v32 L32 X32 q32 K32
  obtain ⟨⟨-, rfl⟩, -⟩ := q32
  replace Es29 := Es29.ext K32.oExt
  replace Cs29 := Cs29.ext K32.oExt
  replace Vs29 := Vs29.ext K32.oExt
  replace Ks29 := Ks29.ext K32.oExt
  show Goes _ _ _ _ T32 (mkF m 16 #[.val (.ref x), .val (.int (46 : Int32)), .val (.int q1)] [(.int (own_last cs))])
  refine Goes.go (fun _ kS_ => XS.goto X32.here X32.ex rfl (pc0 := 16) (pc' := 28) rfl (hb hby d_jdk_42_method_83_16) (by decide) (by decide) kS_) ?_
  show Goes _ _ _ _ T32 (mkF m 28 #[.val (.ref x), .val (.int (46 : Int32)), .val (.int q1)] [(.int (own_last cs))])
  refine Goes.outN X32 (fun q => by rw [hret] at q; cases q) hlk (X32.rI hret (hb hby d_jdk_42_method_83_28)) ?_ (by decide) (by decide)
  exact ⟨Ext.oKeepOf X32.ext [], rfl⟩
set_option maxRecDepth 65536 in
set_option maxHeartbeats 40000000 in
theorem own_lio (l : Launch) (Z : State) (a0 : Array Value) (hw : ∀ d ∈ tables_1, d.before a0 Z = true) (h0 : Heap) (hO : Ext Z.heap h0) (x : Addr) (G1 : Int32) (cs : List Int32) (O2 : Sta Z Z.heap "java/lang/String" "COMPACT_STRINGS" "Z" (.int G1)) (P5 : ¬ (G1 = (0 : Int32))) (S_x : LStr Z h0 x cs) (h4 : cs.length ≤ 4) :
    CtrN l Z (⟨"java/lang/String", "lastIndexOf", "(I)I"⟩ : MethodName) jdk_42_method_82_code 2 (some .int) ({ frames := 3, cells := 0, slots := 0, locals := 42 } : Room) #[(.ref x), (.int (46 : Int32))] h0 (fun v h' => Keep h0 h' [] ∧ v = some (.int (own_last cs))) := by
  refine CtrN.of (plainFor_of_name pn_0) hO ?_
  intro p e s m below meth cD_ T0 X0 hsh hby hml hret hlk hnm
  refine Goes.cast (ef_own_lio m x) ?_
  show Goes _ _ _ _ T0 (mkF m 0 #[.val (.ref x), .val (.int (46 : Int32))] [])
  refine Goes.go (fun _ kS_ => XS.aloadN X0.here X0.ex rfl (hb hby d_jdk_42_method_82_0) rfl rfl (XS.iloadN X0.here X0.ex rfl (hb hby d_jdk_42_method_82_1) rfl (XS.aloadN X0.here X0.ex rfl (hb hby d_jdk_42_method_82_2) rfl rfl kS_))) ?_
  show Goes _ _ _ _ T0 (mkF m 3 #[.val (.ref x), .val (.int (46 : Int32))] [(.ref x), (.int (46 : Int32)), (.ref x)])
  refine Wk.virtual (hm' := fun _ => h0) (C := "java/lang/String") (y := (⟨"java/lang/String", "length", "()I"⟩ : MethodName)) (z := (⟨"java/lang/String", "length", "()I"⟩ : MethodName)) (W := 2) (kc := 0) (ks := 0) (argsL := []) (rest := [(.int (46 : Int32)), (.ref x)]) (as' := #[(.ref x)]) (ws := []) X0 (w_56 hw) (w_57 hw) (w_59 hw) (w_58 hw) (by decide) S_x.1 (nf_sel (w_59 hw)) (own_lenP (own_wsLen hw) (kI := 4) (w_11 hw) S_x O2 P5 X0.old (by decide) (by decide)) (fun v h' L q => ⟨by rw [q.2.1]; exact Fr.nil _, by rw [q.2.2]; exact Keep.refl _ _⟩) all0 (fun _ => Mark.stay all0) rfl (by rw [hml]; rfl) (lenOf pd_4 rfl) rfl rfl (by show 2 * 0 + _ ≤ _; exact Nat.le_of_eq rfl) (hb hby d_jdk_42_method_82_3) (by decide) (by decide) ?_
  intro T35 h35 v35 L35 X35 q35 K35
  obtain ⟨rfl, -, -⟩ := q35
  replace S_x := S_x.ext K35.oExt
  show Goes _ _ _ _ T35 (mkF m 6 #[.val (.ref x), .val (.int (46 : Int32))] [(.int (Int32.ofNat cs.length)), (.int (46 : Int32)), (.ref x)])
  refine Goes.go (fun _ kS_ => XS.iconst X35.here X35.ex rfl (hb hby d_jdk_42_method_82_6) (XS.isub X35.here X35.ex rfl (hb hby d_jdk_42_method_82_7) rfl kS_)) ?_
  show Goes _ _ _ _ T35 (mkF m 8 #[.val (.ref x), .val (.int (46 : Int32))] [(.int ((Int32.ofNat cs.length) - (1 : Int32))), (.int (46 : Int32)), (.ref x)])
  refine Wk.virtual (hm' := fun _ => h0) (C := "java/lang/String") (y := (⟨"java/lang/String", "lastIndexOf", "(II)I"⟩ : MethodName)) (z := (⟨"java/lang/String", "lastIndexOf", "(II)I"⟩ : MethodName)) (W := 0) (kc := 0) (ks := 0) (argsL := [(.int (46 : Int32)), (.int ((Int32.ofNat cs.length) - (1 : Int32)))]) (rest := []) (as' := #[(.ref x), (.int (46 : Int32)), (.int ((Int32.ofNat cs.length) - (1 : Int32)))]) (ws := []) X35 (w_69 hw) (w_70 hw) (w_72 hw) (w_71 hw) (by decide) S_x.1 (nf_sel (w_72 hw)) (CtrN.pays (own_lioB l Z a0 hw h35 X35.old x G1 cs ((Int32.ofNat cs.length) - (1 : Int32)) O2 P5 rfl S_x h4) (w_73 hw) (w_10 hw) (by decide) (by decide)) (fun v h' L q => ⟨q.2, q.1.1⟩) all0 (fun _ => Mark.stay all0) rfl (by rw [hml]; rfl) (lenOf pd_1 rfl) rfl rfl (by show 2 * 0 + _ ≤ _; exact Nat.le_of_eq rfl) (hb hby d_jdk_42_method_82_8) (by decide) (by decide) ?_
  intro T36 h36 v36 L36 X36 q36 K36
  obtain ⟨⟨-, rfl⟩, -⟩ := q36
  replace S_x := S_x.ext K36.oExt
  show Goes _ _ _ _ T36 (mkF m 11 #[.val (.ref x), .val (.int (46 : Int32))] [(.int (own_last cs))])
  refine Goes.outN X36 (fun q => by rw [hret] at q; cases q) hlk (X36.rI hret (hb hby d_jdk_42_method_82_11)) ?_ (by decide) (by decide)
  exact ⟨Ext.oKeepOf X36.ext [], rfl⟩
set_option maxRecDepth 65536 in
set_option maxHeartbeats 40000000 in
theorem own_cft (l : Launch) (Z : State) (a0 : Array Value) (hw : ∀ d ∈ tables_1, d.before a0 Z = true) (h0 : Heap) (hO : Ext Z.heap h0) (s0 : Int32) (n : Int32) (fm : Value) (r_fm : fm.isRef = true) (g1 : ¬ s0 < 0) (g2 : ¬ n < s0) :
    CtrN l Z (⟨"jdk/internal/util/Preconditions", "checkFromToIndex", "(IIILjava/util/function/BiFunction;)I"⟩ : MethodName) jdk_41_method_12_code 4 (some .int) ({ frames := 0, cells := 0, slots := 0, locals := 0 } : Room) #[(.int s0), (.int n), (.int n), fm] h0 (fun v h' => Keep h0 h' [] ∧ v = some (.int s0)) := by
  refine CtrN.of (plainFor_of_name pn_2) hO ?_
  intro p e s m below meth cD_ T0 X0 hsh hby hml hret hlk hnm
  refine Goes.cast (ef_own_cft m s0 n fm r_fm) ?_
  show Goes _ _ _ _ T0 (mkF m 0 #[.val (.int s0), .val (.int n), .val (.int n), .val fm] [])
  refine Goes.go (fun _ kS_ => XS.iloadN X0.here X0.ex rfl (hb hby d_jdk_41_method_12_0) rfl kS_) ?_
  show Goes _ _ _ _ T0 (mkF m 1 #[.val (.int s0), .val (.int n), .val (.int n), .val fm] [(.int s0)])
  refine Goes.go (fun _ kS_ => XS.ifNo X0.here X0.ex rfl (hb hby d_jdk_41_method_12_1) rfl ((if0 _ _).trans (cd_f (cd := .lt) (x := s0) (y := (0 : Int32)) (g1))) kS_) ?_
  show Goes _ _ _ _ T0 (mkF m 4 #[.val (.int s0), .val (.int n), .val (.int n), .val fm] [])
  refine Goes.go (fun _ kS_ => XS.iloadN X0.here X0.ex rfl (hb hby d_jdk_41_method_12_4) rfl (XS.iloadN X0.here X0.ex rfl (hb hby d_jdk_41_method_12_5) rfl kS_)) ?_
  show Goes _ _ _ _ T0 (mkF m 6 #[.val (.int s0), .val (.int n), .val (.int n), .val fm] [(.int n), (.int s0)])
  refine Goes.go (fun _ kS_ => XS.icmpNo X0.here X0.ex rfl (hb hby d_jdk_41_method_12_6) rfl (cd_f (cd := .gt) (x := s0) (y := n) (g2)) kS_) ?_
  show Goes _ _ _ _ T0 (mkF m 9 #[.val (.int s0), .val (.int n), .val (.int n), .val fm] [])
  refine Goes.go (fun _ kS_ => XS.iloadN X0.here X0.ex rfl (hb hby d_jdk_41_method_12_9) rfl (XS.iloadN X0.here X0.ex rfl (hb hby d_jdk_41_method_12_10) rfl kS_)) ?_
  show Goes _ _ _ _ T0 (mkF m 11 #[.val (.int s0), .val (.int n), .val (.int n), .val fm] [(.int n), (.int n)])
  refine Goes.go (fun _ kS_ => XS.icmpYes X0.here X0.ex rfl (pc0 := 11) (pc' := 22) rfl (hb hby d_jdk_41_method_12_11) rfl (cd_t (cd := .le) (x := n) (y := n) (Int32.lt_irrefl)) (by decide) (by decide) kS_) ?_
  show Goes _ _ _ _ T0 (mkF m 22 #[.val (.int s0), .val (.int n), .val (.int n), .val fm] [])
  refine Goes.go (fun _ kS_ => XS.iloadN X0.here X0.ex rfl (hb hby d_jdk_41_method_12_22) rfl kS_) ?_
  show Goes _ _ _ _ T0 (mkF m 23 #[.val (.int s0), .val (.int n), .val (.int n), .val fm] [(.int s0)])
  refine Goes.outN X0 (fun q => by rw [hret] at q; cases q) hlk (X0.rI hret (hb hby d_jdk_41_method_12_23)) ?_ (by decide) (by decide)
  exact ⟨Ext.oKeepOf X0.ext [], rfl⟩
set_option maxRecDepth 65536 in
set_option maxHeartbeats 40000000 in
theorem own_cbe (l : Launch) (Z : State) (a0 : Array Value) (hw : ∀ d ∈ tables_1, d.before a0 Z = true) (h0 : Heap) (hO : Ext Z.heap h0) (s0 : Int32) (n : Int32) (G3 : Value) (O4 : Sta Z Z.heap "jdk/internal/util/Preconditions" "SIOOBE_FORMATTER" "Ljava/util/function/BiFunction;" G3) (r_G3 : G3.isRef = true) (g1 : ¬ s0 < 0) (g2 : ¬ n < s0) :
    CtrN l Z (⟨"java/lang/String", "checkBoundsBeginEnd", "(III)V"⟩ : MethodName) jdk_42_method_158_code 3 none ({ frames := 1, cells := 0, slots := 0, locals := 15 } : Room) #[(.int s0), (.int n), (.int n)] h0 (fun v h' => Keep h0 h' [] ∧ v = none) := by
  refine CtrN.of (plainFor_of_name pn_0) hO ?_
  intro p e s m below meth cD_ T0 X0 hsh hby hml hret hlk hnm
  refine Goes.cast (ef_own_cbe m s0 n) ?_
  show Goes _ _ _ _ T0 (mkF m 0 #[.val (.int s0), .val (.int n), .val (.int n)] [])
  refine Goes.go (fun _ kS_ => XS.iloadN X0.here X0.ex rfl (hb hby d_jdk_42_method_158_0) rfl (XS.iloadN X0.here X0.ex rfl (hb hby d_jdk_42_method_158_1) rfl (XS.iloadN X0.here X0.ex rfl (hb hby d_jdk_42_method_158_2) rfl kS_))) ?_
  show Goes _ _ _ _ T0 (mkF m 3 #[.val (.int s0), .val (.int n), .val (.int n)] [(.int n), (.int n), (.int s0)])
  refine Wk.getS X0 (host := "") (Or.inl (w_103 hw)) Via.refl O4 rfl (hb hby d_jdk_42_method_158_3) ?_
  intro T39 X39
  show Goes _ _ _ _ T39 (mkF m 6 #[.val (.int s0), .val (.int n), .val (.int n)] [G3, (.int n), (.int n), (.int s0)])
  refine Wk.static (hm' := fun _ => h0) (y := (⟨"jdk/internal/util/Preconditions", "checkFromToIndex", "(IIILjava/util/function/BiFunction;)I"⟩ : MethodName)) (W := 0) (kc := 0) (ks := 0) (argsL := [(.int s0), (.int n), (.int n), G3]) (rest := []) (as' := #[(.int s0), (.int n), (.int n), G3]) (ws := []) X39 (w_105 hw) (w_106 hw) (w_104 hw) (w_107 hw) (by decide) (CtrN.pays (own_cft l Z a0 hw h0 X39.old s0 n G3 r_G3 g1 g2) (w_107 hw) (w_104 hw) (by decide) (by decide)) (fun v h' L q => ⟨q.2, q.1.1⟩) all0 (fun _ => Mark.stay all0) rfl (by rw [hml]; rfl) (lenOf pd_5 rfl) rfl rfl (by show 2 * 0 + _ ≤ _; exact Nat.le_of_eq rfl) (hb hby d_jdk_42_method_158_6) (by decide) (by decide) ?_
  intro T40 h40 v40 L40 X40 q40 K40
  obtain ⟨⟨-, rfl⟩, -⟩ := q40
  show Goes _ _ _ _ T40 (mkF m 9 #[.val (.int s0), .val (.int n), .val (.int n)] [(.int s0)])
  refine Goes.go (fun _ kS_ => XS.pop X40.here X40.ex rfl (hb hby d_jdk_42_method_158_9) rfl rfl kS_) ?_
  show Goes _ _ _ _ T40 (mkF m 10 #[.val (.int s0), .val (.int n), .val (.int n)] [])
  refine Goes.outN X40 (fun _ => rfl) hlk (X40.rV hret (hb hby d_jdk_42_method_158_10)) ?_ (by decide) (by decide)
  exact ⟨Ext.oKeepOf X40.ext [], rfl⟩
set_option maxRecDepth 65536 in
set_option maxHeartbeats 40000000 in
theorem own_chl (l : Launch) (Z : State) (a0 : Array Value) (hw : ∀ d ∈ tables_1, d.before a0 Z = true) (h0 : Heap) (hO : Ext Z.heap h0) (s0 : Int32) (n : Int32) (g2 : ¬ n < s0) :
    CtrN l Z (⟨"java/util/Arrays", "checkLength", "(II)V"⟩ : MethodName) jdk_65_method_131_code 2 none ({ frames := 0, cells := 0, slots := 0, locals := 0 } : Room) #[(.int s0), (.int n)] h0 (fun v h' => Keep h0 h' [] ∧ v = none) := by
  refine CtrN.of (plainFor_of_name pn_3) hO ?_
  intro p e s m below meth cD_ T0 X0 hsh hby hml hret hlk hnm
  refine Goes.cast (ef_own_chl m s0 n) ?_
  show Goes _ _ _ _ T0 (mkF m 0 #[.val (.int s0), .val (.int n)] [])
  refine Goes.go (fun _ kS_ => XS.iloadN X0.here X0.ex rfl (hb hby d_jdk_65_method_131_0) rfl (XS.iloadN X0.here X0.ex rfl (hb hby d_jdk_65_method_131_1) rfl kS_)) ?_
  show Goes _ _ _ _ T0 (mkF m 2 #[.val (.int s0), .val (.int n)] [(.int s0), (.int n)])
  refine Goes.go (fun _ kS_ => XS.icmpYes X0.here X0.ex rfl (pc0 := 2) (pc' := 37) rfl (hb hby d_jdk_65_method_131_2) rfl (cd_t (cd := .ge) (x := n) (y := s0) (g2)) (by decide) (by decide) kS_) ?_
  show Goes _ _ _ _ T0 (mkF m 37 #[.val (.int s0), .val (.int n)] [])
  refine Goes.outN X0 (fun _ => rfl) hlk (X0.rV hret (hb hby d_jdk_65_method_131_37)) ?_ (by decide) (by decide)
  exact ⟨Ext.oKeepOf X0.ext [], rfl⟩
set_option maxRecDepth 65536 in
set_option maxHeartbeats 40000000 in
theorem own_newB (l : Launch) (Z : State) (a0 : Array Value) (hw : ∀ d ∈ tables_1, d.before a0 Z = true) (h0 : Heap) (hO : Ext Z.heap h0) (x : Addr) (t : Addr) (E_x : Exa Z h0 x "java/lang/String") (F_x_value : Fld Z h0 x "java/lang/String" "value" "[B" .null) (F_x_coder : Fld Z h0 x "java/lang/String" "coder" "B" (.int (0 : Int32))) (gz_x : Z.heap.size ≤ x) :
    CtrN l Z (⟨"java/lang/String", "<init>", "([BB)V"⟩ : MethodName) jdk_42_method_151_code 3 none ({ frames := 1, cells := 0, slots := 0, locals := 12 } : Room) #[(.ref x), (.ref t), (.int (0 : Int32))] h0 (fun v h' => Keep h0 h' [x] ∧ v = none ∧ Exa Z h' x "java/lang/String" ∧ Fld Z h' x "java/lang/String" "value" "[B" (.ref t) ∧ Fld Z h' x "java/lang/String" "coder" "B" (.int (0 : Int32))) := by
  refine CtrN.of (plainFor_of_name pn_0) hO ?_
  intro p e s m below meth cD_ T0 X0 hsh hby hml hret hlk hnm
  refine Goes.cast (ef_own_newB m x t) ?_
  show Goes _ _ _ _ T0 (mkF m 0 #[.val (.ref x), .val (.ref t), .val (.int (0 : Int32))] [])
  refine Goes.go (fun _ kS_ => XS.aloadN X0.here X0.ex rfl (hb hby d_jdk_42_method_151_0) rfl rfl kS_) ?_
  show Goes _ _ _ _ T0 (mkF m 1 #[.val (.ref x), .val (.ref t), .val (.int (0 : Int32))] [(.ref x)])
  have K0 : Keep h0 h0 [x] := Keep.refl _ _
  refine Wk.initO X0 (w_120 hw) (w_32 hw) (w_33 hw) rfl (by rw [hml]; rfl) rfl (hb hby d_jdk_42_method_151_1) (by decide) (W := 0) (by show 2 * 0 + _ ≤ _; exact Nat.le_of_eq rfl) (by decide) ?_
  intro T41 X41
  show Goes _ _ _ _ T41 (mkF m 4 #[.val (.ref x), .val (.ref t), .val (.int (0 : Int32))] [])
  refine Goes.go (fun _ kS_ => XS.aloadN X41.here X41.ex rfl (hb hby d_jdk_42_method_151_4) rfl rfl (XS.aloadN X41.here X41.ex rfl (hb hby d_jdk_42_method_151_5) rfl rfl kS_)) ?_
  show Goes _ _ _ _ T41 (mkF m 6 #[.val (.ref x), .val (.ref t), .val (.int (0 : Int32))] [(.ref t), (.ref x)])
  refine Wk.putF (hm' := fun h' => h') X41 (host := "") (Or.inl (w_61 hw)) Via.refl F_x_value E_x (Or.inr ⟨(w_13 hw), rfl, hnm⟩) (w_11 hw) (ty := (.array .byte)) (by decide) rfl rfl gz_x (fun _ => Mark.anew (allS (Or.inr SafeA.nil) all0)) rfl rfl (hb hby d_jdk_42_method_151_6) ?_
  intro T42 h42 X42 W42
  have F42 := F_x_value.same W42
  replace E_x := E_x.wr W42
  replace F_x_coder := F_x_coder.other W42 (Or.inr (slot_ne (Or.inr (w_14 hw)) (Or.inr (w_13 hw)) (by decide) (t := .byte) (t' := (.array .byte)) (by decide) (by decide)))
  clear F_x_value; have F_x_value := F42
  show Goes _ _ _ _ T42 (mkF m 9 #[.val (.ref x), .val (.ref t), .val (.int (0 : Int32))] [])
  replace K0 := K0.wr W42 (Or.inl (List.mem_of_getElem? (i := 0) rfl))
  refine Goes.go (fun _ kS_ => XS.aloadN X42.here X42.ex rfl (hb hby d_jdk_42_method_151_9) rfl rfl (XS.iloadN X42.here X42.ex rfl (hb hby d_jdk_42_method_151_10) rfl kS_)) ?_
  show Goes _ _ _ _ T42 (mkF m 11 #[.val (.ref x), .val (.ref t), .val (.int (0 : Int32))] [(.int (0 : Int32)), (.ref x)])
  refine Wk.putFN (hm' := fun h' => h') X42 (w_68 hw) Via.refl F_x_coder E_x (Or.inr ⟨(w_14 hw), rfl, hnm⟩) (w_11 hw) (ty := .byte) (v' := (.int (nar .byte (0 : Int32)))) (by decide) rfl (fits_nar_byte _) gz_x (fun _ => Mark.anew (allS (Or.inr SafeA.nil) all0)) rfl rfl (hb hby d_jdk_42_method_151_11) ?_
  intro T43 h43 X43 W43
  have F43 := F_x_coder.same W43
  replace E_x := E_x.wr W43
  replace F_x_value := F_x_value.other W43 (Or.inr (slot_ne (Or.inr (w_13 hw)) (Or.inr (w_14 hw)) (by decide) (t := (.array .byte)) (t' := .byte) (by decide) (by decide)))
  clear F_x_coder; have F_x_coder := F43
  show Goes _ _ _ _ T43 (mkF m 14 #[.val (.ref x), .val (.ref t), .val (.int (0 : Int32))] [])
  replace K0 := K0.wr W43 (Or.inl (List.mem_of_getElem? (i := 0) rfl))
  refine Goes.outN X43 (fun _ => rfl) hlk (X43.rV hret (hb hby d_jdk_42_method_151_14)) ?_ (by decide) (by decide)
  exact ⟨K0, rfl, E_x, F_x_value, F_x_coder⟩
set_option maxRecDepth 65536 in
set_option maxHeartbeats 40000000 in
theorem own_crb41 (l : Launch) (Z : State) (a0 : Array Value) (hw : ∀ d ∈ tables_1, d.before a0 Z = true) (h0 : Heap) (hO : Ext Z.heap h0) (t : Addr) (kb : ClassId) (d0 : Int32) (d1 : Int32) (d2 : Int32) (d3 : Int32) (V_t : Arv Z h0 t kb .byte (4 : Int32) [(.int (d0.toInt8.toInt32)), (.int (d1.toInt8.toInt32)), (.int (d2.toInt8.toInt32)), (.int (d3.toInt8.toInt32))] (.int (0 : Int32))) :
    CtrN l Z (⟨"java/util/Arrays", "copyOfRangeByte", "([BII)[B"⟩ : MethodName) jdk_65_method_133_code 5 (some (.array .byte)) ({ frames := 1, cells := 1, slots := 3, locals := 18 } : Room) #[(.ref t), (.int (1 : Int32)), (.int (4 : Int32))] h0 (fun v h' => Keep h0 h' [] ∧ ∃ u ku, v = some (.ref u) ∧ Arv Z h' u ku .byte (3 : Int32) [(.int (d1.toInt8.toInt32)), (.int (d2.toInt8.toInt32)), (.int (d3.toInt8.toInt32))] (.int (0 : Int32)) ∧ h0.size ≤ u) := by
  refine CtrN.of (plainFor_of_name pn_3) hO ?_
  intro p e s m below meth cD_ T0 X0 hsh hby hml hret hlk hnm
  refine Goes.cast (ef_own_crb41 m t) ?_
  show Goes _ _ _ _ T0 (mkF m 0 #[.val (.ref t), .val (.int (1 : Int32)), .val (.int (4 : Int32)), .unset, .unset] [])
  refine Goes.go (fun _ kS_ => XS.iloadN X0.here X0.ex rfl (hb hby d_jdk_65_method_133_0) rfl (XS.iloadN X0.here X0.ex rfl (hb hby d_jdk_65_method_133_1) rfl kS_)) ?_
  show Goes _ _ _ _ T0 (mkF m 2 #[.val (.ref t), .val (.int (1 : Int32)), .val (.int (4 : Int32)), .unset, .unset] [(.int (4 : Int32)), (.int (1 : Int32))])
  refine Wk.static (hm' := fun _ => h0) (y := (⟨"java/util/Arrays", "checkLength", "(II)V"⟩ : MethodName)) (W := 0) (kc := 0) (ks := 0) (argsL := [(.int (1 : Int32)), (.int (4 : Int32))]) (rest := []) (as' := #[(.int (1 : Int32)), (.int (4 : Int32))]) (ws := []) X0 (w_157 hw) (w_158 hw) (w_152 hw) (w_159 hw) (by decide) (CtrN.pays (own_chl l Z a0 hw h0 X0.old (1 : Int32) (4 : Int32) (by decide)) (w_159 hw) (w_152 hw) (by decide) (by decide)) (fun v h' L q => ⟨q.2, q.1.1⟩) all0 (fun _ => Mark.stay all0) rfl (by rw [hml]; rfl) (lenOf pd_6 rfl) rfl rfl (by show 2 * 0 + _ ≤ _; exact Nat.le_of_eq rfl) (hb hby d_jdk_65_method_133_2) (by decide) (by decide) ?_
  intro T48 h48 v48 L48 X48 q48 K48
  obtain ⟨⟨-, rfl⟩, -⟩ := q48
  replace V_t := V_t.ext K48.oExt
  show Goes _ _ _ _ T48 (mkF m 5 #[.val (.ref t), .val (.int (1 : Int32)), .val (.int (4 : Int32)), .unset, .unset] [])
  refine Goes.go (fun _ kS_ => XS.iloadN X48.here X48.ex rfl (hb hby d_jdk_65_method_133_5) rfl (XS.iloadN X48.here X48.ex rfl (hb hby d_jdk_65_method_133_6) rfl (XS.isub X48.here X48.ex rfl (hb hby d_jdk_65_method_133_7) rfl kS_))) ?_
  show Goes _ _ _ _ T48 (mkF m 8 #[.val (.ref t), .val (.int (1 : Int32)), .val (.int (4 : Int32)), .unset, .unset] [(.int ((4 : Int32) - (1 : Int32)))])
  refine Goes.cast (congrArg (fun zq_ => (mkF m 8 #[.val (.ref t), .val (.int (1 : Int32)), .val (.int (4 : Int32)), .unset, .unset] [(.int zq_)])) (show (((4 : Int32) - (1 : Int32)) : Int32) = (3 : Int32) from by decide)) ?_
  show Goes _ _ _ _ T48 (mkF m 8 #[.val (.ref t), .val (.int (1 : Int32)), .val (.int (4 : Int32)), .unset, .unset] [(.int (3 : Int32))])
  refine Goes.go (fun _ kS_ => XS.istoreN X48.here X48.ex rfl (hb hby d_jdk_65_method_133_8) rfl (l' := #[.val (.ref t), .val (.int (1 : Int32)), .val (.int (4 : Int32)), .val (.int (3 : Int32)), .unset]) rfl (XS.iloadN X48.here X48.ex rfl (hb hby d_jdk_65_method_133_9) rfl kS_)) ?_
  show Goes _ _ _ _ T48 (mkF m 10 #[.val (.ref t), .val (.int (1 : Int32)), .val (.int (4 : Int32)), .val (.int (3 : Int32)), .unset] [(.int (3 : Int32))])
  refine Wk.newA (aty := .byte) X48 (w_12 hw) rfl (hb hby d_jdk_65_method_133_10) rfl (by decide) (cap := 3) (by decide) (by decide) (by decide) (by decide) ?_
  intro T49 h49 b49 k49 g49 X49 E49 A49 B_b49
  have lt_t_b49 : t < b49 := by rw [g49]; exact V_t.lt
  replace V_t := V_t.ext E49
  have V_b49 : Arv Z h49 b49 k49 .byte (3 : Int32) [(.int (0 : Int32)), (.int (0 : Int32)), (.int (0 : Int32))] (.int (0 : Int32)) := A49.pad (pad_rep [] (.int (0 : Int32)) 3)
  have gz_b49 : Z.heap.size ≤ b49 := g49 ▸ X48.old.1
  have gm_b49 : h0.size ≤ b49 := g49 ▸ X48.ext.1
  show Goes _ _ _ _ T49 (mkF m 12 #[.val (.ref t), .val (.int (1 : Int32)), .val (.int (4 : Int32)), .val (.int (3 : Int32)), .unset] [(.ref b49)])
  refine Goes.go (fun _ kS_ => XS.astore X49.here X49.ex rfl (hb hby d_jdk_65_method_133_12) rfl rfl (l' := #[.val (.ref t), .val (.int (1 : Int32)), .val (.int (4 : Int32)), .val (.int (3 : Int32)), .val (.ref b49)]) rfl (XS.aloadN X49.here X49.ex rfl (hb hby d_jdk_65_method_133_14) rfl rfl (XS.iloadN X49.here X49.ex rfl (hb hby d_jdk_65_method_133_15) rfl (XS.aload X49.here X49.ex rfl (hb hby d_jdk_65_method_133_16) rfl rfl (XS.iconst X49.here X49.ex rfl (hb hby d_jdk_65_method_133_18) (XS.aloadN X49.here X49.ex rfl (hb hby d_jdk_65_method_133_19) rfl rfl kS_)))))) ?_
  show Goes _ _ _ _ T49 (mkF m 20 #[.val (.ref t), .val (.int (1 : Int32)), .val (.int (4 : Int32)), .val (.int (3 : Int32)), .val (.ref b49)] [(.ref t), (.int (0 : Int32)), (.ref b49), (.int (1 : Int32)), (.ref t)])
  refine Goes.go (X49.alen V_t rfl rfl (hb hby d_jdk_65_method_133_20)) ?_
  show Goes _ _ _ _ T49 (mkF m 21 #[.val (.ref t), .val (.int (1 : Int32)), .val (.int (4 : Int32)), .val (.int (3 : Int32)), .val (.ref b49)] [(.int (4 : Int32)), (.int (0 : Int32)), (.ref b49), (.int (1 : Int32)), (.ref t)])
  refine Goes.go (fun _ kS_ => XS.iloadN X49.here X49.ex rfl (hb hby d_jdk_65_method_133_21) rfl (XS.isub X49.here X49.ex rfl (hb hby d_jdk_65_method_133_22) rfl kS_)) ?_
  show Goes _ _ _ _ T49 (mkF m 23 #[.val (.ref t), .val (.int (1 : Int32)), .val (.int (4 : Int32)), .val (.int (3 : Int32)), .val (.ref b49)] [(.int ((4 : Int32) - (1 : Int32))), (.int (0 : Int32)), (.ref b49), (.int (1 : Int32)), (.ref t)])
  refine Goes.cast (congrArg (fun zq_ => (mkF m 23 #[.val (.ref t), .val (.int (1 : Int32)), .val (.int (4 : Int32)), .val (.int (3 : Int32)), .val (.ref b49)] [(.int zq_), (.int (0 : Int32)), (.ref b49), (.int (1 : Int32)), (.ref t)])) (show (((4 : Int32) - (1 : Int32)) : Int32) = (3 : Int32) from by decide)) ?_
  show Goes _ _ _ _ T49 (mkF m 23 #[.val (.ref t), .val (.int (1 : Int32)), .val (.int (4 : Int32)), .val (.int (3 : Int32)), .val (.ref b49)] [(.int (3 : Int32)), (.int (0 : Int32)), (.ref b49), (.int (1 : Int32)), (.ref t)])
  refine Goes.go (fun _ kS_ => XS.iloadN X49.here X49.ex rfl (hb hby d_jdk_65_method_133_23) rfl kS_) ?_
  show Goes _ _ _ _ T49 (mkF m 24 #[.val (.ref t), .val (.int (1 : Int32)), .val (.int (4 : Int32)), .val (.int (3 : Int32)), .val (.ref b49)] [(.int (3 : Int32)), (.int (3 : Int32)), (.int (0 : Int32)), (.ref b49), (.int (1 : Int32)), (.ref t)])
  refine Wk.static (hm' := fun _ => h0) (y := (⟨"java/lang/Math", "min", "(II)I"⟩ : MethodName)) (W := 4) (kc := 0) (ks := 0) (argsL := [(.int (3 : Int32)), (.int (3 : Int32))]) (rest := [(.int (0 : Int32)), (.ref b49), (.int (1 : Int32)), (.ref t)]) (as' := #[(.int (3 : Int32)), (.int (3 : Int32))]) (ws := []) X49 (w_160 hw) (w_87 hw) (w_88 hw) (w_89 hw) (by decide) (CtrN.pays (own_min l Z a0 hw h49 X49.old (3 : Int32)) (w_89 hw) (w_88 hw) (by decide) (by decide)) (fun v h' L q => ⟨q.2, q.1.1⟩) all0 (fun _ => Mark.stay all0) rfl (by rw [hml]; rfl) (lenOf pd_1 rfl) rfl rfl (by show 2 * 0 + _ ≤ _; exact Nat.le_of_eq rfl) (hb hby d_jdk_65_method_133_24) (by decide) (by decide) ?_
  intro T50 h50 v50 L50 X50 q50 K50
  obtain ⟨⟨-, rfl⟩, -⟩ := q50
  replace V_t := V_t.ext K50.oExt
  replace V_b49 := V_b49.ext K50.oExt
  show Goes _ _ _ _ T50 (mkF m 27 #[.val (.ref t), .val (.int (1 : Int32)), .val (.int (4 : Int32)), .val (.int (3 : Int32)), .val (.ref b49)] [(.int (3 : Int32)), (.int (0 : Int32)), (.ref b49), (.int (1 : Int32)), (.ref t)])
  refine Wk.acopy (hm' := fun _ => h0) X50 (w_161 hw) (w_164 hw) (w_162 hw) (w_163 hw) V_t V_b49 ⟨rfl, rfl⟩ (by decide) (by decide) (by decide) (by decide) (by decide) (us := [(.int (d1.toInt8.toInt32)), (.int (d2.toInt8.toInt32)), (.int (d3.toInt8.toInt32))]) rfl (Nat.le_of_ble_eq_true rfl) gz_b49 (fun _ => Mark.stay (allS gm_b49 all0)) rfl (by rw [hml]; rfl) rfl (hb hby d_jdk_65_method_133_27) (by decide) (W := 0) (by show 2 * 0 + _ ≤ _; exact Nat.le_of_eq rfl) (by decide) ?_
  intro T51 h51 X51 K51 V51
  have V_b49 : Arv Z h51 b49 _ .byte (3 : Int32) [(.int (d1.toInt8.toInt32)), (.int (d2.toInt8.toInt32)), (.int (d3.toInt8.toInt32))] (.int (0 : Int32)) := V51
  show Goes _ _ _ _ T51 (mkF m 30 #[.val (.ref t), .val (.int (1 : Int32)), .val (.int (4 : Int32)), .val (.int (3 : Int32)), .val (.ref b49)] [])
  refine Goes.go (fun _ kS_ => XS.aload X51.here X51.ex rfl (hb hby d_jdk_65_method_133_30) rfl rfl kS_) ?_
  show Goes _ _ _ _ T51 (mkF m 32 #[.val (.ref t), .val (.int (1 : Int32)), .val (.int (4 : Int32)), .val (.int (3 : Int32)), .val (.ref b49)] [(.ref b49)])
  refine Goes.outN X51 (fun q => by rw [hret] at q; cases q) hlk (X51.rA hret rfl rfl (hb hby d_jdk_65_method_133_32)) ?_ (by decide) (by decide)
  exact ⟨Ext.oKeepOf X51.ext [], b49, _, rfl, V_b49, gm_b49⟩
set_option maxRecDepth 65536 in
set_option maxHeartbeats 40000000 in
theorem own_cor41 (l : Launch) (Z : State) (a0 : Array Value) (hw : ∀ d ∈ tables_1, d.before a0 Z = true) (h0 : Heap) (hO : Ext Z.heap h0) (t : Addr) (kb : ClassId) (d0 : Int32) (d1 : Int32) (d2 : Int32) (d3 : Int32) (V_t : Arv Z h0 t kb .byte (4 : Int32) [(.int (d0.toInt8.toInt32)), (.int (d1.toInt8.toInt32)), (.int (d2.toInt8.toInt32)), (.int (d3.toInt8.toInt32))] (.int (0 : Int32))) :
    CtrN l Z (⟨"java/util/Arrays", "copyOfRange", "([BII)[B"⟩ : MethodName) jdk_65_method_132_code 3 (some (.array .byte)) ({ frames := 2, cells := 1, slots := 3, locals := 34 } : Room) #[(.ref t), (.int (1 : Int32)), (.int (4 : Int32))] h0 (fun v h' => Keep h0 h' [] ∧ ∃ u ku, v = some (.ref u) ∧ Arv Z h' u ku .byte (3 : Int32) [(.int (d1.toInt8.toInt32)), (.int (d2.toInt8.toInt32)), (.int (d3.toInt8.toInt32))] (.int (0 : Int32)) ∧ h0.size ≤ u) := by
  refine CtrN.of (plainFor_of_name pn_3) hO ?_
  intro p e s m below meth cD_ T0 X0 hsh hby hml hret hlk hnm
  refine Goes.cast (ef_own_cor41 m t) ?_
  show Goes _ _ _ _ T0 (mkF m 0 #[.val (.ref t), .val (.int (1 : Int32)), .val (.int (4 : Int32))] [])
  refine Goes.go (fun _ kS_ => XS.iloadN X0.here X0.ex rfl (hb hby d_jdk_65_method_132_0) rfl (XS.ifYes X0.here X0.ex rfl (pc0 := 1) (pc' := 10) rfl (hb hby d_jdk_65_method_132_1) rfl ((if0 _ _).trans (cd_t (cd := .ne) (x := (1 : Int32)) (y := (0 : Int32)) (by decide))) (by decide) (by decide) (XS.aloadN X0.here X0.ex rfl (hb hby d_jdk_65_method_132_10) rfl rfl (XS.iloadN X0.here X0.ex rfl (hb hby d_jdk_65_method_132_11) rfl (XS.iloadN X0.here X0.ex rfl (hb hby d_jdk_65_method_132_12) rfl kS_))))) ?_
  show Goes _ _ _ _ T0 (mkF m 13 #[.val (.ref t), .val (.int (1 : Int32)), .val (.int (4 : Int32))] [(.int (4 : Int32)), (.int (1 : Int32)), (.ref t)])
  refine Wk.static (hm' := fun _ => h0) (y := (⟨"java/util/Arrays", "copyOfRangeByte", "([BII)[B"⟩ : MethodName)) (W := 0) (kc := 1) (ks := 3) (argsL := [(.ref t), (.int (1 : Int32)), (.int (4 : Int32))]) (rest := []) (as' := #[(.ref t), (.int (1 : Int32)), (.int (4 : Int32))]) (ws := []) X0 (w_154 hw) (w_155 hw) (w_152 hw) (w_156 hw) (by decide) (CtrN.pays (own_crb41 l Z a0 hw h0 X0.old t kb d0 d1 d2 d3 V_t) (w_156 hw) (w_152 hw) (by decide) (by decide)) (fun v h' L q => ⟨q.2, q.1.1⟩) all0 (fun _ => Mark.stay all0) rfl (by rw [hml]; rfl) (lenOf pd_7 rfl) rfl rfl (by show 2 * 0 + _ ≤ _; exact Nat.le_of_eq rfl) (hb hby d_jdk_65_method_132_13) (by decide) (by decide) ?_
  intro T53 h53 v53 L53 X53 q53 K53
  obtain ⟨⟨-, u53, ku53, rfl, U53, gu53⟩, -⟩ := q53
  show Goes _ _ _ _ T53 (mkF m 16 #[.val (.ref t), .val (.int (1 : Int32)), .val (.int (4 : Int32))] [(.ref u53)])
  refine Goes.outN X53 (fun q => by rw [hret] at q; cases q) hlk (X53.rA hret rfl rfl (hb hby d_jdk_65_method_132_16)) ?_ (by decide) (by decide)
  exact ⟨Ext.oKeepOf X53.ext [], u53, ku53, rfl, U53, gu53⟩
set_option maxRecDepth 65536 in
set_option maxHeartbeats 40000000 in
theorem own_nst41 (l : Launch) (Z : State) (a0 : Array Value) (hw : ∀ d ∈ tables_1, d.before a0 Z = true) (hEL : EW Z a0 consts_1) (h0 : Heap) (hO : Ext Z.heap h0) (t : Addr) (kb : ClassId) (d0 : Int32) (d1 : Int32) (d2 : Int32) (d3 : Int32) (V_t : Arv Z h0 t kb .byte (4 : Int32) [(.int (d0.toInt8.toInt32)), (.int (d1.toInt8.toInt32)), (.int (d2.toInt8.toInt32)), (.int (d3.toInt8.toInt32))] (.int (0 : Int32))) (b0 : ¬ d0 < 0 ∧ ¬ (255 : Int32) < d0) (b1 : ¬ d1 < 0 ∧ ¬ (255 : Int32) < d1) (b2 : ¬ d2 < 0 ∧ ¬ (255 : Int32) < d2) (b3 : ¬ d3 < 0 ∧ ¬ (255 : Int32) < d3) :
    CtrS l Z consts_1 (⟨"java/lang/StringLatin1", "newString", "([BII)Ljava/lang/String;"⟩ : MethodName) jdk_43_method_47_code 3 (some (.object "java/lang/String")) ({ frames := 3, cells := 2, slots := 7, locals := 50 } : Room) #[(.ref t), (.int (1 : Int32)), (.int (3 : Int32))] h0 (fun v h' => Keep h0 h' [] ∧ ∃ a, v = some (.ref a) ∧ LStr Z h' a ([d1, d2, d3] : List Int32)) := by
  refine CtrS.of (plainFor_of_name pn_1) hO ?_
  intro p e s m below meth cD_ T0 X0 hsh hby hml hret hlk hnm
  refine Goes.cast (ef_own_nst41 m t) ?_
  show Goes _ _ _ _ T0 (mkF m 0 #[.val (.ref t), .val (.int (1 : Int32)), .val (.int (3 : Int32))] [])
  refine Goes.go (fun _ kS_ => XS.iloadN X0.here X0.ex rfl (hb hby d_jdk_43_method_47_0) rfl (XS.ifYes X0.here X0.ex rfl (pc0 := 1) (pc' := 7) rfl (hb hby d_jdk_43_method_47_1) rfl ((if0 _ _).trans (cd_t (cd := .ne) (x := (3 : Int32)) (y := (0 : Int32)) (by decide))) (by decide) (by decide) kS_)) ?_
  show Goes _ _ _ _ T0 (mkF m 7 #[.val (.ref t), .val (.int (1 : Int32)), .val (.int (3 : Int32))] [])
  refine Wk.new X0 (w_149 hw) (w_11 hw) (w_10 hw) rfl (hb hby d_jdk_43_method_47_7) (by decide) (by decide) ?_
  intro T57 h57 a57 g57 X57 E57 A57 D57
  have gz_a57 : Z.heap.size ≤ a57 := g57 ▸ X0.old.1
  have gm_a57 : h0.size ≤ a57 := g57 ▸ X0.ext.1
  have F_a57_value : Fld Z h57 a57 "java/lang/String" "value" "[B" .null := D57 (Or.inr (w_13 hw)) (ty := (.array .byte)) (by decide)
  have F_a57_coder : Fld Z h57 a57 "java/lang/String" "coder" "B" (.int (0 : Int32)) := D57 (Or.inr (w_14 hw)) (ty := .byte) (by decide)
  clear D57
  show Goes _ _ _ _ T57 (mkF m 10 #[.val (.ref t), .val (.int (1 : Int32)), .val (.int (3 : Int32))] [(.ref a57)])
  refine Goes.go (fun _ kS_ => XS.dup X57.here X57.ex rfl (hb hby d_jdk_43_method_47_10) rfl rfl (XS.aloadN X57.here X57.ex rfl (hb hby d_jdk_43_method_47_11) rfl rfl (XS.iloadN X57.here X57.ex rfl (hb hby d_jdk_43_method_47_12) rfl (XS.iloadN X57.here X57.ex rfl (hb hby d_jdk_43_method_47_13) rfl (XS.iloadN X57.here X57.ex rfl (hb hby d_jdk_43_method_47_14) rfl (XS.iadd X57.here X57.ex rfl (hb hby d_jdk_43_method_47_15) rfl kS_)))))) ?_
  show Goes _ _ _ _ T57 (mkF m 16 #[.val (.ref t), .val (.int (1 : Int32)), .val (.int (3 : Int32))] [(.int ((1 : Int32) + (3 : Int32))), (.int (1 : Int32)), (.ref t), (.ref a57), (.ref a57)])
  refine Goes.cast (congrArg (fun zq_ => (mkF m 16 #[.val (.ref t), .val (.int (1 : Int32)), .val (.int (3 : Int32))] [(.int zq_), (.int (1 : Int32)), (.ref t), (.ref a57), (.ref a57)])) (show (((1 : Int32) + (3 : Int32)) : Int32) = (4 : Int32) from by decide)) ?_
  show Goes _ _ _ _ T57 (mkF m 16 #[.val (.ref t), .val (.int (1 : Int32)), .val (.int (3 : Int32))] [(.int (4 : Int32)), (.int (1 : Int32)), (.ref t), (.ref a57), (.ref a57)])
  refine Wk.static (hm' := fun _ => h0) (y := (⟨"java/util/Arrays", "copyOfRange", "([BII)[B"⟩ : MethodName)) (W := 2) (kc := 1) (ks := 3) (argsL := [(.ref t), (.int (1 : Int32)), (.int (4 : Int32))]) (rest := [(.ref a57), (.ref a57)]) (as' := #[(.ref t), (.int (1 : Int32)), (.int (4 : Int32))]) (ws := []) X57 (w_150 hw) (w_151 hw) (w_152 hw) (w_153 hw) (by decide) (CtrN.pays (own_cor41 l Z a0 hw h57 X57.old t kb d0 d1 d2 d3 (V_t.ext X57.ext)) (w_153 hw) (w_152 hw) (by decide) (by decide)) (fun v h' L q => ⟨q.2, q.1.1⟩) all0 (fun _ => Mark.stay all0) rfl (by rw [hml]; rfl) (lenOf pd_7 rfl) rfl rfl (by show 2 * 0 + _ ≤ _; exact Nat.le_of_eq rfl) (hb hby d_jdk_43_method_47_16) (by decide) (by decide) ?_
  intro T58 h58 v58 L58 X58 q58 K58
  obtain ⟨⟨-, u58, ku58, rfl, U58, gu58⟩, -⟩ := q58
  replace A57 := A57.ext K58.oExt
  replace F_a57_value := F_a57_value.ext K58.oExt
  replace F_a57_coder := F_a57_coder.ext K58.oExt
  show Goes _ _ _ _ T58 (mkF m 19 #[.val (.ref t), .val (.int (1 : Int32)), .val (.int (3 : Int32))] [(.ref u58), (.ref a57), (.ref a57)])
  refine Goes.go (fun _ kS_ => XS.iconst X58.here X58.ex rfl (hb hby d_jdk_43_method_47_19) kS_) ?_
  show Goes _ _ _ _ T58 (mkF m 20 #[.val (.ref t), .val (.int (1 : Int32)), .val (.int (3 : Int32))] [(.int (0 : Int32)), (.ref u58), (.ref a57), (.ref a57)])
  refine Wk.special (hm' := fun _ => h0) (y := (⟨"java/lang/String", "<init>", "([BB)V"⟩ : MethodName)) (W := 1) (kc := 0) (ks := 0) (argsL := [(.ref u58), (.int (0 : Int32))]) (rest := [(.ref a57)]) (as' := #[(.ref a57), (.ref u58), (.int (0 : Int32))]) (ws := [a57]) X58 rfl (w_165 hw) (w_166 hw) (w_167 hw) (by decide) (CtrN.pays (own_newB l Z a0 hw h58 X58.old a57 u58 A57 F_a57_value F_a57_coder gz_a57) (w_167 hw) (w_10 hw) (by decide) (by decide)) (fun v h' L q => ⟨q.2, q.1.1⟩) (allS gz_a57 all0) (fun _ => Mark.stay (allS gm_a57 all0)) rfl (by rw [hml]; rfl) (lenOf pd_8 rfl) rfl rfl (by show 2 * 0 + _ ≤ _; exact Nat.le_of_eq rfl) (hb hby d_jdk_43_method_47_20) (by decide) (by decide) ?_
  intro T59 h59 v59 L59 X59 q59 K59
  obtain ⟨⟨-, rfl, Es59, Vs59, Cs59⟩, -⟩ := q59
  show Goes _ _ _ _ T59 (mkF m 23 #[.val (.ref t), .val (.int (1 : Int32)), .val (.int (3 : Int32))] [(.ref a57)])
  have nt : u58 ∉ [a57] := ninS (Exa.neArv A57 U58 (w_11 hw)).symm nin0
  replace U58 := U58.keep K59 nt
  have hpp : ∀ c ∈ ([d1, d2, d3] : List Int32), ¬ c < 0 ∧ ¬ (255 : Int32) < c := by
      intro c hc
      simp only [List.mem_cons, List.not_mem_nil, or_false] at hc
      rcases hc with rfl | rfl | rfl
      · exact b1
      · exact b2
      · exact b3
  refine Goes.outS X59 hEL (fun q => by rw [hret] at q; cases q) hlk (X59.rA hret rfl rfl (hb hby d_jdk_43_method_47_23)) ?_ (by decide) (by decide)
  exact ⟨Ext.oKeepOf X59.ext [], a57, rfl, Es59, Cs59, ⟨_, _, Vs59, U58⟩, hpp, Nat.le_of_ble_eq_true rfl⟩
set_option maxRecDepth 65536 in
set_option maxHeartbeats 40000000 in
theorem own_crb42 (l : Launch) (Z : State) (a0 : Array Value) (hw : ∀ d ∈ tables_1, d.before a0 Z = true) (h0 : Heap) (hO : Ext Z.heap h0) (t : Addr) (kb : ClassId) (d0 : Int32) (d1 : Int32) (d2 : Int32) (d3 : Int32) (V_t : Arv Z h0 t kb .byte (4 : Int32) [(.int (d0.toInt8.toInt32)), (.int (d1.toInt8.toInt32)), (.int (d2.toInt8.toInt32)), (.int (d3.toInt8.toInt32))] (.int (0 : Int32))) :
    CtrN l Z (⟨"java/util/Arrays", "copyOfRangeByte", "([BII)[B"⟩ : MethodName) jdk_65_method_133_code 5 (some (.array .byte)) ({ frames := 1, cells := 1, slots := 2, locals := 18 } : Room) #[(.ref t), (.int (2 : Int32)), (.int (4 : Int32))] h0 (fun v h' => Keep h0 h' [] ∧ ∃ u ku, v = some (.ref u) ∧ Arv Z h' u ku .byte (2 : Int32) [(.int (d2.toInt8.toInt32)), (.int (d3.toInt8.toInt32))] (.int (0 : Int32)) ∧ h0.size ≤ u) := by
  refine CtrN.of (plainFor_of_name pn_3) hO ?_
  intro p e s m below meth cD_ T0 X0 hsh hby hml hret hlk hnm
  refine Goes.cast (ef_own_crb42 m t) ?_
  show Goes _ _ _ _ T0 (mkF m 0 #[.val (.ref t), .val (.int (2 : Int32)), .val (.int (4 : Int32)), .unset, .unset] [])
  refine Goes.go (fun _ kS_ => XS.iloadN X0.here X0.ex rfl (hb hby d_jdk_65_method_133_0) rfl (XS.iloadN X0.here X0.ex rfl (hb hby d_jdk_65_method_133_1) rfl kS_)) ?_
  show Goes _ _ _ _ T0 (mkF m 2 #[.val (.ref t), .val (.int (2 : Int32)), .val (.int (4 : Int32)), .unset, .unset] [(.int (4 : Int32)), (.int (2 : Int32))])
  refine Wk.static (hm' := fun _ => h0) (y := (⟨"java/util/Arrays", "checkLength", "(II)V"⟩ : MethodName)) (W := 0) (kc := 0) (ks := 0) (argsL := [(.int (2 : Int32)), (.int (4 : Int32))]) (rest := []) (as' := #[(.int (2 : Int32)), (.int (4 : Int32))]) (ws := []) X0 (w_157 hw) (w_158 hw) (w_152 hw) (w_159 hw) (by decide) (CtrN.pays (own_chl l Z a0 hw h0 X0.old (2 : Int32) (4 : Int32) (by decide)) (w_159 hw) (w_152 hw) (by decide) (by decide)) (fun v h' L q => ⟨q.2, q.1.1⟩) all0 (fun _ => Mark.stay all0) rfl (by rw [hml]; rfl) (lenOf pd_6 rfl) rfl rfl (by show 2 * 0 + _ ≤ _; exact Nat.le_of_eq rfl) (hb hby d_jdk_65_method_133_2) (by decide) (by decide) ?_
  intro T64 h64 v64 L64 X64 q64 K64
  obtain ⟨⟨-, rfl⟩, -⟩ := q64
  replace V_t := V_t.ext K64.oExt
  show Goes _ _ _ _ T64 (mkF m 5 #[.val (.ref t), .val (.int (2 : Int32)), .val (.int (4 : Int32)), .unset, .unset] [])
  refine Goes.go (fun _ kS_ => XS.iloadN X64.here X64.ex rfl (hb hby d_jdk_65_method_133_5) rfl (XS.iloadN X64.here X64.ex rfl (hb hby d_jdk_65_method_133_6) rfl (XS.isub X64.here X64.ex rfl (hb hby d_jdk_65_method_133_7) rfl kS_))) ?_
  show Goes _ _ _ _ T64 (mkF m 8 #[.val (.ref t), .val (.int (2 : Int32)), .val (.int (4 : Int32)), .unset, .unset] [(.int ((4 : Int32) - (2 : Int32)))])
  refine Goes.cast (congrArg (fun zq_ => (mkF m 8 #[.val (.ref t), .val (.int (2 : Int32)), .val (.int (4 : Int32)), .unset, .unset] [(.int zq_)])) (show (((4 : Int32) - (2 : Int32)) : Int32) = (2 : Int32) from by decide)) ?_
  show Goes _ _ _ _ T64 (mkF m 8 #[.val (.ref t), .val (.int (2 : Int32)), .val (.int (4 : Int32)), .unset, .unset] [(.int (2 : Int32))])
  refine Goes.go (fun _ kS_ => XS.istoreN X64.here X64.ex rfl (hb hby d_jdk_65_method_133_8) rfl (l' := #[.val (.ref t), .val (.int (2 : Int32)), .val (.int (4 : Int32)), .val (.int (2 : Int32)), .unset]) rfl (XS.iloadN X64.here X64.ex rfl (hb hby d_jdk_65_method_133_9) rfl kS_)) ?_
  show Goes _ _ _ _ T64 (mkF m 10 #[.val (.ref t), .val (.int (2 : Int32)), .val (.int (4 : Int32)), .val (.int (2 : Int32)), .unset] [(.int (2 : Int32))])
  refine Wk.newA (aty := .byte) X64 (w_12 hw) rfl (hb hby d_jdk_65_method_133_10) rfl (by decide) (cap := 2) (by decide) (by decide) (by decide) (by decide) ?_
  intro T65 h65 b65 k65 g65 X65 E65 A65 B_b65
  have lt_t_b65 : t < b65 := by rw [g65]; exact V_t.lt
  replace V_t := V_t.ext E65
  have V_b65 : Arv Z h65 b65 k65 .byte (2 : Int32) [(.int (0 : Int32)), (.int (0 : Int32))] (.int (0 : Int32)) := A65.pad (pad_rep [] (.int (0 : Int32)) 2)
  have gz_b65 : Z.heap.size ≤ b65 := g65 ▸ X64.old.1
  have gm_b65 : h0.size ≤ b65 := g65 ▸ X64.ext.1
  show Goes _ _ _ _ T65 (mkF m 12 #[.val (.ref t), .val (.int (2 : Int32)), .val (.int (4 : Int32)), .val (.int (2 : Int32)), .unset] [(.ref b65)])
  refine Goes.go (fun _ kS_ => XS.astore X65.here X65.ex rfl (hb hby d_jdk_65_method_133_12) rfl rfl (l' := #[.val (.ref t), .val (.int (2 : Int32)), .val (.int (4 : Int32)), .val (.int (2 : Int32)), .val (.ref b65)]) rfl (XS.aloadN X65.here X65.ex rfl (hb hby d_jdk_65_method_133_14) rfl rfl (XS.iloadN X65.here X65.ex rfl (hb hby d_jdk_65_method_133_15) rfl (XS.aload X65.here X65.ex rfl (hb hby d_jdk_65_method_133_16) rfl rfl (XS.iconst X65.here X65.ex rfl (hb hby d_jdk_65_method_133_18) (XS.aloadN X65.here X65.ex rfl (hb hby d_jdk_65_method_133_19) rfl rfl kS_)))))) ?_
  show Goes _ _ _ _ T65 (mkF m 20 #[.val (.ref t), .val (.int (2 : Int32)), .val (.int (4 : Int32)), .val (.int (2 : Int32)), .val (.ref b65)] [(.ref t), (.int (0 : Int32)), (.ref b65), (.int (2 : Int32)), (.ref t)])
  refine Goes.go (X65.alen V_t rfl rfl (hb hby d_jdk_65_method_133_20)) ?_
  show Goes _ _ _ _ T65 (mkF m 21 #[.val (.ref t), .val (.int (2 : Int32)), .val (.int (4 : Int32)), .val (.int (2 : Int32)), .val (.ref b65)] [(.int (4 : Int32)), (.int (0 : Int32)), (.ref b65), (.int (2 : Int32)), (.ref t)])
  refine Goes.go (fun _ kS_ => XS.iloadN X65.here X65.ex rfl (hb hby d_jdk_65_method_133_21) rfl (XS.isub X65.here X65.ex rfl (hb hby d_jdk_65_method_133_22) rfl kS_)) ?_
  show Goes _ _ _ _ T65 (mkF m 23 #[.val (.ref t), .val (.int (2 : Int32)), .val (.int (4 : Int32)), .val (.int (2 : Int32)), .val (.ref b65)] [(.int ((4 : Int32) - (2 : Int32))), (.int (0 : Int32)), (.ref b65), (.int (2 : Int32)), (.ref t)])
  refine Goes.cast (congrArg (fun zq_ => (mkF m 23 #[.val (.ref t), .val (.int (2 : Int32)), .val (.int (4 : Int32)), .val (.int (2 : Int32)), .val (.ref b65)] [(.int zq_), (.int (0 : Int32)), (.ref b65), (.int (2 : Int32)), (.ref t)])) (show (((4 : Int32) - (2 : Int32)) : Int32) = (2 : Int32) from by decide)) ?_
  show Goes _ _ _ _ T65 (mkF m 23 #[.val (.ref t), .val (.int (2 : Int32)), .val (.int (4 : Int32)), .val (.int (2 : Int32)), .val (.ref b65)] [(.int (2 : Int32)), (.int (0 : Int32)), (.ref b65), (.int (2 : Int32)), (.ref t)])
  refine Goes.go (fun _ kS_ => XS.iloadN X65.here X65.ex rfl (hb hby d_jdk_65_method_133_23) rfl kS_) ?_
  show Goes _ _ _ _ T65 (mkF m 24 #[.val (.ref t), .val (.int (2 : Int32)), .val (.int (4 : Int32)), .val (.int (2 : Int32)), .val (.ref b65)] [(.int (2 : Int32)), (.int (2 : Int32)), (.int (0 : Int32)), (.ref b65), (.int (2 : Int32)), (.ref t)])
  refine Wk.static (hm' := fun _ => h0) (y := (⟨"java/lang/Math", "min", "(II)I"⟩ : MethodName)) (W := 4) (kc := 0) (ks := 0) (argsL := [(.int (2 : Int32)), (.int (2 : Int32))]) (rest := [(.int (0 : Int32)), (.ref b65), (.int (2 : Int32)), (.ref t)]) (as' := #[(.int (2 : Int32)), (.int (2 : Int32))]) (ws := []) X65 (w_160 hw) (w_87 hw) (w_88 hw) (w_89 hw) (by decide) (CtrN.pays (own_min l Z a0 hw h65 X65.old (2 : Int32)) (w_89 hw) (w_88 hw) (by decide) (by decide)) (fun v h' L q => ⟨q.2, q.1.1⟩) all0 (fun _ => Mark.stay all0) rfl (by rw [hml]; rfl) (lenOf pd_1 rfl) rfl rfl (by show 2 * 0 + _ ≤ _; exact Nat.le_of_eq rfl) (hb hby d_jdk_65_method_133_24) (by decide) (by decide) ?_
  intro T66 h66 v66 L66 X66 q66 K66
  obtain ⟨⟨-, rfl⟩, -⟩ := q66
  replace V_t := V_t.ext K66.oExt
  replace V_b65 := V_b65.ext K66.oExt
  show Goes _ _ _ _ T66 (mkF m 27 #[.val (.ref t), .val (.int (2 : Int32)), .val (.int (4 : Int32)), .val (.int (2 : Int32)), .val (.ref b65)] [(.int (2 : Int32)), (.int (0 : Int32)), (.ref b65), (.int (2 : Int32)), (.ref t)])
  refine Wk.acopy (hm' := fun _ => h0) X66 (w_161 hw) (w_164 hw) (w_162 hw) (w_163 hw) V_t V_b65 ⟨rfl, rfl⟩ (by decide) (by decide) (by decide) (by decide) (by decide) (us := [(.int (d2.toInt8.toInt32)), (.int (d3.toInt8.toInt32))]) rfl (Nat.le_of_ble_eq_true rfl) gz_b65 (fun _ => Mark.stay (allS gm_b65 all0)) rfl (by rw [hml]; rfl) rfl (hb hby d_jdk_65_method_133_27) (by decide) (W := 0) (by show 2 * 0 + _ ≤ _; exact Nat.le_of_eq rfl) (by decide) ?_
  intro T67 h67 X67 K67 V67
  have V_b65 : Arv Z h67 b65 _ .byte (2 : Int32) [(.int (d2.toInt8.toInt32)), (.int (d3.toInt8.toInt32))] (.int (0 : Int32)) := V67
  show Goes _ _ _ _ T67 (mkF m 30 #[.val (.ref t), .val (.int (2 : Int32)), .val (.int (4 : Int32)), .val (.int (2 : Int32)), .val (.ref b65)] [])
  refine Goes.go (fun _ kS_ => XS.aload X67.here X67.ex rfl (hb hby d_jdk_65_method_133_30) rfl rfl kS_) ?_
  show Goes _ _ _ _ T67 (mkF m 32 #[.val (.ref t), .val (.int (2 : Int32)), .val (.int (4 : Int32)), .val (.int (2 : Int32)), .val (.ref b65)] [(.ref b65)])
  refine Goes.outN X67 (fun q => by rw [hret] at q; cases q) hlk (X67.rA hret rfl rfl (hb hby d_jdk_65_method_133_32)) ?_ (by decide) (by decide)
  exact ⟨Ext.oKeepOf X67.ext [], b65, _, rfl, V_b65, gm_b65⟩
set_option maxRecDepth 65536 in
set_option maxHeartbeats 40000000 in
theorem own_cor42 (l : Launch) (Z : State) (a0 : Array Value) (hw : ∀ d ∈ tables_1, d.before a0 Z = true) (h0 : Heap) (hO : Ext Z.heap h0) (t : Addr) (kb : ClassId) (d0 : Int32) (d1 : Int32) (d2 : Int32) (d3 : Int32) (V_t : Arv Z h0 t kb .byte (4 : Int32) [(.int (d0.toInt8.toInt32)), (.int (d1.toInt8.toInt32)), (.int (d2.toInt8.toInt32)), (.int (d3.toInt8.toInt32))] (.int (0 : Int32))) :
    CtrN l Z (⟨"java/util/Arrays", "copyOfRange", "([BII)[B"⟩ : MethodName) jdk_65_method_132_code 3 (some (.array .byte)) ({ frames := 2, cells := 1, slots := 2, locals := 34 } : Room) #[(.ref t), (.int (2 : Int32)), (.int (4 : Int32))] h0 (fun v h' => Keep h0 h' [] ∧ ∃ u ku, v = some (.ref u) ∧ Arv Z h' u ku .byte (2 : Int32) [(.int (d2.toInt8.toInt32)), (.int (d3.toInt8.toInt32))] (.int (0 : Int32)) ∧ h0.size ≤ u) := by
  refine CtrN.of (plainFor_of_name pn_3) hO ?_
  intro p e s m below meth cD_ T0 X0 hsh hby hml hret hlk hnm
  refine Goes.cast (ef_own_cor42 m t) ?_
  show Goes _ _ _ _ T0 (mkF m 0 #[.val (.ref t), .val (.int (2 : Int32)), .val (.int (4 : Int32))] [])
  refine Goes.go (fun _ kS_ => XS.iloadN X0.here X0.ex rfl (hb hby d_jdk_65_method_132_0) rfl (XS.ifYes X0.here X0.ex rfl (pc0 := 1) (pc' := 10) rfl (hb hby d_jdk_65_method_132_1) rfl ((if0 _ _).trans (cd_t (cd := .ne) (x := (2 : Int32)) (y := (0 : Int32)) (by decide))) (by decide) (by decide) (XS.aloadN X0.here X0.ex rfl (hb hby d_jdk_65_method_132_10) rfl rfl (XS.iloadN X0.here X0.ex rfl (hb hby d_jdk_65_method_132_11) rfl (XS.iloadN X0.here X0.ex rfl (hb hby d_jdk_65_method_132_12) rfl kS_))))) ?_
  show Goes _ _ _ _ T0 (mkF m 13 #[.val (.ref t), .val (.int (2 : Int32)), .val (.int (4 : Int32))] [(.int (4 : Int32)), (.int (2 : Int32)), (.ref t)])
  refine Wk.static (hm' := fun _ => h0) (y := (⟨"java/util/Arrays", "copyOfRangeByte", "([BII)[B"⟩ : MethodName)) (W := 0) (kc := 1) (ks := 2) (argsL := [(.ref t), (.int (2 : Int32)), (.int (4 : Int32))]) (rest := []) (as' := #[(.ref t), (.int (2 : Int32)), (.int (4 : Int32))]) (ws := []) X0 (w_154 hw) (w_155 hw) (w_152 hw) (w_156 hw) (by decide) (CtrN.pays (own_crb42 l Z a0 hw h0 X0.old t kb d0 d1 d2 d3 V_t) (w_156 hw) (w_152 hw) (by decide) (by decide)) (fun v h' L q => ⟨q.2, q.1.1⟩) all0 (fun _ => Mark.stay all0) rfl (by rw [hml]; rfl) (lenOf pd_7 rfl) rfl rfl (by show 2 * 0 + _ ≤ _; exact Nat.le_of_eq rfl) (hb hby d_jdk_65_method_132_13) (by decide) (by decide) ?_
  intro T69 h69 v69 L69 X69 q69 K69
  obtain ⟨⟨-, u69, ku69, rfl, U69, gu69⟩, -⟩ := q69
  show Goes _ _ _ _ T69 (mkF m 16 #[.val (.ref t), .val (.int (2 : Int32)), .val (.int (4 : Int32))] [(.ref u69)])
  refine Goes.outN X69 (fun q => by rw [hret] at q; cases q) hlk (X69.rA hret rfl rfl (hb hby d_jdk_65_method_132_16)) ?_ (by decide) (by decide)
  exact ⟨Ext.oKeepOf X69.ext [], u69, ku69, rfl, U69, gu69⟩
set_option maxRecDepth 65536 in
set_option maxHeartbeats 40000000 in
theorem own_nst42 (l : Launch) (Z : State) (a0 : Array Value) (hw : ∀ d ∈ tables_1, d.before a0 Z = true) (hEL : EW Z a0 consts_1) (h0 : Heap) (hO : Ext Z.heap h0) (t : Addr) (kb : ClassId) (d0 : Int32) (d1 : Int32) (d2 : Int32) (d3 : Int32) (V_t : Arv Z h0 t kb .byte (4 : Int32) [(.int (d0.toInt8.toInt32)), (.int (d1.toInt8.toInt32)), (.int (d2.toInt8.toInt32)), (.int (d3.toInt8.toInt32))] (.int (0 : Int32))) (b0 : ¬ d0 < 0 ∧ ¬ (255 : Int32) < d0) (b1 : ¬ d1 < 0 ∧ ¬ (255 : Int32) < d1) (b2 : ¬ d2 < 0 ∧ ¬ (255 : Int32) < d2) (b3 : ¬ d3 < 0 ∧ ¬ (255 : Int32) < d3) :
    CtrS l Z consts_1 (⟨"java/lang/StringLatin1", "newString", "([BII)Ljava/lang/String;"⟩ : MethodName) jdk_43_method_47_code 3 (some (.object "java/lang/String")) ({ frames := 3, cells := 2, slots := 7, locals := 50 } : Room) #[(.ref t), (.int (2 : Int32)), (.int (2 : Int32))] h0 (fun v h' => Keep h0 h' [] ∧ ∃ a, v = some (.ref a) ∧ LStr Z h' a ([d2, d3] : List Int32)) := by
  refine CtrS.of (plainFor_of_name pn_1) hO ?_
  intro p e s m below meth cD_ T0 X0 hsh hby hml hret hlk hnm
  refine Goes.cast (ef_own_nst42 m t) ?_
  show Goes _ _ _ _ T0 (mkF m 0 #[.val (.ref t), .val (.int (2 : Int32)), .val (.int (2 : Int32))] [])
  refine Goes.go (fun _ kS_ => XS.iloadN X0.here X0.ex rfl (hb hby d_jdk_43_method_47_0) rfl (XS.ifYes X0.here X0.ex rfl (pc0 := 1) (pc' := 7) rfl (hb hby d_jdk_43_method_47_1) rfl ((if0 _ _).trans (cd_t (cd := .ne) (x := (2 : Int32)) (y := (0 : Int32)) (by decide))) (by decide) (by decide) kS_)) ?_
  show Goes _ _ _ _ T0 (mkF m 7 #[.val (.ref t), .val (.int (2 : Int32)), .val (.int (2 : Int32))] [])
  refine Wk.new X0 (w_149 hw) (w_11 hw) (w_10 hw) rfl (hb hby d_jdk_43_method_47_7) (by decide) (by decide) ?_
  intro T73 h73 a73 g73 X73 E73 A73 D73
  have gz_a73 : Z.heap.size ≤ a73 := g73 ▸ X0.old.1
  have gm_a73 : h0.size ≤ a73 := g73 ▸ X0.ext.1
  have F_a73_value : Fld Z h73 a73 "java/lang/String" "value" "[B" .null := D73 (Or.inr (w_13 hw)) (ty := (.array .byte)) (by decide)
  have F_a73_coder : Fld Z h73 a73 "java/lang/String" "coder" "B" (.int (0 : Int32)) := D73 (Or.inr (w_14 hw)) (ty := .byte) (by decide)
  clear D73
  show Goes _ _ _ _ T73 (mkF m 10 #[.val (.ref t), .val (.int (2 : Int32)), .val (.int (2 : Int32))] [(.ref a73)])
  refine Goes.go (fun _ kS_ => XS.dup X73.here X73.ex rfl (hb hby d_jdk_43_method_47_10) rfl rfl (XS.aloadN X73.here X73.ex rfl (hb hby d_jdk_43_method_47_11) rfl rfl (XS.iloadN X73.here X73.ex rfl (hb hby d_jdk_43_method_47_12) rfl (XS.iloadN X73.here X73.ex rfl (hb hby d_jdk_43_method_47_13) rfl (XS.iloadN X73.here X73.ex rfl (hb hby d_jdk_43_method_47_14) rfl (XS.iadd X73.here X73.ex rfl (hb hby d_jdk_43_method_47_15) rfl kS_)))))) ?_
  show Goes _ _ _ _ T73 (mkF m 16 #[.val (.ref t), .val (.int (2 : Int32)), .val (.int (2 : Int32))] [(.int ((2 : Int32) + (2 : Int32))), (.int (2 : Int32)), (.ref t), (.ref a73), (.ref a73)])
  refine Goes.cast (congrArg (fun zq_ => (mkF m 16 #[.val (.ref t), .val (.int (2 : Int32)), .val (.int (2 : Int32))] [(.int zq_), (.int (2 : Int32)), (.ref t), (.ref a73), (.ref a73)])) (show (((2 : Int32) + (2 : Int32)) : Int32) = (4 : Int32) from by decide)) ?_
  show Goes _ _ _ _ T73 (mkF m 16 #[.val (.ref t), .val (.int (2 : Int32)), .val (.int (2 : Int32))] [(.int (4 : Int32)), (.int (2 : Int32)), (.ref t), (.ref a73), (.ref a73)])
  refine Wk.static (hm' := fun _ => h0) (y := (⟨"java/util/Arrays", "copyOfRange", "([BII)[B"⟩ : MethodName)) (W := 2) (kc := 1) (ks := 2) (argsL := [(.ref t), (.int (2 : Int32)), (.int (4 : Int32))]) (rest := [(.ref a73), (.ref a73)]) (as' := #[(.ref t), (.int (2 : Int32)), (.int (4 : Int32))]) (ws := []) X73 (w_150 hw) (w_151 hw) (w_152 hw) (w_153 hw) (by decide) (CtrN.pays (own_cor42 l Z a0 hw h73 X73.old t kb d0 d1 d2 d3 (V_t.ext X73.ext)) (w_153 hw) (w_152 hw) (by decide) (by decide)) (fun v h' L q => ⟨q.2, q.1.1⟩) all0 (fun _ => Mark.stay all0) rfl (by rw [hml]; rfl) (lenOf pd_7 rfl) rfl rfl (by show 2 * 0 + _ ≤ _; exact Nat.le_of_eq rfl) (hb hby d_jdk_43_method_47_16) (by decide) (by decide) ?_
  intro T74 h74 v74 L74 X74 q74 K74
  obtain ⟨⟨-, u74, ku74, rfl, U74, gu74⟩, -⟩ := q74
  replace A73 := A73.ext K74.oExt
  replace F_a73_value := F_a73_value.ext K74.oExt
  replace F_a73_coder := F_a73_coder.ext K74.oExt
  show Goes _ _ _ _ T74 (mkF m 19 #[.val (.ref t), .val (.int (2 : Int32)), .val (.int (2 : Int32))] [(.ref u74), (.ref a73), (.ref a73)])
  refine Goes.go (fun _ kS_ => XS.iconst X74.here X74.ex rfl (hb hby d_jdk_43_method_47_19) kS_) ?_
  show Goes _ _ _ _ T74 (mkF m 20 #[.val (.ref t), .val (.int (2 : Int32)), .val (.int (2 : Int32))] [(.int (0 : Int32)), (.ref u74), (.ref a73), (.ref a73)])
  refine Wk.special (hm' := fun _ => h0) (y := (⟨"java/lang/String", "<init>", "([BB)V"⟩ : MethodName)) (W := 1) (kc := 0) (ks := 0) (argsL := [(.ref u74), (.int (0 : Int32))]) (rest := [(.ref a73)]) (as' := #[(.ref a73), (.ref u74), (.int (0 : Int32))]) (ws := [a73]) X74 rfl (w_165 hw) (w_166 hw) (w_167 hw) (by decide) (CtrN.pays (own_newB l Z a0 hw h74 X74.old a73 u74 A73 F_a73_value F_a73_coder gz_a73) (w_167 hw) (w_10 hw) (by decide) (by decide)) (fun v h' L q => ⟨q.2, q.1.1⟩) (allS gz_a73 all0) (fun _ => Mark.stay (allS gm_a73 all0)) rfl (by rw [hml]; rfl) (lenOf pd_8 rfl) rfl rfl (by show 2 * 0 + _ ≤ _; exact Nat.le_of_eq rfl) (hb hby d_jdk_43_method_47_20) (by decide) (by decide) ?_
  intro T75 h75 v75 L75 X75 q75 K75
  obtain ⟨⟨-, rfl, Es75, Vs75, Cs75⟩, -⟩ := q75
  show Goes _ _ _ _ T75 (mkF m 23 #[.val (.ref t), .val (.int (2 : Int32)), .val (.int (2 : Int32))] [(.ref a73)])
  have nt : u74 ∉ [a73] := ninS (Exa.neArv A73 U74 (w_11 hw)).symm nin0
  replace U74 := U74.keep K75 nt
  have hpp : ∀ c ∈ ([d2, d3] : List Int32), ¬ c < 0 ∧ ¬ (255 : Int32) < c := by
      intro c hc
      simp only [List.mem_cons, List.not_mem_nil, or_false] at hc
      rcases hc with rfl | rfl
      · exact b2
      · exact b3
  refine Goes.outS X75 hEL (fun q => by rw [hret] at q; cases q) hlk (X75.rA hret rfl rfl (hb hby d_jdk_43_method_47_23)) ?_ (by decide) (by decide)
  exact ⟨Ext.oKeepOf X75.ext [], a73, rfl, Es75, Cs75, ⟨_, _, Vs75, U74⟩, hpp, Nat.le_of_ble_eq_true rfl⟩
set_option maxRecDepth 65536 in
set_option maxHeartbeats 40000000 in
theorem own_crb43 (l : Launch) (Z : State) (a0 : Array Value) (hw : ∀ d ∈ tables_1, d.before a0 Z = true) (h0 : Heap) (hO : Ext Z.heap h0) (t : Addr) (kb : ClassId) (d0 : Int32) (d1 : Int32) (d2 : Int32) (d3 : Int32) (V_t : Arv Z h0 t kb .byte (4 : Int32) [(.int (d0.toInt8.toInt32)), (.int (d1.toInt8.toInt32)), (.int (d2.toInt8.toInt32)), (.int (d3.toInt8.toInt32))] (.int (0 : Int32))) :
    CtrN l Z (⟨"java/util/Arrays", "copyOfRangeByte", "([BII)[B"⟩ : MethodName) jdk_65_method_133_code 5 (some (.array .byte)) ({ frames := 1, cells := 1, slots := 1, locals := 18 } : Room) #[(.ref t), (.int (3 : Int32)), (.int (4 : Int32))] h0 (fun v h' => Keep h0 h' [] ∧ ∃ u ku, v = some (.ref u) ∧ Arv Z h' u ku .byte (1 : Int32) [(.int (d3.toInt8.toInt32))] (.int (0 : Int32)) ∧ h0.size ≤ u) := by
  refine CtrN.of (plainFor_of_name pn_3) hO ?_
  intro p e s m below meth cD_ T0 X0 hsh hby hml hret hlk hnm
  refine Goes.cast (ef_own_crb43 m t) ?_
  show Goes _ _ _ _ T0 (mkF m 0 #[.val (.ref t), .val (.int (3 : Int32)), .val (.int (4 : Int32)), .unset, .unset] [])
  refine Goes.go (fun _ kS_ => XS.iloadN X0.here X0.ex rfl (hb hby d_jdk_65_method_133_0) rfl (XS.iloadN X0.here X0.ex rfl (hb hby d_jdk_65_method_133_1) rfl kS_)) ?_
  show Goes _ _ _ _ T0 (mkF m 2 #[.val (.ref t), .val (.int (3 : Int32)), .val (.int (4 : Int32)), .unset, .unset] [(.int (4 : Int32)), (.int (3 : Int32))])
  refine Wk.static (hm' := fun _ => h0) (y := (⟨"java/util/Arrays", "checkLength", "(II)V"⟩ : MethodName)) (W := 0) (kc := 0) (ks := 0) (argsL := [(.int (3 : Int32)), (.int (4 : Int32))]) (rest := []) (as' := #[(.int (3 : Int32)), (.int (4 : Int32))]) (ws := []) X0 (w_157 hw) (w_158 hw) (w_152 hw) (w_159 hw) (by decide) (CtrN.pays (own_chl l Z a0 hw h0 X0.old (3 : Int32) (4 : Int32) (by decide)) (w_159 hw) (w_152 hw) (by decide) (by decide)) (fun v h' L q => ⟨q.2, q.1.1⟩) all0 (fun _ => Mark.stay all0) rfl (by rw [hml]; rfl) (lenOf pd_6 rfl) rfl rfl (by show 2 * 0 + _ ≤ _; exact Nat.le_of_eq rfl) (hb hby d_jdk_65_method_133_2) (by decide) (by decide) ?_
  intro T80 h80 v80 L80 X80 q80 K80
  obtain ⟨⟨-, rfl⟩, -⟩ := q80
  replace V_t := V_t.ext K80.oExt
  show Goes _ _ _ _ T80 (mkF m 5 #[.val (.ref t), .val (.int (3 : Int32)), .val (.int (4 : Int32)), .unset, .unset] [])
  refine Goes.go (fun _ kS_ => XS.iloadN X80.here X80.ex rfl (hb hby d_jdk_65_method_133_5) rfl (XS.iloadN X80.here X80.ex rfl (hb hby d_jdk_65_method_133_6) rfl (XS.isub X80.here X80.ex rfl (hb hby d_jdk_65_method_133_7) rfl kS_))) ?_
  show Goes _ _ _ _ T80 (mkF m 8 #[.val (.ref t), .val (.int (3 : Int32)), .val (.int (4 : Int32)), .unset, .unset] [(.int ((4 : Int32) - (3 : Int32)))])
  refine Goes.cast (congrArg (fun zq_ => (mkF m 8 #[.val (.ref t), .val (.int (3 : Int32)), .val (.int (4 : Int32)), .unset, .unset] [(.int zq_)])) (show (((4 : Int32) - (3 : Int32)) : Int32) = (1 : Int32) from by decide)) ?_
  show Goes _ _ _ _ T80 (mkF m 8 #[.val (.ref t), .val (.int (3 : Int32)), .val (.int (4 : Int32)), .unset, .unset] [(.int (1 : Int32))])
  refine Goes.go (fun _ kS_ => XS.istoreN X80.here X80.ex rfl (hb hby d_jdk_65_method_133_8) rfl (l' := #[.val (.ref t), .val (.int (3 : Int32)), .val (.int (4 : Int32)), .val (.int (1 : Int32)), .unset]) rfl (XS.iloadN X80.here X80.ex rfl (hb hby d_jdk_65_method_133_9) rfl kS_)) ?_
  show Goes _ _ _ _ T80 (mkF m 10 #[.val (.ref t), .val (.int (3 : Int32)), .val (.int (4 : Int32)), .val (.int (1 : Int32)), .unset] [(.int (1 : Int32))])
  refine Wk.newA (aty := .byte) X80 (w_12 hw) rfl (hb hby d_jdk_65_method_133_10) rfl (by decide) (cap := 1) (by decide) (by decide) (by decide) (by decide) ?_
  intro T81 h81 b81 k81 g81 X81 E81 A81 B_b81
  have lt_t_b81 : t < b81 := by rw [g81]; exact V_t.lt
  replace V_t := V_t.ext E81
  have V_b81 : Arv Z h81 b81 k81 .byte (1 : Int32) [(.int (0 : Int32))] (.int (0 : Int32)) := A81.pad (pad_rep [] (.int (0 : Int32)) 1)
  have gz_b81 : Z.heap.size ≤ b81 := g81 ▸ X80.old.1
  have gm_b81 : h0.size ≤ b81 := g81 ▸ X80.ext.1
  show Goes _ _ _ _ T81 (mkF m 12 #[.val (.ref t), .val (.int (3 : Int32)), .val (.int (4 : Int32)), .val (.int (1 : Int32)), .unset] [(.ref b81)])
  refine Goes.go (fun _ kS_ => XS.astore X81.here X81.ex rfl (hb hby d_jdk_65_method_133_12) rfl rfl (l' := #[.val (.ref t), .val (.int (3 : Int32)), .val (.int (4 : Int32)), .val (.int (1 : Int32)), .val (.ref b81)]) rfl (XS.aloadN X81.here X81.ex rfl (hb hby d_jdk_65_method_133_14) rfl rfl (XS.iloadN X81.here X81.ex rfl (hb hby d_jdk_65_method_133_15) rfl (XS.aload X81.here X81.ex rfl (hb hby d_jdk_65_method_133_16) rfl rfl (XS.iconst X81.here X81.ex rfl (hb hby d_jdk_65_method_133_18) (XS.aloadN X81.here X81.ex rfl (hb hby d_jdk_65_method_133_19) rfl rfl kS_)))))) ?_
  show Goes _ _ _ _ T81 (mkF m 20 #[.val (.ref t), .val (.int (3 : Int32)), .val (.int (4 : Int32)), .val (.int (1 : Int32)), .val (.ref b81)] [(.ref t), (.int (0 : Int32)), (.ref b81), (.int (3 : Int32)), (.ref t)])
  refine Goes.go (X81.alen V_t rfl rfl (hb hby d_jdk_65_method_133_20)) ?_
  show Goes _ _ _ _ T81 (mkF m 21 #[.val (.ref t), .val (.int (3 : Int32)), .val (.int (4 : Int32)), .val (.int (1 : Int32)), .val (.ref b81)] [(.int (4 : Int32)), (.int (0 : Int32)), (.ref b81), (.int (3 : Int32)), (.ref t)])
  refine Goes.go (fun _ kS_ => XS.iloadN X81.here X81.ex rfl (hb hby d_jdk_65_method_133_21) rfl (XS.isub X81.here X81.ex rfl (hb hby d_jdk_65_method_133_22) rfl kS_)) ?_
  show Goes _ _ _ _ T81 (mkF m 23 #[.val (.ref t), .val (.int (3 : Int32)), .val (.int (4 : Int32)), .val (.int (1 : Int32)), .val (.ref b81)] [(.int ((4 : Int32) - (3 : Int32))), (.int (0 : Int32)), (.ref b81), (.int (3 : Int32)), (.ref t)])
  refine Goes.cast (congrArg (fun zq_ => (mkF m 23 #[.val (.ref t), .val (.int (3 : Int32)), .val (.int (4 : Int32)), .val (.int (1 : Int32)), .val (.ref b81)] [(.int zq_), (.int (0 : Int32)), (.ref b81), (.int (3 : Int32)), (.ref t)])) (show (((4 : Int32) - (3 : Int32)) : Int32) = (1 : Int32) from by decide)) ?_
  show Goes _ _ _ _ T81 (mkF m 23 #[.val (.ref t), .val (.int (3 : Int32)), .val (.int (4 : Int32)), .val (.int (1 : Int32)), .val (.ref b81)] [(.int (1 : Int32)), (.int (0 : Int32)), (.ref b81), (.int (3 : Int32)), (.ref t)])
  refine Goes.go (fun _ kS_ => XS.iloadN X81.here X81.ex rfl (hb hby d_jdk_65_method_133_23) rfl kS_) ?_
  show Goes _ _ _ _ T81 (mkF m 24 #[.val (.ref t), .val (.int (3 : Int32)), .val (.int (4 : Int32)), .val (.int (1 : Int32)), .val (.ref b81)] [(.int (1 : Int32)), (.int (1 : Int32)), (.int (0 : Int32)), (.ref b81), (.int (3 : Int32)), (.ref t)])
  refine Wk.static (hm' := fun _ => h0) (y := (⟨"java/lang/Math", "min", "(II)I"⟩ : MethodName)) (W := 4) (kc := 0) (ks := 0) (argsL := [(.int (1 : Int32)), (.int (1 : Int32))]) (rest := [(.int (0 : Int32)), (.ref b81), (.int (3 : Int32)), (.ref t)]) (as' := #[(.int (1 : Int32)), (.int (1 : Int32))]) (ws := []) X81 (w_160 hw) (w_87 hw) (w_88 hw) (w_89 hw) (by decide) (CtrN.pays (own_min l Z a0 hw h81 X81.old (1 : Int32)) (w_89 hw) (w_88 hw) (by decide) (by decide)) (fun v h' L q => ⟨q.2, q.1.1⟩) all0 (fun _ => Mark.stay all0) rfl (by rw [hml]; rfl) (lenOf pd_1 rfl) rfl rfl (by show 2 * 0 + _ ≤ _; exact Nat.le_of_eq rfl) (hb hby d_jdk_65_method_133_24) (by decide) (by decide) ?_
  intro T82 h82 v82 L82 X82 q82 K82
  obtain ⟨⟨-, rfl⟩, -⟩ := q82
  replace V_t := V_t.ext K82.oExt
  replace V_b81 := V_b81.ext K82.oExt
  show Goes _ _ _ _ T82 (mkF m 27 #[.val (.ref t), .val (.int (3 : Int32)), .val (.int (4 : Int32)), .val (.int (1 : Int32)), .val (.ref b81)] [(.int (1 : Int32)), (.int (0 : Int32)), (.ref b81), (.int (3 : Int32)), (.ref t)])
  refine Wk.acopy (hm' := fun _ => h0) X82 (w_161 hw) (w_164 hw) (w_162 hw) (w_163 hw) V_t V_b81 ⟨rfl, rfl⟩ (by decide) (by decide) (by decide) (by decide) (by decide) (us := [(.int (d3.toInt8.toInt32))]) rfl (Nat.le_of_ble_eq_true rfl) gz_b81 (fun _ => Mark.stay (allS gm_b81 all0)) rfl (by rw [hml]; rfl) rfl (hb hby d_jdk_65_method_133_27) (by decide) (W := 0) (by show 2 * 0 + _ ≤ _; exact Nat.le_of_eq rfl) (by decide) ?_
  intro T83 h83 X83 K83 V83
  have V_b81 : Arv Z h83 b81 _ .byte (1 : Int32) [(.int (d3.toInt8.toInt32))] (.int (0 : Int32)) := V83
  show Goes _ _ _ _ T83 (mkF m 30 #[.val (.ref t), .val (.int (3 : Int32)), .val (.int (4 : Int32)), .val (.int (1 : Int32)), .val (.ref b81)] [])
  refine Goes.go (fun _ kS_ => XS.aload X83.here X83.ex rfl (hb hby d_jdk_65_method_133_30) rfl rfl kS_) ?_
  show Goes _ _ _ _ T83 (mkF m 32 #[.val (.ref t), .val (.int (3 : Int32)), .val (.int (4 : Int32)), .val (.int (1 : Int32)), .val (.ref b81)] [(.ref b81)])
  refine Goes.outN X83 (fun q => by rw [hret] at q; cases q) hlk (X83.rA hret rfl rfl (hb hby d_jdk_65_method_133_32)) ?_ (by decide) (by decide)
  exact ⟨Ext.oKeepOf X83.ext [], b81, _, rfl, V_b81, gm_b81⟩
set_option maxRecDepth 65536 in
set_option maxHeartbeats 40000000 in
theorem own_cor43 (l : Launch) (Z : State) (a0 : Array Value) (hw : ∀ d ∈ tables_1, d.before a0 Z = true) (h0 : Heap) (hO : Ext Z.heap h0) (t : Addr) (kb : ClassId) (d0 : Int32) (d1 : Int32) (d2 : Int32) (d3 : Int32) (V_t : Arv Z h0 t kb .byte (4 : Int32) [(.int (d0.toInt8.toInt32)), (.int (d1.toInt8.toInt32)), (.int (d2.toInt8.toInt32)), (.int (d3.toInt8.toInt32))] (.int (0 : Int32))) :
    CtrN l Z (⟨"java/util/Arrays", "copyOfRange", "([BII)[B"⟩ : MethodName) jdk_65_method_132_code 3 (some (.array .byte)) ({ frames := 2, cells := 1, slots := 1, locals := 34 } : Room) #[(.ref t), (.int (3 : Int32)), (.int (4 : Int32))] h0 (fun v h' => Keep h0 h' [] ∧ ∃ u ku, v = some (.ref u) ∧ Arv Z h' u ku .byte (1 : Int32) [(.int (d3.toInt8.toInt32))] (.int (0 : Int32)) ∧ h0.size ≤ u) := by
  refine CtrN.of (plainFor_of_name pn_3) hO ?_
  intro p e s m below meth cD_ T0 X0 hsh hby hml hret hlk hnm
  refine Goes.cast (ef_own_cor43 m t) ?_
  show Goes _ _ _ _ T0 (mkF m 0 #[.val (.ref t), .val (.int (3 : Int32)), .val (.int (4 : Int32))] [])
  refine Goes.go (fun _ kS_ => XS.iloadN X0.here X0.ex rfl (hb hby d_jdk_65_method_132_0) rfl (XS.ifYes X0.here X0.ex rfl (pc0 := 1) (pc' := 10) rfl (hb hby d_jdk_65_method_132_1) rfl ((if0 _ _).trans (cd_t (cd := .ne) (x := (3 : Int32)) (y := (0 : Int32)) (by decide))) (by decide) (by decide) (XS.aloadN X0.here X0.ex rfl (hb hby d_jdk_65_method_132_10) rfl rfl (XS.iloadN X0.here X0.ex rfl (hb hby d_jdk_65_method_132_11) rfl (XS.iloadN X0.here X0.ex rfl (hb hby d_jdk_65_method_132_12) rfl kS_))))) ?_
  show Goes _ _ _ _ T0 (mkF m 13 #[.val (.ref t), .val (.int (3 : Int32)), .val (.int (4 : Int32))] [(.int (4 : Int32)), (.int (3 : Int32)), (.ref t)])
  refine Wk.static (hm' := fun _ => h0) (y := (⟨"java/util/Arrays", "copyOfRangeByte", "([BII)[B"⟩ : MethodName)) (W := 0) (kc := 1) (ks := 1) (argsL := [(.ref t), (.int (3 : Int32)), (.int (4 : Int32))]) (rest := []) (as' := #[(.ref t), (.int (3 : Int32)), (.int (4 : Int32))]) (ws := []) X0 (w_154 hw) (w_155 hw) (w_152 hw) (w_156 hw) (by decide) (CtrN.pays (own_crb43 l Z a0 hw h0 X0.old t kb d0 d1 d2 d3 V_t) (w_156 hw) (w_152 hw) (by decide) (by decide)) (fun v h' L q => ⟨q.2, q.1.1⟩) all0 (fun _ => Mark.stay all0) rfl (by rw [hml]; rfl) (lenOf pd_7 rfl) rfl rfl (by show 2 * 0 + _ ≤ _; exact Nat.le_of_eq rfl) (hb hby d_jdk_65_method_132_13) (by decide) (by decide) ?_
  intro T85 h85 v85 L85 X85 q85 K85
  obtain ⟨⟨-, u85, ku85, rfl, U85, gu85⟩, -⟩ := q85
  show Goes _ _ _ _ T85 (mkF m 16 #[.val (.ref t), .val (.int (3 : Int32)), .val (.int (4 : Int32))] [(.ref u85)])
  refine Goes.outN X85 (fun q => by rw [hret] at q; cases q) hlk (X85.rA hret rfl rfl (hb hby d_jdk_65_method_132_16)) ?_ (by decide) (by decide)
  exact ⟨Ext.oKeepOf X85.ext [], u85, ku85, rfl, U85, gu85⟩
set_option maxRecDepth 65536 in
set_option maxHeartbeats 40000000 in
theorem own_nst43 (l : Launch) (Z : State) (a0 : Array Value) (hw : ∀ d ∈ tables_1, d.before a0 Z = true) (hEL : EW Z a0 consts_1) (h0 : Heap) (hO : Ext Z.heap h0) (t : Addr) (kb : ClassId) (d0 : Int32) (d1 : Int32) (d2 : Int32) (d3 : Int32) (V_t : Arv Z h0 t kb .byte (4 : Int32) [(.int (d0.toInt8.toInt32)), (.int (d1.toInt8.toInt32)), (.int (d2.toInt8.toInt32)), (.int (d3.toInt8.toInt32))] (.int (0 : Int32))) (b0 : ¬ d0 < 0 ∧ ¬ (255 : Int32) < d0) (b1 : ¬ d1 < 0 ∧ ¬ (255 : Int32) < d1) (b2 : ¬ d2 < 0 ∧ ¬ (255 : Int32) < d2) (b3 : ¬ d3 < 0 ∧ ¬ (255 : Int32) < d3) :
    CtrS l Z consts_1 (⟨"java/lang/StringLatin1", "newString", "([BII)Ljava/lang/String;"⟩ : MethodName) jdk_43_method_47_code 3 (some (.object "java/lang/String")) ({ frames := 3, cells := 2, slots := 7, locals := 50 } : Room) #[(.ref t), (.int (3 : Int32)), (.int (1 : Int32))] h0 (fun v h' => Keep h0 h' [] ∧ ∃ a, v = some (.ref a) ∧ LStr Z h' a ([d3] : List Int32)) := by
  refine CtrS.of (plainFor_of_name pn_1) hO ?_
  intro p e s m below meth cD_ T0 X0 hsh hby hml hret hlk hnm
  refine Goes.cast (ef_own_nst43 m t) ?_
  show Goes _ _ _ _ T0 (mkF m 0 #[.val (.ref t), .val (.int (3 : Int32)), .val (.int (1 : Int32))] [])
  refine Goes.go (fun _ kS_ => XS.iloadN X0.here X0.ex rfl (hb hby d_jdk_43_method_47_0) rfl (XS.ifYes X0.here X0.ex rfl (pc0 := 1) (pc' := 7) rfl (hb hby d_jdk_43_method_47_1) rfl ((if0 _ _).trans (cd_t (cd := .ne) (x := (1 : Int32)) (y := (0 : Int32)) (by decide))) (by decide) (by decide) kS_)) ?_
  show Goes _ _ _ _ T0 (mkF m 7 #[.val (.ref t), .val (.int (3 : Int32)), .val (.int (1 : Int32))] [])
  refine Wk.new X0 (w_149 hw) (w_11 hw) (w_10 hw) rfl (hb hby d_jdk_43_method_47_7) (by decide) (by decide) ?_
  intro T89 h89 a89 g89 X89 E89 A89 D89
  have gz_a89 : Z.heap.size ≤ a89 := g89 ▸ X0.old.1
  have gm_a89 : h0.size ≤ a89 := g89 ▸ X0.ext.1
  have F_a89_value : Fld Z h89 a89 "java/lang/String" "value" "[B" .null := D89 (Or.inr (w_13 hw)) (ty := (.array .byte)) (by decide)
  have F_a89_coder : Fld Z h89 a89 "java/lang/String" "coder" "B" (.int (0 : Int32)) := D89 (Or.inr (w_14 hw)) (ty := .byte) (by decide)
  clear D89
  show Goes _ _ _ _ T89 (mkF m 10 #[.val (.ref t), .val (.int (3 : Int32)), .val (.int (1 : Int32))] [(.ref a89)])
  refine Goes.go (fun _ kS_ => XS.dup X89.here X89.ex rfl (hb hby d_jdk_43_method_47_10) rfl rfl (XS.aloadN X89.here X89.ex rfl (hb hby d_jdk_43_method_47_11) rfl rfl (XS.iloadN X89.here X89.ex rfl (hb hby d_jdk_43_method_47_12) rfl (XS.iloadN X89.here X89.ex rfl (hb hby d_jdk_43_method_47_13) rfl (XS.iloadN X89.here X89.ex rfl (hb hby d_jdk_43_method_47_14) rfl (XS.iadd X89.here X89.ex rfl (hb hby d_jdk_43_method_47_15) rfl kS_)))))) ?_
  show Goes _ _ _ _ T89 (mkF m 16 #[.val (.ref t), .val (.int (3 : Int32)), .val (.int (1 : Int32))] [(.int ((3 : Int32) + (1 : Int32))), (.int (3 : Int32)), (.ref t), (.ref a89), (.ref a89)])
  refine Goes.cast (congrArg (fun zq_ => (mkF m 16 #[.val (.ref t), .val (.int (3 : Int32)), .val (.int (1 : Int32))] [(.int zq_), (.int (3 : Int32)), (.ref t), (.ref a89), (.ref a89)])) (show (((3 : Int32) + (1 : Int32)) : Int32) = (4 : Int32) from by decide)) ?_
  show Goes _ _ _ _ T89 (mkF m 16 #[.val (.ref t), .val (.int (3 : Int32)), .val (.int (1 : Int32))] [(.int (4 : Int32)), (.int (3 : Int32)), (.ref t), (.ref a89), (.ref a89)])
  refine Wk.static (hm' := fun _ => h0) (y := (⟨"java/util/Arrays", "copyOfRange", "([BII)[B"⟩ : MethodName)) (W := 2) (kc := 1) (ks := 1) (argsL := [(.ref t), (.int (3 : Int32)), (.int (4 : Int32))]) (rest := [(.ref a89), (.ref a89)]) (as' := #[(.ref t), (.int (3 : Int32)), (.int (4 : Int32))]) (ws := []) X89 (w_150 hw) (w_151 hw) (w_152 hw) (w_153 hw) (by decide) (CtrN.pays (own_cor43 l Z a0 hw h89 X89.old t kb d0 d1 d2 d3 (V_t.ext X89.ext)) (w_153 hw) (w_152 hw) (by decide) (by decide)) (fun v h' L q => ⟨q.2, q.1.1⟩) all0 (fun _ => Mark.stay all0) rfl (by rw [hml]; rfl) (lenOf pd_7 rfl) rfl rfl (by show 2 * 0 + _ ≤ _; exact Nat.le_of_eq rfl) (hb hby d_jdk_43_method_47_16) (by decide) (by decide) ?_
  intro T90 h90 v90 L90 X90 q90 K90
  obtain ⟨⟨-, u90, ku90, rfl, U90, gu90⟩, -⟩ := q90
  replace A89 := A89.ext K90.oExt
  replace F_a89_value := F_a89_value.ext K90.oExt
  replace F_a89_coder := F_a89_coder.ext K90.oExt
  show Goes _ _ _ _ T90 (mkF m 19 #[.val (.ref t), .val (.int (3 : Int32)), .val (.int (1 : Int32))] [(.ref u90), (.ref a89), (.ref a89)])
  refine Goes.go (fun _ kS_ => XS.iconst X90.here X90.ex rfl (hb hby d_jdk_43_method_47_19) kS_) ?_
  show Goes _ _ _ _ T90 (mkF m 20 #[.val (.ref t), .val (.int (3 : Int32)), .val (.int (1 : Int32))] [(.int (0 : Int32)), (.ref u90), (.ref a89), (.ref a89)])
  refine Wk.special (hm' := fun _ => h0) (y := (⟨"java/lang/String", "<init>", "([BB)V"⟩ : MethodName)) (W := 1) (kc := 0) (ks := 0) (argsL := [(.ref u90), (.int (0 : Int32))]) (rest := [(.ref a89)]) (as' := #[(.ref a89), (.ref u90), (.int (0 : Int32))]) (ws := [a89]) X90 rfl (w_165 hw) (w_166 hw) (w_167 hw) (by decide) (CtrN.pays (own_newB l Z a0 hw h90 X90.old a89 u90 A89 F_a89_value F_a89_coder gz_a89) (w_167 hw) (w_10 hw) (by decide) (by decide)) (fun v h' L q => ⟨q.2, q.1.1⟩) (allS gz_a89 all0) (fun _ => Mark.stay (allS gm_a89 all0)) rfl (by rw [hml]; rfl) (lenOf pd_8 rfl) rfl rfl (by show 2 * 0 + _ ≤ _; exact Nat.le_of_eq rfl) (hb hby d_jdk_43_method_47_20) (by decide) (by decide) ?_
  intro T91 h91 v91 L91 X91 q91 K91
  obtain ⟨⟨-, rfl, Es91, Vs91, Cs91⟩, -⟩ := q91
  show Goes _ _ _ _ T91 (mkF m 23 #[.val (.ref t), .val (.int (3 : Int32)), .val (.int (1 : Int32))] [(.ref a89)])
  have nt : u90 ∉ [a89] := ninS (Exa.neArv A89 U90 (w_11 hw)).symm nin0
  replace U90 := U90.keep K91 nt
  have hpp : ∀ c ∈ ([d3] : List Int32), ¬ c < 0 ∧ ¬ (255 : Int32) < c := by
      intro c hc
      simp only [List.mem_cons, List.not_mem_nil, or_false] at hc
      rcases hc with rfl
      · exact b3
  refine Goes.outS X91 hEL (fun q => by rw [hret] at q; cases q) hlk (X91.rA hret rfl rfl (hb hby d_jdk_43_method_47_23)) ?_ (by decide) (by decide)
  exact ⟨Ext.oKeepOf X91.ext [], a89, rfl, Es91, Cs91, ⟨_, _, Vs91, U90⟩, hpp, Nat.le_of_ble_eq_true rfl⟩
set_option maxRecDepth 65536 in
set_option maxHeartbeats 40000000 in
theorem own_nst44 (l : Launch) (Z : State) (a0 : Array Value) (hw : ∀ d ∈ tables_1, d.before a0 Z = true) (hEL : EW Z a0 consts_1) (h0 : Heap) (hO : Ext Z.heap h0) (t : Addr) (kb : ClassId) (d0 : Int32) (d1 : Int32) (d2 : Int32) (d3 : Int32) (V_t : Arv Z h0 t kb .byte (4 : Int32) [(.int (d0.toInt8.toInt32)), (.int (d1.toInt8.toInt32)), (.int (d2.toInt8.toInt32)), (.int (d3.toInt8.toInt32))] (.int (0 : Int32))) (b0 : ¬ d0 < 0 ∧ ¬ (255 : Int32) < d0) (b1 : ¬ d1 < 0 ∧ ¬ (255 : Int32) < d1) (b2 : ¬ d2 < 0 ∧ ¬ (255 : Int32) < d2) (b3 : ¬ d3 < 0 ∧ ¬ (255 : Int32) < d3) :
    CtrS l Z consts_1 (⟨"java/lang/StringLatin1", "newString", "([BII)Ljava/lang/String;"⟩ : MethodName) jdk_43_method_47_code 3 (some (.object "java/lang/String")) ({ frames := 3, cells := 2, slots := 7, locals := 50 } : Room) #[(.ref t), (.int (4 : Int32)), (.int (0 : Int32))] h0 (fun v h' => Keep h0 h' [] ∧ ∃ a, v = some (.ref a) ∧ LStr Z h' a ([] : List Int32)) := by
  refine CtrS.of (plainFor_of_name pn_1) hO ?_
  intro p e s m below meth cD_ T0 X0 hsh hby hml hret hlk hnm
  refine Goes.cast (ef_own_nst44 m t) ?_
  show Goes _ _ _ _ T0 (mkF m 0 #[.val (.ref t), .val (.int (4 : Int32)), .val (.int (0 : Int32))] [])
  refine Goes.go (fun _ kS_ => XS.iloadN X0.here X0.ex rfl (hb hby d_jdk_43_method_47_0) rfl (XS.ifNo X0.here X0.ex rfl (hb hby d_jdk_43_method_47_1) rfl ((if0 _ _).trans (cd_f (cd := .ne) (x := (0 : Int32)) (y := (0 : Int32)) (by decide))) kS_)) ?_
  show Goes _ _ _ _ T0 (mkF m 4 #[.val (.ref t), .val (.int (4 : Int32)), .val (.int (0 : Int32))] [])
  refine Wk.ldcR X0 (w_134 hw) (own_wS hw) hEL (by decide) (vs := []) (z := 0) ⟨by decide, rfl⟩ (by decide) rfl rfl (hb hby d_jdk_43_method_47_4) (n := 0) (by decide) (by decide) (by decide) (by decide) ?_
  intro T93 h93 a93 b93 k93 X93 E93 Ea93 Ca93 Va93 Ab93
  have S_a93 : LStr Z h93 a93 ([] : List Int32) := ⟨Ea93, Ca93, ⟨_, _, Va93, Ab93⟩, (fun _ q => nomatch q), Nat.le_of_ble_eq_true rfl⟩
  show Goes _ _ _ _ T93 (mkF m 6 #[.val (.ref t), .val (.int (4 : Int32)), .val (.int (0 : Int32))] [(.ref a93)])
  refine Goes.outS X93 hEL (fun q => by rw [hret] at q; cases q) hlk (X93.rA hret rfl rfl (hb hby d_jdk_43_method_47_6)) ?_ (by decide) (by decide)
  exact ⟨Ext.oKeepOf E93 [], a93, rfl, S_a93⟩
set_option maxRecDepth 65536 in
set_option maxHeartbeats 40000000 in
theorem own_crb31 (l : Launch) (Z : State) (a0 : Array Value) (hw : ∀ d ∈ tables_1, d.before a0 Z = true) (h0 : Heap) (hO : Ext Z.heap h0) (t : Addr) (kb : ClassId) (d0 : Int32) (d1 : Int32) (d2 : Int32) (V_t : Arv Z h0 t kb .byte (3 : Int32) [(.int (d0.toInt8.toInt32)), (.int (d1.toInt8.toInt32)), (.int (d2.toInt8.toInt32))] (.int (0 : Int32))) :
    CtrN l Z (⟨"java/util/Arrays", "copyOfRangeByte", "([BII)[B"⟩ : MethodName) jdk_65_method_133_code 5 (some (.array .byte)) ({ frames := 1, cells := 1, slots := 2, locals := 18 } : Room) #[(.ref t), (.int (1 : Int32)), (.int (3 : Int32))] h0 (fun v h' => Keep h0 h' [] ∧ ∃ u ku, v = some (.ref u) ∧ Arv Z h' u ku .byte (2 : Int32) [(.int (d1.toInt8.toInt32)), (.int (d2.toInt8.toInt32))] (.int (0 : Int32)) ∧ h0.size ≤ u) := by
  refine CtrN.of (plainFor_of_name pn_3) hO ?_
  intro p e s m below meth cD_ T0 X0 hsh hby hml hret hlk hnm
  refine Goes.cast (ef_own_crb31 m t) ?_
  show Goes _ _ _ _ T0 (mkF m 0 #[.val (.ref t), .val (.int (1 : Int32)), .val (.int (3 : Int32)), .unset, .unset] [])
  refine Goes.go (fun _ kS_ => XS.iloadN X0.here X0.ex rfl (hb hby d_jdk_65_method_133_0) rfl (XS.iloadN X0.here X0.ex rfl (hb hby d_jdk_65_method_133_1) rfl kS_)) ?_
  show Goes _ _ _ _ T0 (mkF m 2 #[.val (.ref t), .val (.int (1 : Int32)), .val (.int (3 : Int32)), .unset, .unset] [(.int (3 : Int32)), (.int (1 : Int32))])
  refine Wk.static (hm' := fun _ => h0) (y := (⟨"java/util/Arrays", "checkLength", "(II)V"⟩ : MethodName)) (W := 0) (kc := 0) (ks := 0) (argsL := [(.int (1 : Int32)), (.int (3 : Int32))]) (rest := []) (as' := #[(.int (1 : Int32)), (.int (3 : Int32))]) (ws := []) X0 (w_157 hw) (w_158 hw) (w_152 hw) (w_159 hw) (by decide) (CtrN.pays (own_chl l Z a0 hw h0 X0.old (1 : Int32) (3 : Int32) (by decide)) (w_159 hw) (w_152 hw) (by decide) (by decide)) (fun v h' L q => ⟨q.2, q.1.1⟩) all0 (fun _ => Mark.stay all0) rfl (by rw [hml]; rfl) (lenOf pd_6 rfl) rfl rfl (by show 2 * 0 + _ ≤ _; exact Nat.le_of_eq rfl) (hb hby d_jdk_65_method_133_2) (by decide) (by decide) ?_
  intro T98 h98 v98 L98 X98 q98 K98
  obtain ⟨⟨-, rfl⟩, -⟩ := q98
  replace V_t := V_t.ext K98.oExt
  show Goes _ _ _ _ T98 (mkF m 5 #[.val (.ref t), .val (.int (1 : Int32)), .val (.int (3 : Int32)), .unset, .unset] [])
  refine Goes.go (fun _ kS_ => XS.iloadN X98.here X98.ex rfl (hb hby d_jdk_65_method_133_5) rfl (XS.iloadN X98.here X98.ex rfl (hb hby d_jdk_65_method_133_6) rfl (XS.isub X98.here X98.ex rfl (hb hby d_jdk_65_method_133_7) rfl kS_))) ?_
  show Goes _ _ _ _ T98 (mkF m 8 #[.val (.ref t), .val (.int (1 : Int32)), .val (.int (3 : Int32)), .unset, .unset] [(.int ((3 : Int32) - (1 : Int32)))])
  refine Goes.cast (congrArg (fun zq_ => (mkF m 8 #[.val (.ref t), .val (.int (1 : Int32)), .val (.int (3 : Int32)), .unset, .unset] [(.int zq_)])) (show (((3 : Int32) - (1 : Int32)) : Int32) = (2 : Int32) from by decide)) ?_
  show Goes _ _ _ _ T98 (mkF m 8 #[.val (.ref t), .val (.int (1 : Int32)), .val (.int (3 : Int32)), .unset, .unset] [(.int (2 : Int32))])
  refine Goes.go (fun _ kS_ => XS.istoreN X98.here X98.ex rfl (hb hby d_jdk_65_method_133_8) rfl (l' := #[.val (.ref t), .val (.int (1 : Int32)), .val (.int (3 : Int32)), .val (.int (2 : Int32)), .unset]) rfl (XS.iloadN X98.here X98.ex rfl (hb hby d_jdk_65_method_133_9) rfl kS_)) ?_
  show Goes _ _ _ _ T98 (mkF m 10 #[.val (.ref t), .val (.int (1 : Int32)), .val (.int (3 : Int32)), .val (.int (2 : Int32)), .unset] [(.int (2 : Int32))])
  refine Wk.newA (aty := .byte) X98 (w_12 hw) rfl (hb hby d_jdk_65_method_133_10) rfl (by decide) (cap := 2) (by decide) (by decide) (by decide) (by decide) ?_
  intro T99 h99 b99 k99 g99 X99 E99 A99 B_b99
  have lt_t_b99 : t < b99 := by rw [g99]; exact V_t.lt
  replace V_t := V_t.ext E99
  have V_b99 : Arv Z h99 b99 k99 .byte (2 : Int32) [(.int (0 : Int32)), (.int (0 : Int32))] (.int (0 : Int32)) := A99.pad (pad_rep [] (.int (0 : Int32)) 2)
  have gz_b99 : Z.heap.size ≤ b99 := g99 ▸ X98.old.1
  have gm_b99 : h0.size ≤ b99 := g99 ▸ X98.ext.1
  show Goes _ _ _ _ T99 (mkF m 12 #[.val (.ref t), .val (.int (1 : Int32)), .val (.int (3 : Int32)), .val (.int (2 : Int32)), .unset] [(.ref b99)])
  refine Goes.go (fun _ kS_ => XS.astore X99.here X99.ex rfl (hb hby d_jdk_65_method_133_12) rfl rfl (l' := #[.val (.ref t), .val (.int (1 : Int32)), .val (.int (3 : Int32)), .val (.int (2 : Int32)), .val (.ref b99)]) rfl (XS.aloadN X99.here X99.ex rfl (hb hby d_jdk_65_method_133_14) rfl rfl (XS.iloadN X99.here X99.ex rfl (hb hby d_jdk_65_method_133_15) rfl (XS.aload X99.here X99.ex rfl (hb hby d_jdk_65_method_133_16) rfl rfl (XS.iconst X99.here X99.ex rfl (hb hby d_jdk_65_method_133_18) (XS.aloadN X99.here X99.ex rfl (hb hby d_jdk_65_method_133_19) rfl rfl kS_)))))) ?_
  show Goes _ _ _ _ T99 (mkF m 20 #[.val (.ref t), .val (.int (1 : Int32)), .val (.int (3 : Int32)), .val (.int (2 : Int32)), .val (.ref b99)] [(.ref t), (.int (0 : Int32)), (.ref b99), (.int (1 : Int32)), (.ref t)])
  refine Goes.go (X99.alen V_t rfl rfl (hb hby d_jdk_65_method_133_20)) ?_
  show Goes _ _ _ _ T99 (mkF m 21 #[.val (.ref t), .val (.int (1 : Int32)), .val (.int (3 : Int32)), .val (.int (2 : Int32)), .val (.ref b99)] [(.int (3 : Int32)), (.int (0 : Int32)), (.ref b99), (.int (1 : Int32)), (.ref t)])
  refine Goes.go (fun _ kS_ => XS.iloadN X99.here X99.ex rfl (hb hby d_jdk_65_method_133_21) rfl (XS.isub X99.here X99.ex rfl (hb hby d_jdk_65_method_133_22) rfl kS_)) ?_
  show Goes _ _ _ _ T99 (mkF m 23 #[.val (.ref t), .val (.int (1 : Int32)), .val (.int (3 : Int32)), .val (.int (2 : Int32)), .val (.ref b99)] [(.int ((3 : Int32) - (1 : Int32))), (.int (0 : Int32)), (.ref b99), (.int (1 : Int32)), (.ref t)])
  refine Goes.cast (congrArg (fun zq_ => (mkF m 23 #[.val (.ref t), .val (.int (1 : Int32)), .val (.int (3 : Int32)), .val (.int (2 : Int32)), .val (.ref b99)] [(.int zq_), (.int (0 : Int32)), (.ref b99), (.int (1 : Int32)), (.ref t)])) (show (((3 : Int32) - (1 : Int32)) : Int32) = (2 : Int32) from by decide)) ?_
  show Goes _ _ _ _ T99 (mkF m 23 #[.val (.ref t), .val (.int (1 : Int32)), .val (.int (3 : Int32)), .val (.int (2 : Int32)), .val (.ref b99)] [(.int (2 : Int32)), (.int (0 : Int32)), (.ref b99), (.int (1 : Int32)), (.ref t)])
  refine Goes.go (fun _ kS_ => XS.iloadN X99.here X99.ex rfl (hb hby d_jdk_65_method_133_23) rfl kS_) ?_
  show Goes _ _ _ _ T99 (mkF m 24 #[.val (.ref t), .val (.int (1 : Int32)), .val (.int (3 : Int32)), .val (.int (2 : Int32)), .val (.ref b99)] [(.int (2 : Int32)), (.int (2 : Int32)), (.int (0 : Int32)), (.ref b99), (.int (1 : Int32)), (.ref t)])
  refine Wk.static (hm' := fun _ => h0) (y := (⟨"java/lang/Math", "min", "(II)I"⟩ : MethodName)) (W := 4) (kc := 0) (ks := 0) (argsL := [(.int (2 : Int32)), (.int (2 : Int32))]) (rest := [(.int (0 : Int32)), (.ref b99), (.int (1 : Int32)), (.ref t)]) (as' := #[(.int (2 : Int32)), (.int (2 : Int32))]) (ws := []) X99 (w_160 hw) (w_87 hw) (w_88 hw) (w_89 hw) (by decide) (CtrN.pays (own_min l Z a0 hw h99 X99.old (2 : Int32)) (w_89 hw) (w_88 hw) (by decide) (by decide)) (fun v h' L q => ⟨q.2, q.1.1⟩) all0 (fun _ => Mark.stay all0) rfl (by rw [hml]; rfl) (lenOf pd_1 rfl) rfl rfl (by show 2 * 0 + _ ≤ _; exact Nat.le_of_eq rfl) (hb hby d_jdk_65_method_133_24) (by decide) (by decide) ?_
  intro T100 h100 v100 L100 X100 q100 K100
  obtain ⟨⟨-, rfl⟩, -⟩ := q100
  replace V_t := V_t.ext K100.oExt
  replace V_b99 := V_b99.ext K100.oExt
  show Goes _ _ _ _ T100 (mkF m 27 #[.val (.ref t), .val (.int (1 : Int32)), .val (.int (3 : Int32)), .val (.int (2 : Int32)), .val (.ref b99)] [(.int (2 : Int32)), (.int (0 : Int32)), (.ref b99), (.int (1 : Int32)), (.ref t)])
  refine Wk.acopy (hm' := fun _ => h0) X100 (w_161 hw) (w_164 hw) (w_162 hw) (w_163 hw) V_t V_b99 ⟨rfl, rfl⟩ (by decide) (by decide) (by decide) (by decide) (by decide) (us := [(.int (d1.toInt8.toInt32)), (.int (d2.toInt8.toInt32))]) rfl (Nat.le_of_ble_eq_true rfl) gz_b99 (fun _ => Mark.stay (allS gm_b99 all0)) rfl (by rw [hml]; rfl) rfl (hb hby d_jdk_65_method_133_27) (by decide) (W := 0) (by show 2 * 0 + _ ≤ _; exact Nat.le_of_eq rfl) (by decide) ?_
  intro T101 h101 X101 K101 V101
  have V_b99 : Arv Z h101 b99 _ .byte (2 : Int32) [(.int (d1.toInt8.toInt32)), (.int (d2.toInt8.toInt32))] (.int (0 : Int32)) := V101
  show Goes _ _ _ _ T101 (mkF m 30 #[.val (.ref t), .val (.int (1 : Int32)), .val (.int (3 : Int32)), .val (.int (2 : Int32)), .val (.ref b99)] [])
  refine Goes.go (fun _ kS_ => XS.aload X101.here X101.ex rfl (hb hby d_jdk_65_method_133_30) rfl rfl kS_) ?_
  show Goes _ _ _ _ T101 (mkF m 32 #[.val (.ref t), .val (.int (1 : Int32)), .val (.int (3 : Int32)), .val (.int (2 : Int32)), .val (.ref b99)] [(.ref b99)])
  refine Goes.outN X101 (fun q => by rw [hret] at q; cases q) hlk (X101.rA hret rfl rfl (hb hby d_jdk_65_method_133_32)) ?_ (by decide) (by decide)
  exact ⟨Ext.oKeepOf X101.ext [], b99, _, rfl, V_b99, gm_b99⟩
set_option maxRecDepth 65536 in
set_option maxHeartbeats 40000000 in
theorem own_cor31 (l : Launch) (Z : State) (a0 : Array Value) (hw : ∀ d ∈ tables_1, d.before a0 Z = true) (h0 : Heap) (hO : Ext Z.heap h0) (t : Addr) (kb : ClassId) (d0 : Int32) (d1 : Int32) (d2 : Int32) (V_t : Arv Z h0 t kb .byte (3 : Int32) [(.int (d0.toInt8.toInt32)), (.int (d1.toInt8.toInt32)), (.int (d2.toInt8.toInt32))] (.int (0 : Int32))) :
    CtrN l Z (⟨"java/util/Arrays", "copyOfRange", "([BII)[B"⟩ : MethodName) jdk_65_method_132_code 3 (some (.array .byte)) ({ frames := 2, cells := 1, slots := 2, locals := 34 } : Room) #[(.ref t), (.int (1 : Int32)), (.int (3 : Int32))] h0 (fun v h' => Keep h0 h' [] ∧ ∃ u ku, v = some (.ref u) ∧ Arv Z h' u ku .byte (2 : Int32) [(.int (d1.toInt8.toInt32)), (.int (d2.toInt8.toInt32))] (.int (0 : Int32)) ∧ h0.size ≤ u) := by
  refine CtrN.of (plainFor_of_name pn_3) hO ?_
  intro p e s m below meth cD_ T0 X0 hsh hby hml hret hlk hnm
  refine Goes.cast (ef_own_cor31 m t) ?_
  show Goes _ _ _ _ T0 (mkF m 0 #[.val (.ref t), .val (.int (1 : Int32)), .val (.int (3 : Int32))] [])
  refine Goes.go (fun _ kS_ => XS.iloadN X0.here X0.ex rfl (hb hby d_jdk_65_method_132_0) rfl (XS.ifYes X0.here X0.ex rfl (pc0 := 1) (pc' := 10) rfl (hb hby d_jdk_65_method_132_1) rfl ((if0 _ _).trans (cd_t (cd := .ne) (x := (1 : Int32)) (y := (0 : Int32)) (by decide))) (by decide) (by decide) (XS.aloadN X0.here X0.ex rfl (hb hby d_jdk_65_method_132_10) rfl rfl (XS.iloadN X0.here X0.ex rfl (hb hby d_jdk_65_method_132_11) rfl (XS.iloadN X0.here X0.ex rfl (hb hby d_jdk_65_method_132_12) rfl kS_))))) ?_
  show Goes _ _ _ _ T0 (mkF m 13 #[.val (.ref t), .val (.int (1 : Int32)), .val (.int (3 : Int32))] [(.int (3 : Int32)), (.int (1 : Int32)), (.ref t)])
  refine Wk.static (hm' := fun _ => h0) (y := (⟨"java/util/Arrays", "copyOfRangeByte", "([BII)[B"⟩ : MethodName)) (W := 0) (kc := 1) (ks := 2) (argsL := [(.ref t), (.int (1 : Int32)), (.int (3 : Int32))]) (rest := []) (as' := #[(.ref t), (.int (1 : Int32)), (.int (3 : Int32))]) (ws := []) X0 (w_154 hw) (w_155 hw) (w_152 hw) (w_156 hw) (by decide) (CtrN.pays (own_crb31 l Z a0 hw h0 X0.old t kb d0 d1 d2 V_t) (w_156 hw) (w_152 hw) (by decide) (by decide)) (fun v h' L q => ⟨q.2, q.1.1⟩) all0 (fun _ => Mark.stay all0) rfl (by rw [hml]; rfl) (lenOf pd_7 rfl) rfl rfl (by show 2 * 0 + _ ≤ _; exact Nat.le_of_eq rfl) (hb hby d_jdk_65_method_132_13) (by decide) (by decide) ?_
  intro T103 h103 v103 L103 X103 q103 K103
  obtain ⟨⟨-, u103, ku103, rfl, U103, gu103⟩, -⟩ := q103
  show Goes _ _ _ _ T103 (mkF m 16 #[.val (.ref t), .val (.int (1 : Int32)), .val (.int (3 : Int32))] [(.ref u103)])
  refine Goes.outN X103 (fun q => by rw [hret] at q; cases q) hlk (X103.rA hret rfl rfl (hb hby d_jdk_65_method_132_16)) ?_ (by decide) (by decide)
  exact ⟨Ext.oKeepOf X103.ext [], u103, ku103, rfl, U103, gu103⟩
set_option maxRecDepth 65536 in
set_option maxHeartbeats 40000000 in
theorem own_nst31 (l : Launch) (Z : State) (a0 : Array Value) (hw : ∀ d ∈ tables_1, d.before a0 Z = true) (hEL : EW Z a0 consts_1) (h0 : Heap) (hO : Ext Z.heap h0) (t : Addr) (kb : ClassId) (d0 : Int32) (d1 : Int32) (d2 : Int32) (V_t : Arv Z h0 t kb .byte (3 : Int32) [(.int (d0.toInt8.toInt32)), (.int (d1.toInt8.toInt32)), (.int (d2.toInt8.toInt32))] (.int (0 : Int32))) (b0 : ¬ d0 < 0 ∧ ¬ (255 : Int32) < d0) (b1 : ¬ d1 < 0 ∧ ¬ (255 : Int32) < d1) (b2 : ¬ d2 < 0 ∧ ¬ (255 : Int32) < d2) :
    CtrS l Z consts_1 (⟨"java/lang/StringLatin1", "newString", "([BII)Ljava/lang/String;"⟩ : MethodName) jdk_43_method_47_code 3 (some (.object "java/lang/String")) ({ frames := 3, cells := 2, slots := 7, locals := 50 } : Room) #[(.ref t), (.int (1 : Int32)), (.int (2 : Int32))] h0 (fun v h' => Keep h0 h' [] ∧ ∃ a, v = some (.ref a) ∧ LStr Z h' a ([d1, d2] : List Int32)) := by
  refine CtrS.of (plainFor_of_name pn_1) hO ?_
  intro p e s m below meth cD_ T0 X0 hsh hby hml hret hlk hnm
  refine Goes.cast (ef_own_nst31 m t) ?_
  show Goes _ _ _ _ T0 (mkF m 0 #[.val (.ref t), .val (.int (1 : Int32)), .val (.int (2 : Int32))] [])
  refine Goes.go (fun _ kS_ => XS.iloadN X0.here X0.ex rfl (hb hby d_jdk_43_method_47_0) rfl (XS.ifYes X0.here X0.ex rfl (pc0 := 1) (pc' := 7) rfl (hb hby d_jdk_43_method_47_1) rfl ((if0 _ _).trans (cd_t (cd := .ne) (x := (2 : Int32)) (y := (0 : Int32)) (by decide))) (by decide) (by decide) kS_)) ?_
  show Goes _ _ _ _ T0 (mkF m 7 #[.val (.ref t), .val (.int (1 : Int32)), .val (.int (2 : Int32))] [])
  refine Wk.new X0 (w_149 hw) (w_11 hw) (w_10 hw) rfl (hb hby d_jdk_43_method_47_7) (by decide) (by decide) ?_
  intro T107 h107 a107 g107 X107 E107 A107 D107
  have gz_a107 : Z.heap.size ≤ a107 := g107 ▸ X0.old.1
  have gm_a107 : h0.size ≤ a107 := g107 ▸ X0.ext.1
  have F_a107_value : Fld Z h107 a107 "java/lang/String" "value" "[B" .null := D107 (Or.inr (w_13 hw)) (ty := (.array .byte)) (by decide)
  have F_a107_coder : Fld Z h107 a107 "java/lang/String" "coder" "B" (.int (0 : Int32)) := D107 (Or.inr (w_14 hw)) (ty := .byte) (by decide)
  clear D107
  show Goes _ _ _ _ T107 (mkF m 10 #[.val (.ref t), .val (.int (1 : Int32)), .val (.int (2 : Int32))] [(.ref a107)])
  refine Goes.go (fun _ kS_ => XS.dup X107.here X107.ex rfl (hb hby d_jdk_43_method_47_10) rfl rfl (XS.aloadN X107.here X107.ex rfl (hb hby d_jdk_43_method_47_11) rfl rfl (XS.iloadN X107.here X107.ex rfl (hb hby d_jdk_43_method_47_12) rfl (XS.iloadN X107.here X107.ex rfl (hb hby d_jdk_43_method_47_13) rfl (XS.iloadN X107.here X107.ex rfl (hb hby d_jdk_43_method_47_14) rfl (XS.iadd X107.here X107.ex rfl (hb hby d_jdk_43_method_47_15) rfl kS_)))))) ?_
  show Goes _ _ _ _ T107 (mkF m 16 #[.val (.ref t), .val (.int (1 : Int32)), .val (.int (2 : Int32))] [(.int ((1 : Int32) + (2 : Int32))), (.int (1 : Int32)), (.ref t), (.ref a107), (.ref a107)])
  refine Goes.cast (congrArg (fun zq_ => (mkF m 16 #[.val (.ref t), .val (.int (1 : Int32)), .val (.int (2 : Int32))] [(.int zq_), (.int (1 : Int32)), (.ref t), (.ref a107), (.ref a107)])) (show (((1 : Int32) + (2 : Int32)) : Int32) = (3 : Int32) from by decide)) ?_
  show Goes _ _ _ _ T107 (mkF m 16 #[.val (.ref t), .val (.int (1 : Int32)), .val (.int (2 : Int32))] [(.int (3 : Int32)), (.int (1 : Int32)), (.ref t), (.ref a107), (.ref a107)])
  refine Wk.static (hm' := fun _ => h0) (y := (⟨"java/util/Arrays", "copyOfRange", "([BII)[B"⟩ : MethodName)) (W := 2) (kc := 1) (ks := 2) (argsL := [(.ref t), (.int (1 : Int32)), (.int (3 : Int32))]) (rest := [(.ref a107), (.ref a107)]) (as' := #[(.ref t), (.int (1 : Int32)), (.int (3 : Int32))]) (ws := []) X107 (w_150 hw) (w_151 hw) (w_152 hw) (w_153 hw) (by decide) (CtrN.pays (own_cor31 l Z a0 hw h107 X107.old t kb d0 d1 d2 (V_t.ext X107.ext)) (w_153 hw) (w_152 hw) (by decide) (by decide)) (fun v h' L q => ⟨q.2, q.1.1⟩) all0 (fun _ => Mark.stay all0) rfl (by rw [hml]; rfl) (lenOf pd_7 rfl) rfl rfl (by show 2 * 0 + _ ≤ _; exact Nat.le_of_eq rfl) (hb hby d_jdk_43_method_47_16) (by decide) (by decide) ?_
  intro T108 h108 v108 L108 X108 q108 K108
  obtain ⟨⟨-, u108, ku108, rfl, U108, gu108⟩, -⟩ := q108
  replace A107 := A107.ext K108.oExt
  replace F_a107_value := F_a107_value.ext K108.oExt
  replace F_a107_coder := F_a107_coder.ext K108.oExt
  show Goes _ _ _ _ T108 (mkF m 19 #[.val (.ref t), .val (.int (1 : Int32)), .val (.int (2 : Int32))] [(.ref u108), (.ref a107), (.ref a107)])
  refine Goes.go (fun _ kS_ => XS.iconst X108.here X108.ex rfl (hb hby d_jdk_43_method_47_19) kS_) ?_
  show Goes _ _ _ _ T108 (mkF m 20 #[.val (.ref t), .val (.int (1 : Int32)), .val (.int (2 : Int32))] [(.int (0 : Int32)), (.ref u108), (.ref a107), (.ref a107)])
  refine Wk.special (hm' := fun _ => h0) (y := (⟨"java/lang/String", "<init>", "([BB)V"⟩ : MethodName)) (W := 1) (kc := 0) (ks := 0) (argsL := [(.ref u108), (.int (0 : Int32))]) (rest := [(.ref a107)]) (as' := #[(.ref a107), (.ref u108), (.int (0 : Int32))]) (ws := [a107]) X108 rfl (w_165 hw) (w_166 hw) (w_167 hw) (by decide) (CtrN.pays (own_newB l Z a0 hw h108 X108.old a107 u108 A107 F_a107_value F_a107_coder gz_a107) (w_167 hw) (w_10 hw) (by decide) (by decide)) (fun v h' L q => ⟨q.2, q.1.1⟩) (allS gz_a107 all0) (fun _ => Mark.stay (allS gm_a107 all0)) rfl (by rw [hml]; rfl) (lenOf pd_8 rfl) rfl rfl (by show 2 * 0 + _ ≤ _; exact Nat.le_of_eq rfl) (hb hby d_jdk_43_method_47_20) (by decide) (by decide) ?_
  intro T109 h109 v109 L109 X109 q109 K109
  obtain ⟨⟨-, rfl, Es109, Vs109, Cs109⟩, -⟩ := q109
  show Goes _ _ _ _ T109 (mkF m 23 #[.val (.ref t), .val (.int (1 : Int32)), .val (.int (2 : Int32))] [(.ref a107)])
  have nt : u108 ∉ [a107] := ninS (Exa.neArv A107 U108 (w_11 hw)).symm nin0
  replace U108 := U108.keep K109 nt
  have hpp : ∀ c ∈ ([d1, d2] : List Int32), ¬ c < 0 ∧ ¬ (255 : Int32) < c := by
      intro c hc
      simp only [List.mem_cons, List.not_mem_nil, or_false] at hc
      rcases hc with rfl | rfl
      · exact b1
      · exact b2
  refine Goes.outS X109 hEL (fun q => by rw [hret] at q; cases q) hlk (X109.rA hret rfl rfl (hb hby d_jdk_43_method_47_23)) ?_ (by decide) (by decide)
  exact ⟨Ext.oKeepOf X109.ext [], a107, rfl, Es109, Cs109, ⟨_, _, Vs109, U108⟩, hpp, Nat.le_of_ble_eq_true rfl⟩
set_option maxRecDepth 65536 in
set_option maxHeartbeats 40000000 in
theorem own_crb32 (l : Launch) (Z : State) (a0 : Array Value) (hw : ∀ d ∈ tables_1, d.before a0 Z = true) (h0 : Heap) (hO : Ext Z.heap h0) (t : Addr) (kb : ClassId) (d0 : Int32) (d1 : Int32) (d2 : Int32) (V_t : Arv Z h0 t kb .byte (3 : Int32) [(.int (d0.toInt8.toInt32)), (.int (d1.toInt8.toInt32)), (.int (d2.toInt8.toInt32))] (.int (0 : Int32))) :
    CtrN l Z (⟨"java/util/Arrays", "copyOfRangeByte", "([BII)[B"⟩ : MethodName) jdk_65_method_133_code 5 (some (.array .byte)) ({ frames := 1, cells := 1, slots := 1, locals := 18 } : Room) #[(.ref t), (.int (2 : Int32)), (.int (3 : Int32))] h0 (fun v h' => Keep h0 h' [] ∧ ∃ u ku, v = some (.ref u) ∧ Arv Z h' u ku .byte (1 : Int32) [(.int (d2.toInt8.toInt32))] (.int (0 : Int32)) ∧ h0.size ≤ u) := by
  refine CtrN.of (plainFor_of_name pn_3) hO ?_
  intro p e s m below meth cD_ T0 X0 hsh hby hml hret hlk hnm
  refine Goes.cast (ef_own_crb32 m t) ?_
  show Goes _ _ _ _ T0 (mkF m 0 #[.val (.ref t), .val (.int (2 : Int32)), .val (.int (3 : Int32)), .unset, .unset] [])
  refine Goes.go (fun _ kS_ => XS.iloadN X0.here X0.ex rfl (hb hby d_jdk_65_method_133_0) rfl (XS.iloadN X0.here X0.ex rfl (hb hby d_jdk_65_method_133_1) rfl kS_)) ?_
  show Goes _ _ _ _ T0 (mkF m 2 #[.val (.ref t), .val (.int (2 : Int32)), .val (.int (3 : Int32)), .unset, .unset] [(.int (3 : Int32)), (.int (2 : Int32))])
  refine Wk.static (hm' := fun _ => h0) (y := (⟨"java/util/Arrays", "checkLength", "(II)V"⟩ : MethodName)) (W := 0) (kc := 0) (ks := 0) (argsL := [(.int (2 : Int32)), (.int (3 : Int32))]) (rest := []) (as' := #[(.int (2 : Int32)), (.int (3 : Int32))]) (ws := []) X0 (w_157 hw) (w_158 hw) (w_152 hw) (w_159 hw) (by decide) (CtrN.pays (own_chl l Z a0 hw h0 X0.old (2 : Int32) (3 : Int32) (by decide)) (w_159 hw) (w_152 hw) (by decide) (by decide)) (fun v h' L q => ⟨q.2, q.1.1⟩) all0 (fun _ => Mark.stay all0) rfl (by rw [hml]; rfl) (lenOf pd_6 rfl) rfl rfl (by show 2 * 0 + _ ≤ _; exact Nat.le_of_eq rfl) (hb hby d_jdk_65_method_133_2) (by decide) (by decide) ?_
  intro T114 h114 v114 L114 X114 q114 K114
  obtain ⟨⟨-, rfl⟩, -⟩ := q114
  replace V_t := V_t.ext K114.oExt
  show Goes _ _ _ _ T114 (mkF m 5 #[.val (.ref t), .val (.int (2 : Int32)), .val (.int (3 : Int32)), .unset, .unset] [])
  refine Goes.go (fun _ kS_ => XS.iloadN X114.here X114.ex rfl (hb hby d_jdk_65_method_133_5) rfl (XS.iloadN X114.here X114.ex rfl (hb hby d_jdk_65_method_133_6) rfl (XS.isub X114.here X114.ex rfl (hb hby d_jdk_65_method_133_7) rfl kS_))) ?_
  show Goes _ _ _ _ T114 (mkF m 8 #[.val (.ref t), .val (.int (2 : Int32)), .val (.int (3 : Int32)), .unset, .unset] [(.int ((3 : Int32) - (2 : Int32)))])
  refine Goes.cast (congrArg (fun zq_ => (mkF m 8 #[.val (.ref t), .val (.int (2 : Int32)), .val (.int (3 : Int32)), .unset, .unset] [(.int zq_)])) (show (((3 : Int32) - (2 : Int32)) : Int32) = (1 : Int32) from by decide)) ?_
  show Goes _ _ _ _ T114 (mkF m 8 #[.val (.ref t), .val (.int (2 : Int32)), .val (.int (3 : Int32)), .unset, .unset] [(.int (1 : Int32))])
  refine Goes.go (fun _ kS_ => XS.istoreN X114.here X114.ex rfl (hb hby d_jdk_65_method_133_8) rfl (l' := #[.val (.ref t), .val (.int (2 : Int32)), .val (.int (3 : Int32)), .val (.int (1 : Int32)), .unset]) rfl (XS.iloadN X114.here X114.ex rfl (hb hby d_jdk_65_method_133_9) rfl kS_)) ?_
  show Goes _ _ _ _ T114 (mkF m 10 #[.val (.ref t), .val (.int (2 : Int32)), .val (.int (3 : Int32)), .val (.int (1 : Int32)), .unset] [(.int (1 : Int32))])
  refine Wk.newA (aty := .byte) X114 (w_12 hw) rfl (hb hby d_jdk_65_method_133_10) rfl (by decide) (cap := 1) (by decide) (by decide) (by decide) (by decide) ?_
  intro T115 h115 b115 k115 g115 X115 E115 A115 B_b115
  have lt_t_b115 : t < b115 := by rw [g115]; exact V_t.lt
  replace V_t := V_t.ext E115
  have V_b115 : Arv Z h115 b115 k115 .byte (1 : Int32) [(.int (0 : Int32))] (.int (0 : Int32)) := A115.pad (pad_rep [] (.int (0 : Int32)) 1)
  have gz_b115 : Z.heap.size ≤ b115 := g115 ▸ X114.old.1
  have gm_b115 : h0.size ≤ b115 := g115 ▸ X114.ext.1
  show Goes _ _ _ _ T115 (mkF m 12 #[.val (.ref t), .val (.int (2 : Int32)), .val (.int (3 : Int32)), .val (.int (1 : Int32)), .unset] [(.ref b115)])
  refine Goes.go (fun _ kS_ => XS.astore X115.here X115.ex rfl (hb hby d_jdk_65_method_133_12) rfl rfl (l' := #[.val (.ref t), .val (.int (2 : Int32)), .val (.int (3 : Int32)), .val (.int (1 : Int32)), .val (.ref b115)]) rfl (XS.aloadN X115.here X115.ex rfl (hb hby d_jdk_65_method_133_14) rfl rfl (XS.iloadN X115.here X115.ex rfl (hb hby d_jdk_65_method_133_15) rfl (XS.aload X115.here X115.ex rfl (hb hby d_jdk_65_method_133_16) rfl rfl (XS.iconst X115.here X115.ex rfl (hb hby d_jdk_65_method_133_18) (XS.aloadN X115.here X115.ex rfl (hb hby d_jdk_65_method_133_19) rfl rfl kS_)))))) ?_
  show Goes _ _ _ _ T115 (mkF m 20 #[.val (.ref t), .val (.int (2 : Int32)), .val (.int (3 : Int32)), .val (.int (1 : Int32)), .val (.ref b115)] [(.ref t), (.int (0 : Int32)), (.ref b115), (.int (2 : Int32)), (.ref t)])
  refine Goes.go (X115.alen V_t rfl rfl (hb hby d_jdk_65_method_133_20)) ?_
  show Goes _ _ _ _ T115 (mkF m 21 #[.val (.ref t), .val (.int (2 : Int32)), .val (.int (3 : Int32)), .val (.int (1 : Int32)), .val (.ref b115)] [(.int (3 : Int32)), (.int (0 : Int32)), (.ref b115), (.int (2 : Int32)), (.ref t)])
  refine Goes.go (fun _ kS_ => XS.iloadN X115.here X115.ex rfl (hb hby d_jdk_65_method_133_21) rfl (XS.isub X115.here X115.ex rfl (hb hby d_jdk_65_method_133_22) rfl kS_)) ?_
  show Goes _ _ _ _ T115 (mkF m 23 #[.val (.ref t), .val (.int (2 : Int32)), .val (.int (3 : Int32)), .val (.int (1 : Int32)), .val (.ref b115)] [(.int ((3 : Int32) - (2 : Int32))), (.int (0 : Int32)), (.ref b115), (.int (2 : Int32)), (.ref t)])
  refine Goes.cast (congrArg (fun zq_ => (mkF m 23 #[.val (.ref t), .val (.int (2 : Int32)), .val (.int (3 : Int32)), .val (.int (1 : Int32)), .val (.ref b115)] [(.int zq_), (.int (0 : Int32)), (.ref b115), (.int (2 : Int32)), (.ref t)])) (show (((3 : Int32) - (2 : Int32)) : Int32) = (1 : Int32) from by decide)) ?_
  show Goes _ _ _ _ T115 (mkF m 23 #[.val (.ref t), .val (.int (2 : Int32)), .val (.int (3 : Int32)), .val (.int (1 : Int32)), .val (.ref b115)] [(.int (1 : Int32)), (.int (0 : Int32)), (.ref b115), (.int (2 : Int32)), (.ref t)])
  refine Goes.go (fun _ kS_ => XS.iloadN X115.here X115.ex rfl (hb hby d_jdk_65_method_133_23) rfl kS_) ?_
  show Goes _ _ _ _ T115 (mkF m 24 #[.val (.ref t), .val (.int (2 : Int32)), .val (.int (3 : Int32)), .val (.int (1 : Int32)), .val (.ref b115)] [(.int (1 : Int32)), (.int (1 : Int32)), (.int (0 : Int32)), (.ref b115), (.int (2 : Int32)), (.ref t)])
  refine Wk.static (hm' := fun _ => h0) (y := (⟨"java/lang/Math", "min", "(II)I"⟩ : MethodName)) (W := 4) (kc := 0) (ks := 0) (argsL := [(.int (1 : Int32)), (.int (1 : Int32))]) (rest := [(.int (0 : Int32)), (.ref b115), (.int (2 : Int32)), (.ref t)]) (as' := #[(.int (1 : Int32)), (.int (1 : Int32))]) (ws := []) X115 (w_160 hw) (w_87 hw) (w_88 hw) (w_89 hw) (by decide) (CtrN.pays (own_min l Z a0 hw h115 X115.old (1 : Int32)) (w_89 hw) (w_88 hw) (by decide) (by decide)) (fun v h' L q => ⟨q.2, q.1.1⟩) all0 (fun _ => Mark.stay all0) rfl (by rw [hml]; rfl) (lenOf pd_1 rfl) rfl rfl (by show 2 * 0 + _ ≤ _; exact Nat.le_of_eq rfl) (hb hby d_jdk_65_method_133_24) (by decide) (by decide) ?_
  intro T116 h116 v116 L116 X116 q116 K116
  obtain ⟨⟨-, rfl⟩, -⟩ := q116
  replace V_t := V_t.ext K116.oExt
  replace V_b115 := V_b115.ext K116.oExt
  show Goes _ _ _ _ T116 (mkF m 27 #[.val (.ref t), .val (.int (2 : Int32)), .val (.int (3 : Int32)), .val (.int (1 : Int32)), .val (.ref b115)] [(.int (1 : Int32)), (.int (0 : Int32)), (.ref b115), (.int (2 : Int32)), (.ref t)])
  refine Wk.acopy (hm' := fun _ => h0) X116 (w_161 hw) (w_164 hw) (w_162 hw) (w_163 hw) V_t V_b115 ⟨rfl, rfl⟩ (by decide) (by decide) (by decide) (by decide) (by decide) (us := [(.int (d2.toInt8.toInt32))]) rfl (Nat.le_of_ble_eq_true rfl) gz_b115 (fun _ => Mark.stay (allS gm_b115 all0)) rfl (by rw [hml]; rfl) rfl (hb hby d_jdk_65_method_133_27) (by decide) (W := 0) (by show 2 * 0 + _ ≤ _; exact Nat.le_of_eq rfl) (by decide) ?_
  intro T117 h117 X117 K117 V117
  have V_b115 : Arv Z h117 b115 _ .byte (1 : Int32) [(.int (d2.toInt8.toInt32))] (.int (0 : Int32)) := V117
  show Goes _ _ _ _ T117 (mkF m 30 #[.val (.ref t), .val (.int (2 : Int32)), .val (.int (3 : Int32)), .val (.int (1 : Int32)), .val (.ref b115)] [])
  refine Goes.go (fun _ kS_ => XS.aload X117.here X117.ex rfl (hb hby d_jdk_65_method_133_30) rfl rfl kS_) ?_
  show Goes _ _ _ _ T117 (mkF m 32 #[.val (.ref t), .val (.int (2 : Int32)), .val (.int (3 : Int32)), .val (.int (1 : Int32)), .val (.ref b115)] [(.ref b115)])
  refine Goes.outN X117 (fun q => by rw [hret] at q; cases q) hlk (X117.rA hret rfl rfl (hb hby d_jdk_65_method_133_32)) ?_ (by decide) (by decide)
  exact ⟨Ext.oKeepOf X117.ext [], b115, _, rfl, V_b115, gm_b115⟩
set_option maxRecDepth 65536 in
set_option maxHeartbeats 40000000 in
theorem own_cor32 (l : Launch) (Z : State) (a0 : Array Value) (hw : ∀ d ∈ tables_1, d.before a0 Z = true) (h0 : Heap) (hO : Ext Z.heap h0) (t : Addr) (kb : ClassId) (d0 : Int32) (d1 : Int32) (d2 : Int32) (V_t : Arv Z h0 t kb .byte (3 : Int32) [(.int (d0.toInt8.toInt32)), (.int (d1.toInt8.toInt32)), (.int (d2.toInt8.toInt32))] (.int (0 : Int32))) :
    CtrN l Z (⟨"java/util/Arrays", "copyOfRange", "([BII)[B"⟩ : MethodName) jdk_65_method_132_code 3 (some (.array .byte)) ({ frames := 2, cells := 1, slots := 1, locals := 34 } : Room) #[(.ref t), (.int (2 : Int32)), (.int (3 : Int32))] h0 (fun v h' => Keep h0 h' [] ∧ ∃ u ku, v = some (.ref u) ∧ Arv Z h' u ku .byte (1 : Int32) [(.int (d2.toInt8.toInt32))] (.int (0 : Int32)) ∧ h0.size ≤ u) := by
  refine CtrN.of (plainFor_of_name pn_3) hO ?_
  intro p e s m below meth cD_ T0 X0 hsh hby hml hret hlk hnm
  refine Goes.cast (ef_own_cor32 m t) ?_
  show Goes _ _ _ _ T0 (mkF m 0 #[.val (.ref t), .val (.int (2 : Int32)), .val (.int (3 : Int32))] [])
  refine Goes.go (fun _ kS_ => XS.iloadN X0.here X0.ex rfl (hb hby d_jdk_65_method_132_0) rfl (XS.ifYes X0.here X0.ex rfl (pc0 := 1) (pc' := 10) rfl (hb hby d_jdk_65_method_132_1) rfl ((if0 _ _).trans (cd_t (cd := .ne) (x := (2 : Int32)) (y := (0 : Int32)) (by decide))) (by decide) (by decide) (XS.aloadN X0.here X0.ex rfl (hb hby d_jdk_65_method_132_10) rfl rfl (XS.iloadN X0.here X0.ex rfl (hb hby d_jdk_65_method_132_11) rfl (XS.iloadN X0.here X0.ex rfl (hb hby d_jdk_65_method_132_12) rfl kS_))))) ?_
  show Goes _ _ _ _ T0 (mkF m 13 #[.val (.ref t), .val (.int (2 : Int32)), .val (.int (3 : Int32))] [(.int (3 : Int32)), (.int (2 : Int32)), (.ref t)])
  refine Wk.static (hm' := fun _ => h0) (y := (⟨"java/util/Arrays", "copyOfRangeByte", "([BII)[B"⟩ : MethodName)) (W := 0) (kc := 1) (ks := 1) (argsL := [(.ref t), (.int (2 : Int32)), (.int (3 : Int32))]) (rest := []) (as' := #[(.ref t), (.int (2 : Int32)), (.int (3 : Int32))]) (ws := []) X0 (w_154 hw) (w_155 hw) (w_152 hw) (w_156 hw) (by decide) (CtrN.pays (own_crb32 l Z a0 hw h0 X0.old t kb d0 d1 d2 V_t) (w_156 hw) (w_152 hw) (by decide) (by decide)) (fun v h' L q => ⟨q.2, q.1.1⟩) all0 (fun _ => Mark.stay all0) rfl (by rw [hml]; rfl) (lenOf pd_7 rfl) rfl rfl (by show 2 * 0 + _ ≤ _; exact Nat.le_of_eq rfl) (hb hby d_jdk_65_method_132_13) (by decide) (by decide) ?_
  intro T119 h119 v119 L119 X119 q119 K119
  obtain ⟨⟨-, u119, ku119, rfl, U119, gu119⟩, -⟩ := q119
  show Goes _ _ _ _ T119 (mkF m 16 #[.val (.ref t), .val (.int (2 : Int32)), .val (.int (3 : Int32))] [(.ref u119)])
  refine Goes.outN X119 (fun q => by rw [hret] at q; cases q) hlk (X119.rA hret rfl rfl (hb hby d_jdk_65_method_132_16)) ?_ (by decide) (by decide)
  exact ⟨Ext.oKeepOf X119.ext [], u119, ku119, rfl, U119, gu119⟩
set_option maxRecDepth 65536 in
set_option maxHeartbeats 40000000 in
theorem own_nst32 (l : Launch) (Z : State) (a0 : Array Value) (hw : ∀ d ∈ tables_1, d.before a0 Z = true) (hEL : EW Z a0 consts_1) (h0 : Heap) (hO : Ext Z.heap h0) (t : Addr) (kb : ClassId) (d0 : Int32) (d1 : Int32) (d2 : Int32) (V_t : Arv Z h0 t kb .byte (3 : Int32) [(.int (d0.toInt8.toInt32)), (.int (d1.toInt8.toInt32)), (.int (d2.toInt8.toInt32))] (.int (0 : Int32))) (b0 : ¬ d0 < 0 ∧ ¬ (255 : Int32) < d0) (b1 : ¬ d1 < 0 ∧ ¬ (255 : Int32) < d1) (b2 : ¬ d2 < 0 ∧ ¬ (255 : Int32) < d2) :
    CtrS l Z consts_1 (⟨"java/lang/StringLatin1", "newString", "([BII)Ljava/lang/String;"⟩ : MethodName) jdk_43_method_47_code 3 (some (.object "java/lang/String")) ({ frames := 3, cells := 2, slots := 7, locals := 50 } : Room) #[(.ref t), (.int (2 : Int32)), (.int (1 : Int32))] h0 (fun v h' => Keep h0 h' [] ∧ ∃ a, v = some (.ref a) ∧ LStr Z h' a ([d2] : List Int32)) := by
  refine CtrS.of (plainFor_of_name pn_1) hO ?_
  intro p e s m below meth cD_ T0 X0 hsh hby hml hret hlk hnm
  refine Goes.cast (ef_own_nst32 m t) ?_
  show Goes _ _ _ _ T0 (mkF m 0 #[.val (.ref t), .val (.int (2 : Int32)), .val (.int (1 : Int32))] [])
  refine Goes.go (fun _ kS_ => XS.iloadN X0.here X0.ex rfl (hb hby d_jdk_43_method_47_0) rfl (XS.ifYes X0.here X0.ex rfl (pc0 := 1) (pc' := 7) rfl (hb hby d_jdk_43_method_47_1) rfl ((if0 _ _).trans (cd_t (cd := .ne) (x := (1 : Int32)) (y := (0 : Int32)) (by decide))) (by decide) (by decide) kS_)) ?_
  show Goes _ _ _ _ T0 (mkF m 7 #[.val (.ref t), .val (.int (2 : Int32)), .val (.int (1 : Int32))] [])
  refine Wk.new X0 (w_149 hw) (w_11 hw) (w_10 hw) rfl (hb hby d_jdk_43_method_47_7) (by decide) (by decide) ?_
  intro T123 h123 a123 g123 X123 E123 A123 D123
  have gz_a123 : Z.heap.size ≤ a123 := g123 ▸ X0.old.1
  have gm_a123 : h0.size ≤ a123 := g123 ▸ X0.ext.1
  have F_a123_value : Fld Z h123 a123 "java/lang/String" "value" "[B" .null := D123 (Or.inr (w_13 hw)) (ty := (.array .byte)) (by decide)
  have F_a123_coder : Fld Z h123 a123 "java/lang/String" "coder" "B" (.int (0 : Int32)) := D123 (Or.inr (w_14 hw)) (ty := .byte) (by decide)
  clear D123
  show Goes _ _ _ _ T123 (mkF m 10 #[.val (.ref t), .val (.int (2 : Int32)), .val (.int (1 : Int32))] [(.ref a123)])
  refine Goes.go (fun _ kS_ => XS.dup X123.here X123.ex rfl (hb hby d_jdk_43_method_47_10) rfl rfl (XS.aloadN X123.here X123.ex rfl (hb hby d_jdk_43_method_47_11) rfl rfl (XS.iloadN X123.here X123.ex rfl (hb hby d_jdk_43_method_47_12) rfl (XS.iloadN X123.here X123.ex rfl (hb hby d_jdk_43_method_47_13) rfl (XS.iloadN X123.here X123.ex rfl (hb hby d_jdk_43_method_47_14) rfl (XS.iadd X123.here X123.ex rfl (hb hby d_jdk_43_method_47_15) rfl kS_)))))) ?_
  show Goes _ _ _ _ T123 (mkF m 16 #[.val (.ref t), .val (.int (2 : Int32)), .val (.int (1 : Int32))] [(.int ((2 : Int32) + (1 : Int32))), (.int (2 : Int32)), (.ref t), (.ref a123), (.ref a123)])
  refine Goes.cast (congrArg (fun zq_ => (mkF m 16 #[.val (.ref t), .val (.int (2 : Int32)), .val (.int (1 : Int32))] [(.int zq_), (.int (2 : Int32)), (.ref t), (.ref a123), (.ref a123)])) (show (((2 : Int32) + (1 : Int32)) : Int32) = (3 : Int32) from by decide)) ?_
  show Goes _ _ _ _ T123 (mkF m 16 #[.val (.ref t), .val (.int (2 : Int32)), .val (.int (1 : Int32))] [(.int (3 : Int32)), (.int (2 : Int32)), (.ref t), (.ref a123), (.ref a123)])
  refine Wk.static (hm' := fun _ => h0) (y := (⟨"java/util/Arrays", "copyOfRange", "([BII)[B"⟩ : MethodName)) (W := 2) (kc := 1) (ks := 1) (argsL := [(.ref t), (.int (2 : Int32)), (.int (3 : Int32))]) (rest := [(.ref a123), (.ref a123)]) (as' := #[(.ref t), (.int (2 : Int32)), (.int (3 : Int32))]) (ws := []) X123 (w_150 hw) (w_151 hw) (w_152 hw) (w_153 hw) (by decide) (CtrN.pays (own_cor32 l Z a0 hw h123 X123.old t kb d0 d1 d2 (V_t.ext X123.ext)) (w_153 hw) (w_152 hw) (by decide) (by decide)) (fun v h' L q => ⟨q.2, q.1.1⟩) all0 (fun _ => Mark.stay all0) rfl (by rw [hml]; rfl) (lenOf pd_7 rfl) rfl rfl (by show 2 * 0 + _ ≤ _; exact Nat.le_of_eq rfl) (hb hby d_jdk_43_method_47_16) (by decide) (by decide) ?_
  intro T124 h124 v124 L124 X124 q124 K124
  obtain ⟨⟨-, u124, ku124, rfl, U124, gu124⟩, -⟩ := q124
  replace A123 := A123.ext K124.oExt
  replace F_a123_value := F_a123_value.ext K124.oExt
  replace F_a123_coder := F_a123_coder.ext K124.oExt
  show Goes _ _ _ _ T124 (mkF m 19 #[.val (.ref t), .val (.int (2 : Int32)), .val (.int (1 : Int32))] [(.ref u124), (.ref a123), (.ref a123)])
  refine Goes.go (fun _ kS_ => XS.iconst X124.here X124.ex rfl (hb hby d_jdk_43_method_47_19) kS_) ?_
  show Goes _ _ _ _ T124 (mkF m 20 #[.val (.ref t), .val (.int (2 : Int32)), .val (.int (1 : Int32))] [(.int (0 : Int32)), (.ref u124), (.ref a123), (.ref a123)])
  refine Wk.special (hm' := fun _ => h0) (y := (⟨"java/lang/String", "<init>", "([BB)V"⟩ : MethodName)) (W := 1) (kc := 0) (ks := 0) (argsL := [(.ref u124), (.int (0 : Int32))]) (rest := [(.ref a123)]) (as' := #[(.ref a123), (.ref u124), (.int (0 : Int32))]) (ws := [a123]) X124 rfl (w_165 hw) (w_166 hw) (w_167 hw) (by decide) (CtrN.pays (own_newB l Z a0 hw h124 X124.old a123 u124 A123 F_a123_value F_a123_coder gz_a123) (w_167 hw) (w_10 hw) (by decide) (by decide)) (fun v h' L q => ⟨q.2, q.1.1⟩) (allS gz_a123 all0) (fun _ => Mark.stay (allS gm_a123 all0)) rfl (by rw [hml]; rfl) (lenOf pd_8 rfl) rfl rfl (by show 2 * 0 + _ ≤ _; exact Nat.le_of_eq rfl) (hb hby d_jdk_43_method_47_20) (by decide) (by decide) ?_
  intro T125 h125 v125 L125 X125 q125 K125
  obtain ⟨⟨-, rfl, Es125, Vs125, Cs125⟩, -⟩ := q125
  show Goes _ _ _ _ T125 (mkF m 23 #[.val (.ref t), .val (.int (2 : Int32)), .val (.int (1 : Int32))] [(.ref a123)])
  have nt : u124 ∉ [a123] := ninS (Exa.neArv A123 U124 (w_11 hw)).symm nin0
  replace U124 := U124.keep K125 nt
  have hpp : ∀ c ∈ ([d2] : List Int32), ¬ c < 0 ∧ ¬ (255 : Int32) < c := by
      intro c hc
      simp only [List.mem_cons, List.not_mem_nil, or_false] at hc
      rcases hc with rfl
      · exact b2
  refine Goes.outS X125 hEL (fun q => by rw [hret] at q; cases q) hlk (X125.rA hret rfl rfl (hb hby d_jdk_43_method_47_23)) ?_ (by decide) (by decide)
  exact ⟨Ext.oKeepOf X125.ext [], a123, rfl, Es125, Cs125, ⟨_, _, Vs125, U124⟩, hpp, Nat.le_of_ble_eq_true rfl⟩
set_option maxRecDepth 65536 in
set_option maxHeartbeats 40000000 in
theorem own_nst33 (l : Launch) (Z : State) (a0 : Array Value) (hw : ∀ d ∈ tables_1, d.before a0 Z = true) (hEL : EW Z a0 consts_1) (h0 : Heap) (hO : Ext Z.heap h0) (t : Addr) (kb : ClassId) (d0 : Int32) (d1 : Int32) (d2 : Int32) (V_t : Arv Z h0 t kb .byte (3 : Int32) [(.int (d0.toInt8.toInt32)), (.int (d1.toInt8.toInt32)), (.int (d2.toInt8.toInt32))] (.int (0 : Int32))) (b0 : ¬ d0 < 0 ∧ ¬ (255 : Int32) < d0) (b1 : ¬ d1 < 0 ∧ ¬ (255 : Int32) < d1) (b2 : ¬ d2 < 0 ∧ ¬ (255 : Int32) < d2) :
    CtrS l Z consts_1 (⟨"java/lang/StringLatin1", "newString", "([BII)Ljava/lang/String;"⟩ : MethodName) jdk_43_method_47_code 3 (some (.object "java/lang/String")) ({ frames := 3, cells := 2, slots := 7, locals := 50 } : Room) #[(.ref t), (.int (3 : Int32)), (.int (0 : Int32))] h0 (fun v h' => Keep h0 h' [] ∧ ∃ a, v = some (.ref a) ∧ LStr Z h' a ([] : List Int32)) := by
  refine CtrS.of (plainFor_of_name pn_1) hO ?_
  intro p e s m below meth cD_ T0 X0 hsh hby hml hret hlk hnm
  refine Goes.cast (ef_own_nst33 m t) ?_
  show Goes _ _ _ _ T0 (mkF m 0 #[.val (.ref t), .val (.int (3 : Int32)), .val (.int (0 : Int32))] [])
  refine Goes.go (fun _ kS_ => XS.iloadN X0.here X0.ex rfl (hb hby d_jdk_43_method_47_0) rfl (XS.ifNo X0.here X0.ex rfl (hb hby d_jdk_43_method_47_1) rfl ((if0 _ _).trans (cd_f (cd := .ne) (x := (0 : Int32)) (y := (0 : Int32)) (by decide))) kS_)) ?_
  show Goes _ _ _ _ T0 (mkF m 4 #[.val (.ref t), .val (.int (3 : Int32)), .val (.int (0 : Int32))] [])
  refine Wk.ldcR X0 (w_134 hw) (own_wS hw) hEL (by decide) (vs := []) (z := 0) ⟨by decide, rfl⟩ (by decide) rfl rfl (hb hby d_jdk_43_method_47_4) (n := 0) (by decide) (by decide) (by decide) (by decide) ?_
  intro T127 h127 a127 b127 k127 X127 E127 Ea127 Ca127 Va127 Ab127
  have S_a127 : LStr Z h127 a127 ([] : List Int32) := ⟨Ea127, Ca127, ⟨_, _, Va127, Ab127⟩, (fun _ q => nomatch q), Nat.le_of_ble_eq_true rfl⟩
  show Goes _ _ _ _ T127 (mkF m 6 #[.val (.ref t), .val (.int (3 : Int32)), .val (.int (0 : Int32))] [(.ref a127)])
  refine Goes.outS X127 hEL (fun q => by rw [hret] at q; cases q) hlk (X127.rA hret rfl rfl (hb hby d_jdk_43_method_47_6)) ?_ (by decide) (by decide)
  exact ⟨Ext.oKeepOf E127 [], a127, rfl, S_a127⟩
set_option maxRecDepth 65536 in
set_option maxHeartbeats 40000000 in
theorem own_crb21 (l : Launch) (Z : State) (a0 : Array Value) (hw : ∀ d ∈ tables_1, d.before a0 Z = true) (h0 : Heap) (hO : Ext Z.heap h0) (t : Addr) (kb : ClassId) (d0 : Int32) (d1 : Int32) (V_t : Arv Z h0 t kb .byte (2 : Int32) [(.int (d0.toInt8.toInt32)), (.int (d1.toInt8.toInt32))] (.int (0 : Int32))) :
    CtrN l Z (⟨"java/util/Arrays", "copyOfRangeByte", "([BII)[B"⟩ : MethodName) jdk_65_method_133_code 5 (some (.array .byte)) ({ frames := 1, cells := 1, slots := 1, locals := 18 } : Room) #[(.ref t), (.int (1 : Int32)), (.int (2 : Int32))] h0 (fun v h' => Keep h0 h' [] ∧ ∃ u ku, v = some (.ref u) ∧ Arv Z h' u ku .byte (1 : Int32) [(.int (d1.toInt8.toInt32))] (.int (0 : Int32)) ∧ h0.size ≤ u) := by
  refine CtrN.of (plainFor_of_name pn_3) hO ?_
  intro p e s m below meth cD_ T0 X0 hsh hby hml hret hlk hnm
  refine Goes.cast (ef_own_crb21 m t) ?_
  show Goes _ _ _ _ T0 (mkF m 0 #[.val (.ref t), .val (.int (1 : Int32)), .val (.int (2 : Int32)), .unset, .unset] [])
  refine Goes.go (fun _ kS_ => XS.iloadN X0.here X0.ex rfl (hb hby d_jdk_65_method_133_0) rfl (XS.iloadN X0.here X0.ex rfl (hb hby d_jdk_65_method_133_1) rfl kS_)) ?_
  show Goes _ _ _ _ T0 (mkF m 2 #[.val (.ref t), .val (.int (1 : Int32)), .val (.int (2 : Int32)), .unset, .unset] [(.int (2 : Int32)), (.int (1 : Int32))])
  refine Wk.static (hm' := fun _ => h0) (y := (⟨"java/util/Arrays", "checkLength", "(II)V"⟩ : MethodName)) (W := 0) (kc := 0) (ks := 0) (argsL := [(.int (1 : Int32)), (.int (2 : Int32))]) (rest := []) (as' := #[(.int (1 : Int32)), (.int (2 : Int32))]) (ws := []) X0 (w_157 hw) (w_158 hw) (w_152 hw) (w_159 hw) (by decide) (CtrN.pays (own_chl l Z a0 hw h0 X0.old (1 : Int32) (2 : Int32) (by decide)) (w_159 hw) (w_152 hw) (by decide) (by decide)) (fun v h' L q => ⟨q.2, q.1.1⟩) all0 (fun _ => Mark.stay all0) rfl (by rw [hml]; rfl) (lenOf pd_6 rfl) rfl rfl (by show 2 * 0 + _ ≤ _; exact Nat.le_of_eq rfl) (hb hby d_jdk_65_method_133_2) (by decide) (by decide) ?_
  intro T132 h132 v132 L132 X132 q132 K132
  obtain ⟨⟨-, rfl⟩, -⟩ := q132
  replace V_t := V_t.ext K132.oExt
  show Goes _ _ _ _ T132 (mkF m 5 #[.val (.ref t), .val (.int (1 : Int32)), .val (.int (2 : Int32)), .unset, .unset] [])
  refine Goes.go (fun _ kS_ => XS.iloadN X132.here X132.ex rfl (hb hby d_jdk_65_method_133_5) rfl (XS.iloadN X132.here X132.ex rfl (hb hby d_jdk_65_method_133_6) rfl (XS.isub X132.here X132.ex rfl (hb hby d_jdk_65_method_133_7) rfl kS_))) ?_
  show Goes _ _ _ _ T132 (mkF m 8 #[.val (.ref t), .val (.int (1 : Int32)), .val (.int (2 : Int32)), .unset, .unset] [(.int ((2 : Int32) - (1 : Int32)))])
  refine Goes.cast (congrArg (fun zq_ => (mkF m 8 #[.val (.ref t), .val (.int (1 : Int32)), .val (.int (2 : Int32)), .unset, .unset] [(.int zq_)])) (show (((2 : Int32) - (1 : Int32)) : Int32) = (1 : Int32) from by decide)) ?_
  show Goes _ _ _ _ T132 (mkF m 8 #[.val (.ref t), .val (.int (1 : Int32)), .val (.int (2 : Int32)), .unset, .unset] [(.int (1 : Int32))])
  refine Goes.go (fun _ kS_ => XS.istoreN X132.here X132.ex rfl (hb hby d_jdk_65_method_133_8) rfl (l' := #[.val (.ref t), .val (.int (1 : Int32)), .val (.int (2 : Int32)), .val (.int (1 : Int32)), .unset]) rfl (XS.iloadN X132.here X132.ex rfl (hb hby d_jdk_65_method_133_9) rfl kS_)) ?_
  show Goes _ _ _ _ T132 (mkF m 10 #[.val (.ref t), .val (.int (1 : Int32)), .val (.int (2 : Int32)), .val (.int (1 : Int32)), .unset] [(.int (1 : Int32))])
  refine Wk.newA (aty := .byte) X132 (w_12 hw) rfl (hb hby d_jdk_65_method_133_10) rfl (by decide) (cap := 1) (by decide) (by decide) (by decide) (by decide) ?_
  intro T133 h133 b133 k133 g133 X133 E133 A133 B_b133
  have lt_t_b133 : t < b133 := by rw [g133]; exact V_t.lt
  replace V_t := V_t.ext E133
  have V_b133 : Arv Z h133 b133 k133 .byte (1 : Int32) [(.int (0 : Int32))] (.int (0 : Int32)) := A133.pad (pad_rep [] (.int (0 : Int32)) 1)
  have gz_b133 : Z.heap.size ≤ b133 := g133 ▸ X132.old.1
  have gm_b133 : h0.size ≤ b133 := g133 ▸ X132.ext.1
  show Goes _ _ _ _ T133 (mkF m 12 #[.val (.ref t), .val (.int (1 : Int32)), .val (.int (2 : Int32)), .val (.int (1 : Int32)), .unset] [(.ref b133)])
  refine Goes.go (fun _ kS_ => XS.astore X133.here X133.ex rfl (hb hby d_jdk_65_method_133_12) rfl rfl (l' := #[.val (.ref t), .val (.int (1 : Int32)), .val (.int (2 : Int32)), .val (.int (1 : Int32)), .val (.ref b133)]) rfl (XS.aloadN X133.here X133.ex rfl (hb hby d_jdk_65_method_133_14) rfl rfl (XS.iloadN X133.here X133.ex rfl (hb hby d_jdk_65_method_133_15) rfl (XS.aload X133.here X133.ex rfl (hb hby d_jdk_65_method_133_16) rfl rfl (XS.iconst X133.here X133.ex rfl (hb hby d_jdk_65_method_133_18) (XS.aloadN X133.here X133.ex rfl (hb hby d_jdk_65_method_133_19) rfl rfl kS_)))))) ?_
  show Goes _ _ _ _ T133 (mkF m 20 #[.val (.ref t), .val (.int (1 : Int32)), .val (.int (2 : Int32)), .val (.int (1 : Int32)), .val (.ref b133)] [(.ref t), (.int (0 : Int32)), (.ref b133), (.int (1 : Int32)), (.ref t)])
  refine Goes.go (X133.alen V_t rfl rfl (hb hby d_jdk_65_method_133_20)) ?_
  show Goes _ _ _ _ T133 (mkF m 21 #[.val (.ref t), .val (.int (1 : Int32)), .val (.int (2 : Int32)), .val (.int (1 : Int32)), .val (.ref b133)] [(.int (2 : Int32)), (.int (0 : Int32)), (.ref b133), (.int (1 : Int32)), (.ref t)])
  refine Goes.go (fun _ kS_ => XS.iloadN X133.here X133.ex rfl (hb hby d_jdk_65_method_133_21) rfl (XS.isub X133.here X133.ex rfl (hb hby d_jdk_65_method_133_22) rfl kS_)) ?_
  show Goes _ _ _ _ T133 (mkF m 23 #[.val (.ref t), .val (.int (1 : Int32)), .val (.int (2 : Int32)), .val (.int (1 : Int32)), .val (.ref b133)] [(.int ((2 : Int32) - (1 : Int32))), (.int (0 : Int32)), (.ref b133), (.int (1 : Int32)), (.ref t)])
  refine Goes.cast (congrArg (fun zq_ => (mkF m 23 #[.val (.ref t), .val (.int (1 : Int32)), .val (.int (2 : Int32)), .val (.int (1 : Int32)), .val (.ref b133)] [(.int zq_), (.int (0 : Int32)), (.ref b133), (.int (1 : Int32)), (.ref t)])) (show (((2 : Int32) - (1 : Int32)) : Int32) = (1 : Int32) from by decide)) ?_
  show Goes _ _ _ _ T133 (mkF m 23 #[.val (.ref t), .val (.int (1 : Int32)), .val (.int (2 : Int32)), .val (.int (1 : Int32)), .val (.ref b133)] [(.int (1 : Int32)), (.int (0 : Int32)), (.ref b133), (.int (1 : Int32)), (.ref t)])
  refine Goes.go (fun _ kS_ => XS.iloadN X133.here X133.ex rfl (hb hby d_jdk_65_method_133_23) rfl kS_) ?_
  show Goes _ _ _ _ T133 (mkF m 24 #[.val (.ref t), .val (.int (1 : Int32)), .val (.int (2 : Int32)), .val (.int (1 : Int32)), .val (.ref b133)] [(.int (1 : Int32)), (.int (1 : Int32)), (.int (0 : Int32)), (.ref b133), (.int (1 : Int32)), (.ref t)])
  refine Wk.static (hm' := fun _ => h0) (y := (⟨"java/lang/Math", "min", "(II)I"⟩ : MethodName)) (W := 4) (kc := 0) (ks := 0) (argsL := [(.int (1 : Int32)), (.int (1 : Int32))]) (rest := [(.int (0 : Int32)), (.ref b133), (.int (1 : Int32)), (.ref t)]) (as' := #[(.int (1 : Int32)), (.int (1 : Int32))]) (ws := []) X133 (w_160 hw) (w_87 hw) (w_88 hw) (w_89 hw) (by decide) (CtrN.pays (own_min l Z a0 hw h133 X133.old (1 : Int32)) (w_89 hw) (w_88 hw) (by decide) (by decide)) (fun v h' L q => ⟨q.2, q.1.1⟩) all0 (fun _ => Mark.stay all0) rfl (by rw [hml]; rfl) (lenOf pd_1 rfl) rfl rfl (by show 2 * 0 + _ ≤ _; exact Nat.le_of_eq rfl) (hb hby d_jdk_65_method_133_24) (by decide) (by decide) ?_
  intro T134 h134 v134 L134 X134 q134 K134
  obtain ⟨⟨-, rfl⟩, -⟩ := q134
  replace V_t := V_t.ext K134.oExt
  replace V_b133 := V_b133.ext K134.oExt
  show Goes _ _ _ _ T134 (mkF m 27 #[.val (.ref t), .val (.int (1 : Int32)), .val (.int (2 : Int32)), .val (.int (1 : Int32)), .val (.ref b133)] [(.int (1 : Int32)), (.int (0 : Int32)), (.ref b133), (.int (1 : Int32)), (.ref t)])
  refine Wk.acopy (hm' := fun _ => h0) X134 (w_161 hw) (w_164 hw) (w_162 hw) (w_163 hw) V_t V_b133 ⟨rfl, rfl⟩ (by decide) (by decide) (by decide) (by decide) (by decide) (us := [(.int (d1.toInt8.toInt32))]) rfl (Nat.le_of_ble_eq_true rfl) gz_b133 (fun _ => Mark.stay (allS gm_b133 all0)) rfl (by rw [hml]; rfl) rfl (hb hby d_jdk_65_method_133_27) (by decide) (W := 0) (by show 2 * 0 + _ ≤ _; exact Nat.le_of_eq rfl) (by decide) ?_
  intro T135 h135 X135 K135 V135
  have V_b133 : Arv Z h135 b133 _ .byte (1 : Int32) [(.int (d1.toInt8.toInt32))] (.int (0 : Int32)) := V135
  show Goes _ _ _ _ T135 (mkF m 30 #[.val (.ref t), .val (.int (1 : Int32)), .val (.int (2 : Int32)), .val (.int (1 : Int32)), .val (.ref b133)] [])
  refine Goes.go (fun _ kS_ => XS.aload X135.here X135.ex rfl (hb hby d_jdk_65_method_133_30) rfl rfl kS_) ?_
  show Goes _ _ _ _ T135 (mkF m 32 #[.val (.ref t), .val (.int (1 : Int32)), .val (.int (2 : Int32)), .val (.int (1 : Int32)), .val (.ref b133)] [(.ref b133)])
  refine Goes.outN X135 (fun q => by rw [hret] at q; cases q) hlk (X135.rA hret rfl rfl (hb hby d_jdk_65_method_133_32)) ?_ (by decide) (by decide)
  exact ⟨Ext.oKeepOf X135.ext [], b133, _, rfl, V_b133, gm_b133⟩
set_option maxRecDepth 65536 in
set_option maxHeartbeats 40000000 in
theorem own_cor21 (l : Launch) (Z : State) (a0 : Array Value) (hw : ∀ d ∈ tables_1, d.before a0 Z = true) (h0 : Heap) (hO : Ext Z.heap h0) (t : Addr) (kb : ClassId) (d0 : Int32) (d1 : Int32) (V_t : Arv Z h0 t kb .byte (2 : Int32) [(.int (d0.toInt8.toInt32)), (.int (d1.toInt8.toInt32))] (.int (0 : Int32))) :
    CtrN l Z (⟨"java/util/Arrays", "copyOfRange", "([BII)[B"⟩ : MethodName) jdk_65_method_132_code 3 (some (.array .byte)) ({ frames := 2, cells := 1, slots := 1, locals := 34 } : Room) #[(.ref t), (.int (1 : Int32)), (.int (2 : Int32))] h0 (fun v h' => Keep h0 h' [] ∧ ∃ u ku, v = some (.ref u) ∧ Arv Z h' u ku .byte (1 : Int32) [(.int (d1.toInt8.toInt32))] (.int (0 : Int32)) ∧ h0.size ≤ u) := by
  refine CtrN.of (plainFor_of_name pn_3) hO ?_
  intro p e s m below meth cD_ T0 X0 hsh hby hml hret hlk hnm
  refine Goes.cast (ef_own_cor21 m t) ?_
  show Goes _ _ _ _ T0 (mkF m 0 #[.val (.ref t), .val (.int (1 : Int32)), .val (.int (2 : Int32))] [])
  refine Goes.go (fun _ kS_ => XS.iloadN X0.here X0.ex rfl (hb hby d_jdk_65_method_132_0) rfl (XS.ifYes X0.here X0.ex rfl (pc0 := 1) (pc' := 10) rfl (hb hby d_jdk_65_method_132_1) rfl ((if0 _ _).trans (cd_t (cd := .ne) (x := (1 : Int32)) (y := (0 : Int32)) (by decide))) (by decide) (by decide) (XS.aloadN X0.here X0.ex rfl (hb hby d_jdk_65_method_132_10) rfl rfl (XS.iloadN X0.here X0.ex rfl (hb hby d_jdk_65_method_132_11) rfl (XS.iloadN X0.here X0.ex rfl (hb hby d_jdk_65_method_132_12) rfl kS_))))) ?_
  show Goes _ _ _ _ T0 (mkF m 13 #[.val (.ref t), .val (.int (1 : Int32)), .val (.int (2 : Int32))] [(.int (2 : Int32)), (.int (1 : Int32)), (.ref t)])
  refine Wk.static (hm' := fun _ => h0) (y := (⟨"java/util/Arrays", "copyOfRangeByte", "([BII)[B"⟩ : MethodName)) (W := 0) (kc := 1) (ks := 1) (argsL := [(.ref t), (.int (1 : Int32)), (.int (2 : Int32))]) (rest := []) (as' := #[(.ref t), (.int (1 : Int32)), (.int (2 : Int32))]) (ws := []) X0 (w_154 hw) (w_155 hw) (w_152 hw) (w_156 hw) (by decide) (CtrN.pays (own_crb21 l Z a0 hw h0 X0.old t kb d0 d1 V_t) (w_156 hw) (w_152 hw) (by decide) (by decide)) (fun v h' L q => ⟨q.2, q.1.1⟩) all0 (fun _ => Mark.stay all0) rfl (by rw [hml]; rfl) (lenOf pd_7 rfl) rfl rfl (by show 2 * 0 + _ ≤ _; exact Nat.le_of_eq rfl) (hb hby d_jdk_65_method_132_13) (by decide) (by decide) ?_
  intro T137 h137 v137 L137 X137 q137 K137
  obtain ⟨⟨-, u137, ku137, rfl, U137, gu137⟩, -⟩ := q137
  show Goes _ _ _ _ T137 (mkF m 16 #[.val (.ref t), .val (.int (1 : Int32)), .val (.int (2 : Int32))] [(.ref u137)])
  refine Goes.outN X137 (fun q => by rw [hret] at q; cases q) hlk (X137.rA hret rfl rfl (hb hby d_jdk_65_method_132_16)) ?_ (by decide) (by decide)
  exact ⟨Ext.oKeepOf X137.ext [], u137, ku137, rfl, U137, gu137⟩
set_option maxRecDepth 65536 in
set_option maxHeartbeats 40000000 in
theorem own_nst21 (l : Launch) (Z : State) (a0 : Array Value) (hw : ∀ d ∈ tables_1, d.before a0 Z = true) (hEL : EW Z a0 consts_1) (h0 : Heap) (hO : Ext Z.heap h0) (t : Addr) (kb : ClassId) (d0 : Int32) (d1 : Int32) (V_t : Arv Z h0 t kb .byte (2 : Int32) [(.int (d0.toInt8.toInt32)), (.int (d1.toInt8.toInt32))] (.int (0 : Int32))) (b0 : ¬ d0 < 0 ∧ ¬ (255 : Int32) < d0) (b1 : ¬ d1 < 0 ∧ ¬ (255 : Int32) < d1) :
    CtrS l Z consts_1 (⟨"java/lang/StringLatin1", "newString", "([BII)Ljava/lang/String;"⟩ : MethodName) jdk_43_method_47_code 3 (some (.object "java/lang/String")) ({ frames := 3, cells := 2, slots := 7, locals := 50 } : Room) #[(.ref t), (.int (1 : Int32)), (.int (1 : Int32))] h0 (fun v h' => Keep h0 h' [] ∧ ∃ a, v = some (.ref a) ∧ LStr Z h' a ([d1] : List Int32)) := by
  refine CtrS.of (plainFor_of_name pn_1) hO ?_
  intro p e s m below meth cD_ T0 X0 hsh hby hml hret hlk hnm
  refine Goes.cast (ef_own_nst21 m t) ?_
  show Goes _ _ _ _ T0 (mkF m 0 #[.val (.ref t), .val (.int (1 : Int32)), .val (.int (1 : Int32))] [])
  refine Goes.go (fun _ kS_ => XS.iloadN X0.here X0.ex rfl (hb hby d_jdk_43_method_47_0) rfl (XS.ifYes X0.here X0.ex rfl (pc0 := 1) (pc' := 7) rfl (hb hby d_jdk_43_method_47_1) rfl ((if0 _ _).trans (cd_t (cd := .ne) (x := (1 : Int32)) (y := (0 : Int32)) (by decide))) (by decide) (by decide) kS_)) ?_
  show Goes _ _ _ _ T0 (mkF m 7 #[.val (.ref t), .val (.int (1 : Int32)), .val (.int (1 : Int32))] [])
  refine Wk.new X0 (w_149 hw) (w_11 hw) (w_10 hw) rfl (hb hby d_jdk_43_method_47_7) (by decide) (by decide) ?_
  intro T141 h141 a141 g141 X141 E141 A141 D141
  have gz_a141 : Z.heap.size ≤ a141 := g141 ▸ X0.old.1
  have gm_a141 : h0.size ≤ a141 := g141 ▸ X0.ext.1
  have F_a141_value : Fld Z h141 a141 "java/lang/String" "value" "[B" .null := D141 (Or.inr (w_13 hw)) (ty := (.array .byte)) (by decide)
  have F_a141_coder : Fld Z h141 a141 "java/lang/String" "coder" "B" (.int (0 : Int32)) := D141 (Or.inr (w_14 hw)) (ty := .byte) (by decide)
  clear D141
  show Goes _ _ _ _ T141 (mkF m 10 #[.val (.ref t), .val (.int (1 : Int32)), .val (.int (1 : Int32))] [(.ref a141)])
  refine Goes.go (fun _ kS_ => XS.dup X141.here X141.ex rfl (hb hby d_jdk_43_method_47_10) rfl rfl (XS.aloadN X141.here X141.ex rfl (hb hby d_jdk_43_method_47_11) rfl rfl (XS.iloadN X141.here X141.ex rfl (hb hby d_jdk_43_method_47_12) rfl (XS.iloadN X141.here X141.ex rfl (hb hby d_jdk_43_method_47_13) rfl (XS.iloadN X141.here X141.ex rfl (hb hby d_jdk_43_method_47_14) rfl (XS.iadd X141.here X141.ex rfl (hb hby d_jdk_43_method_47_15) rfl kS_)))))) ?_
  show Goes _ _ _ _ T141 (mkF m 16 #[.val (.ref t), .val (.int (1 : Int32)), .val (.int (1 : Int32))] [(.int ((1 : Int32) + (1 : Int32))), (.int (1 : Int32)), (.ref t), (.ref a141), (.ref a141)])
  refine Goes.cast (congrArg (fun zq_ => (mkF m 16 #[.val (.ref t), .val (.int (1 : Int32)), .val (.int (1 : Int32))] [(.int zq_), (.int (1 : Int32)), (.ref t), (.ref a141), (.ref a141)])) (show (((1 : Int32) + (1 : Int32)) : Int32) = (2 : Int32) from by decide)) ?_
  show Goes _ _ _ _ T141 (mkF m 16 #[.val (.ref t), .val (.int (1 : Int32)), .val (.int (1 : Int32))] [(.int (2 : Int32)), (.int (1 : Int32)), (.ref t), (.ref a141), (.ref a141)])
  refine Wk.static (hm' := fun _ => h0) (y := (⟨"java/util/Arrays", "copyOfRange", "([BII)[B"⟩ : MethodName)) (W := 2) (kc := 1) (ks := 1) (argsL := [(.ref t), (.int (1 : Int32)), (.int (2 : Int32))]) (rest := [(.ref a141), (.ref a141)]) (as' := #[(.ref t), (.int (1 : Int32)), (.int (2 : Int32))]) (ws := []) X141 (w_150 hw) (w_151 hw) (w_152 hw) (w_153 hw) (by decide) (CtrN.pays (own_cor21 l Z a0 hw h141 X141.old t kb d0 d1 (V_t.ext X141.ext)) (w_153 hw) (w_152 hw) (by decide) (by decide)) (fun v h' L q => ⟨q.2, q.1.1⟩) all0 (fun _ => Mark.stay all0) rfl (by rw [hml]; rfl) (lenOf pd_7 rfl) rfl rfl (by show 2 * 0 + _ ≤ _; exact Nat.le_of_eq rfl) (hb hby d_jdk_43_method_47_16) (by decide) (by decide) ?_
  intro T142 h142 v142 L142 X142 q142 K142
  obtain ⟨⟨-, u142, ku142, rfl, U142, gu142⟩, -⟩ := q142
  replace A141 := A141.ext K142.oExt
  replace F_a141_value := F_a141_value.ext K142.oExt
  replace F_a141_coder := F_a141_coder.ext K142.oExt
  show Goes _ _ _ _ T142 (mkF m 19 #[.val (.ref t), .val (.int (1 : Int32)), .val (.int (1 : Int32))] [(.ref u142), (.ref a141), (.ref a141)])
  refine Goes.go (fun _ kS_ => XS.iconst X142.here X142.ex rfl (hb hby d_jdk_43_method_47_19) kS_) ?_
  show Goes _ _ _ _ T142 (mkF m 20 #[.val (.ref t), .val (.int (1 : Int32)), .val (.int (1 : Int32))] [(.int (0 : Int32)), (.ref u142), (.ref a141), (.ref a141)])
  refine Wk.special (hm' := fun _ => h0) (y := (⟨"java/lang/String", "<init>", "([BB)V"⟩ : MethodName)) (W := 1) (kc := 0) (ks := 0) (argsL := [(.ref u142), (.int (0 : Int32))]) (rest := [(.ref a141)]) (as' := #[(.ref a141), (.ref u142), (.int (0 : Int32))]) (ws := [a141]) X142 rfl (w_165 hw) (w_166 hw) (w_167 hw) (by decide) (CtrN.pays (own_newB l Z a0 hw h142 X142.old a141 u142 A141 F_a141_value F_a141_coder gz_a141) (w_167 hw) (w_10 hw) (by decide) (by decide)) (fun v h' L q => ⟨q.2, q.1.1⟩) (allS gz_a141 all0) (fun _ => Mark.stay (allS gm_a141 all0)) rfl (by rw [hml]; rfl) (lenOf pd_8 rfl) rfl rfl (by show 2 * 0 + _ ≤ _; exact Nat.le_of_eq rfl) (hb hby d_jdk_43_method_47_20) (by decide) (by decide) ?_
  intro T143 h143 v143 L143 X143 q143 K143
  obtain ⟨⟨-, rfl, Es143, Vs143, Cs143⟩, -⟩ := q143
  show Goes _ _ _ _ T143 (mkF m 23 #[.val (.ref t), .val (.int (1 : Int32)), .val (.int (1 : Int32))] [(.ref a141)])
  have nt : u142 ∉ [a141] := ninS (Exa.neArv A141 U142 (w_11 hw)).symm nin0
  replace U142 := U142.keep K143 nt
  have hpp : ∀ c ∈ ([d1] : List Int32), ¬ c < 0 ∧ ¬ (255 : Int32) < c := by
      intro c hc
      simp only [List.mem_cons, List.not_mem_nil, or_false] at hc
      rcases hc with rfl
      · exact b1
  refine Goes.outS X143 hEL (fun q => by rw [hret] at q; cases q) hlk (X143.rA hret rfl rfl (hb hby d_jdk_43_method_47_23)) ?_ (by decide) (by decide)
  exact ⟨Ext.oKeepOf X143.ext [], a141, rfl, Es143, Cs143, ⟨_, _, Vs143, U142⟩, hpp, Nat.le_of_ble_eq_true rfl⟩
set_option maxRecDepth 65536 in
set_option maxHeartbeats 40000000 in
theorem own_nst22 (l : Launch) (Z : State) (a0 : Array Value) (hw : ∀ d ∈ tables_1, d.before a0 Z = true) (hEL : EW Z a0 consts_1) (h0 : Heap) (hO : Ext Z.heap h0) (t : Addr) (kb : ClassId) (d0 : Int32) (d1 : Int32) (V_t : Arv Z h0 t kb .byte (2 : Int32) [(.int (d0.toInt8.toInt32)), (.int (d1.toInt8.toInt32))] (.int (0 : Int32))) (b0 : ¬ d0 < 0 ∧ ¬ (255 : Int32) < d0) (b1 : ¬ d1 < 0 ∧ ¬ (255 : Int32) < d1) :
    CtrS l Z consts_1 (⟨"java/lang/StringLatin1", "newString", "([BII)Ljava/lang/String;"⟩ : MethodName) jdk_43_method_47_code 3 (some (.object "java/lang/String")) ({ frames := 3, cells := 2, slots := 7, locals := 50 } : Room) #[(.ref t), (.int (2 : Int32)), (.int (0 : Int32))] h0 (fun v h' => Keep h0 h' [] ∧ ∃ a, v = some (.ref a) ∧ LStr Z h' a ([] : List Int32)) := by
  refine CtrS.of (plainFor_of_name pn_1) hO ?_
  intro p e s m below meth cD_ T0 X0 hsh hby hml hret hlk hnm
  refine Goes.cast (ef_own_nst22 m t) ?_
  show Goes _ _ _ _ T0 (mkF m 0 #[.val (.ref t), .val (.int (2 : Int32)), .val (.int (0 : Int32))] [])
  refine Goes.go (fun _ kS_ => XS.iloadN X0.here X0.ex rfl (hb hby d_jdk_43_method_47_0) rfl (XS.ifNo X0.here X0.ex rfl (hb hby d_jdk_43_method_47_1) rfl ((if0 _ _).trans (cd_f (cd := .ne) (x := (0 : Int32)) (y := (0 : Int32)) (by decide))) kS_)) ?_
  show Goes _ _ _ _ T0 (mkF m 4 #[.val (.ref t), .val (.int (2 : Int32)), .val (.int (0 : Int32))] [])
  refine Wk.ldcR X0 (w_134 hw) (own_wS hw) hEL (by decide) (vs := []) (z := 0) ⟨by decide, rfl⟩ (by decide) rfl rfl (hb hby d_jdk_43_method_47_4) (n := 0) (by decide) (by decide) (by decide) (by decide) ?_
  intro T145 h145 a145 b145 k145 X145 E145 Ea145 Ca145 Va145 Ab145
  have S_a145 : LStr Z h145 a145 ([] : List Int32) := ⟨Ea145, Ca145, ⟨_, _, Va145, Ab145⟩, (fun _ q => nomatch q), Nat.le_of_ble_eq_true rfl⟩
  show Goes _ _ _ _ T145 (mkF m 6 #[.val (.ref t), .val (.int (2 : Int32)), .val (.int (0 : Int32))] [(.ref a145)])
  refine Goes.outS X145 hEL (fun q => by rw [hret] at q; cases q) hlk (X145.rA hret rfl rfl (hb hby d_jdk_43_method_47_6)) ?_ (by decide) (by decide)
  exact ⟨Ext.oKeepOf E145 [], a145, rfl, S_a145⟩
set_option maxRecDepth 65536 in
set_option maxHeartbeats 40000000 in
theorem own_nst11 (l : Launch) (Z : State) (a0 : Array Value) (hw : ∀ d ∈ tables_1, d.before a0 Z = true) (hEL : EW Z a0 consts_1) (h0 : Heap) (hO : Ext Z.heap h0) (t : Addr) (kb : ClassId) (d0 : Int32) (V_t : Arv Z h0 t kb .byte (1 : Int32) [(.int (d0.toInt8.toInt32))] (.int (0 : Int32))) (b0 : ¬ d0 < 0 ∧ ¬ (255 : Int32) < d0) :
    CtrS l Z consts_1 (⟨"java/lang/StringLatin1", "newString", "([BII)Ljava/lang/String;"⟩ : MethodName) jdk_43_method_47_code 3 (some (.object "java/lang/String")) ({ frames := 3, cells := 2, slots := 7, locals := 50 } : Room) #[(.ref t), (.int (1 : Int32)), (.int (0 : Int32))] h0 (fun v h' => Keep h0 h' [] ∧ ∃ a, v = some (.ref a) ∧ LStr Z h' a ([] : List Int32)) := by
  refine CtrS.of (plainFor_of_name pn_1) hO ?_
  intro p e s m below meth cD_ T0 X0 hsh hby hml hret hlk hnm
  refine Goes.cast (ef_own_nst11 m t) ?_
  show Goes _ _ _ _ T0 (mkF m 0 #[.val (.ref t), .val (.int (1 : Int32)), .val (.int (0 : Int32))] [])
  refine Goes.go (fun _ kS_ => XS.iloadN X0.here X0.ex rfl (hb hby d_jdk_43_method_47_0) rfl (XS.ifNo X0.here X0.ex rfl (hb hby d_jdk_43_method_47_1) rfl ((if0 _ _).trans (cd_f (cd := .ne) (x := (0 : Int32)) (y := (0 : Int32)) (by decide))) kS_)) ?_
  show Goes _ _ _ _ T0 (mkF m 4 #[.val (.ref t), .val (.int (1 : Int32)), .val (.int (0 : Int32))] [])
  refine Wk.ldcR X0 (w_134 hw) (own_wS hw) hEL (by decide) (vs := []) (z := 0) ⟨by decide, rfl⟩ (by decide) rfl rfl (hb hby d_jdk_43_method_47_4) (n := 0) (by decide) (by decide) (by decide) (by decide) ?_
  intro T147 h147 a147 b147 k147 X147 E147 Ea147 Ca147 Va147 Ab147
  have S_a147 : LStr Z h147 a147 ([] : List Int32) := ⟨Ea147, Ca147, ⟨_, _, Va147, Ab147⟩, (fun _ q => nomatch q), Nat.le_of_ble_eq_true rfl⟩
  show Goes _ _ _ _ T147 (mkF m 6 #[.val (.ref t), .val (.int (1 : Int32)), .val (.int (0 : Int32))] [(.ref a147)])
  refine Goes.outS X147 hEL (fun q => by rw [hret] at q; cases q) hlk (X147.rA hret rfl rfl (hb hby d_jdk_43_method_47_6)) ?_ (by decide) (by decide)
  exact ⟨Ext.oKeepOf E147 [], a147, rfl, S_a147⟩
theorem own_nst (l : Launch) (Z : State) (a0 : Array Value) (hw : ∀ d ∈ tables_1, d.before a0 Z = true) (hEL : EW Z a0 consts_1) (h0 : Heap) (hO : Ext Z.heap h0) (t : Addr) (kb : ClassId) (cs : List Int32) (sN : Nat) (s0 : Int32) (m0 : Int32) (hs0 : s0 = Int32.ofNat sN) (hm0 : m0 = (Int32.ofNat cs.length) - Int32.ofNat sN) (hs : 0 < sN) (hs1 : sN ≤ cs.length) (V_t : Arv Z h0 t kb .byte (Int32.ofNat cs.length) ((cs.map fun c => c.toInt8.toInt32).map Value.int) (.int (0 : Int32))) (hp : ∀ c ∈ cs, ¬ c < 0 ∧ ¬ (255 : Int32) < c) (h4 : cs.length ≤ 4) :
    CtrS l Z consts_1 (⟨"java/lang/StringLatin1", "newString", "([BII)Ljava/lang/String;"⟩ : MethodName) jdk_43_method_47_code 3 (some (.object "java/lang/String")) ({ frames := 3, cells := 2, slots := 7, locals := 50 } : Room) #[(.ref t), (.int s0), (.int m0)] h0 (fun v h' => Keep h0 h' [] ∧ ∃ a, v = some (.ref a) ∧ LStr Z h' a (cs.drop sN)) := by
  subst hs0
  match cs, sN, h4, hs, hs1, hp, V_t, hm0 with
  | [d0], 1, _, _, _, hp, V_t, hm0 =>
    obtain rfl : m0 = (0 : Int32) := hm0.trans (by simp only [List.length_cons, List.length_nil]; decide)
    exact own_nst11 l Z a0 hw hEL h0 hO t kb d0 V_t (hp d0 (by simp))
  | [d0, d1], 1, _, _, _, hp, V_t, hm0 =>
    obtain rfl : m0 = (1 : Int32) := hm0.trans (by simp only [List.length_cons, List.length_nil]; decide)
    exact own_nst21 l Z a0 hw hEL h0 hO t kb d0 d1 V_t (hp d0 (by simp)) (hp d1 (by simp))
  | [d0, d1], 2, _, _, _, hp, V_t, hm0 =>
    obtain rfl : m0 = (0 : Int32) := hm0.trans (by simp only [List.length_cons, List.length_nil]; decide)
    exact own_nst22 l Z a0 hw hEL h0 hO t kb d0 d1 V_t (hp d0 (by simp)) (hp d1 (by simp))
  | [d0, d1, d2], 1, _, _, _, hp, V_t, hm0 =>
    obtain rfl : m0 = (2 : Int32) := hm0.trans (by simp only [List.length_cons, List.length_nil]; decide)
    exact own_nst31 l Z a0 hw hEL h0 hO t kb d0 d1 d2 V_t (hp d0 (by simp)) (hp d1 (by simp)) (hp d2 (by simp))
  | [d0, d1, d2], 2, _, _, _, hp, V_t, hm0 =>
    obtain rfl : m0 = (1 : Int32) := hm0.trans (by simp only [List.length_cons, List.length_nil]; decide)
    exact own_nst32 l Z a0 hw hEL h0 hO t kb d0 d1 d2 V_t (hp d0 (by simp)) (hp d1 (by simp)) (hp d2 (by simp))
  | [d0, d1, d2], 3, _, _, _, hp, V_t, hm0 =>
    obtain rfl : m0 = (0 : Int32) := hm0.trans (by simp only [List.length_cons, List.length_nil]; decide)
    exact own_nst33 l Z a0 hw hEL h0 hO t kb d0 d1 d2 V_t (hp d0 (by simp)) (hp d1 (by simp)) (hp d2 (by simp))
  | [d0, d1, d2, d3], 1, _, _, _, hp, V_t, hm0 =>
    obtain rfl : m0 = (3 : Int32) := hm0.trans (by simp only [List.length_cons, List.length_nil]; decide)
    exact own_nst41 l Z a0 hw hEL h0 hO t kb d0 d1 d2 d3 V_t (hp d0 (by simp)) (hp d1 (by simp)) (hp d2 (by simp)) (hp d3 (by simp))
  | [d0, d1, d2, d3], 2, _, _, _, hp, V_t, hm0 =>
    obtain rfl : m0 = (2 : Int32) := hm0.trans (by simp only [List.length_cons, List.length_nil]; decide)
    exact own_nst42 l Z a0 hw hEL h0 hO t kb d0 d1 d2 d3 V_t (hp d0 (by simp)) (hp d1 (by simp)) (hp d2 (by simp)) (hp d3 (by simp))
  | [d0, d1, d2, d3], 3, _, _, _, hp, V_t, hm0 =>
    obtain rfl : m0 = (1 : Int32) := hm0.trans (by simp only [List.length_cons, List.length_nil]; decide)
    exact own_nst43 l Z a0 hw hEL h0 hO t kb d0 d1 d2 d3 V_t (hp d0 (by simp)) (hp d1 (by simp)) (hp d2 (by simp)) (hp d3 (by simp))
  | [d0, d1, d2, d3], 4, _, _, _, hp, V_t, hm0 =>
    obtain rfl : m0 = (0 : Int32) := hm0.trans (by simp only [List.length_cons, List.length_nil]; decide)
    exact own_nst44 l Z a0 hw hEL h0 hO t kb d0 d1 d2 d3 V_t (hp d0 (by simp)) (hp d1 (by simp)) (hp d2 (by simp)) (hp d3 (by simp))
  | _, 0, _, h, _, _, _, _ => exact absurd h (by omega)
  | [], sN + 1, _, _, h, _, _, _ => exact absurd h (by simp only [List.length_cons, List.length_nil]; omega)
  | [_], sN + 2, _, _, h, _, _, _ => exact absurd h (by simp only [List.length_cons, List.length_nil]; omega)
  | [_, _], sN + 3, _, _, h, _, _, _ => exact absurd h (by simp only [List.length_cons, List.length_nil]; omega)
  | [_, _, _], sN + 4, _, _, h, _, _, _ => exact absurd h (by simp only [List.length_cons, List.length_nil]; omega)
  | [_, _, _, _], sN + 5, _, _, h, _, _, _ => exact absurd h (by simp only [List.length_cons, List.length_nil]; omega)
  | _ :: _ :: _ :: _ :: _ :: _, _, h, _, _, _, _, _ => exact absurd h (by simp only [List.length_cons, List.length_nil]; omega)
set_option maxRecDepth 65536 in
set_option maxHeartbeats 40000000 in
theorem own_sbB (l : Launch) (Z : State) (a0 : Array Value) (hw : ∀ d ∈ tables_1, d.before a0 Z = true) (hEL : EW Z a0 consts_1) (h0 : Heap) (hO : Ext Z.heap h0) (x : Addr) (G1 : Int32) (G3 : Value) (cs : List Int32) (sN : Nat) (s0 : Int32) (n0 : Int32) (O2 : Sta Z Z.heap "java/lang/String" "COMPACT_STRINGS" "Z" (.int G1)) (P5 : ¬ (G1 = (0 : Int32))) (O4 : Sta Z Z.heap "jdk/internal/util/Preconditions" "SIOOBE_FORMATTER" "Ljava/util/function/BiFunction;" G3) (r_G3 : G3.isRef = true) (S_x : LStr Z h0 x cs) (h4 : cs.length ≤ 4) (hs1 : sN ≤ cs.length) (hs0 : s0 = Int32.ofNat sN) (hn0 : n0 = (Int32.ofNat cs.length)) :
    CtrS l Z consts_1 (⟨"java/lang/String", "substring", "(II)Ljava/lang/String;"⟩ : MethodName) jdk_42_method_92_code 5 (some (.object "java/lang/String")) ({ frames := 4, cells := 2, slots := 7, locals := 64 } : Room) #[(.ref x), (.int s0), (.int n0)] h0 (fun v h' => Keep h0 h' [] ∧ ∃ a, v = some (.ref a) ∧ LStr Z h' a (cs.drop sN)) := by
  refine CtrS.of (plainFor_of_name pn_0) hO ?_
  intro p e s m below meth cD_ T0 X0 hsh hby hml hret hlk hnm
  refine Goes.cast (ef_own_sbB m x s0 n0) ?_
  show Goes _ _ _ _ T0 (mkF m 0 #[.val (.ref x), .val (.int s0), .val (.int n0), .unset, .unset] [])
  subst hs0 hn0
  show Goes _ _ _ _ T0 (mkF m 0 #[.val (.ref x), .val (.int (Int32.ofNat sN)), .val (.int (Int32.ofNat cs.length)), .unset, .unset] [])
  obtain ⟨Es154, Cs154, ⟨t154, kb154, Vs154, Ks154⟩, hp154, hl154⟩ := id S_x
  have KK : Keep h0 h0 [] := Keep.refl _ _
  refine Goes.go (fun _ kS_ => XS.aloadN X0.here X0.ex rfl (hb hby d_jdk_42_method_92_0) rfl rfl kS_) ?_
  show Goes _ _ _ _ T0 (mkF m 1 #[.val (.ref x), .val (.int (Int32.ofNat sN)), .val (.int (Int32.ofNat cs.length)), .unset, .unset] [(.ref x)])
  refine Wk.virtual (hm' := fun _ => h0) (C := "java/lang/String") (y := (⟨"java/lang/String", "length", "()I"⟩ : MethodName)) (z := (⟨"java/lang/String", "length", "()I"⟩ : MethodName)) (W := 0) (kc := 0) (ks := 0) (argsL := []) (rest := []) (as' := #[(.ref x)]) (ws := []) X0 (w_56 hw) (w_57 hw) (w_59 hw) (w_58 hw) (by decide) S_x.1 (nf_sel (w_59 hw)) (own_lenP (own_wsLen hw) (kI := 4) (w_11 hw) S_x O2 P5 X0.old (by decide) (by decide)) (fun v h' L q => ⟨by rw [q.2.1]; exact Fr.nil _, by rw [q.2.2]; exact Keep.refl _ _⟩) all0 (fun _ => Mark.stay all0) rfl (by rw [hml]; rfl) (lenOf pd_4 rfl) rfl rfl (by show 2 * 0 + _ ≤ _; exact Nat.le_of_eq rfl) (hb hby d_jdk_42_method_92_1) (by decide) (by decide) ?_
  intro T155 h155 v155 L155 X155 q155 K155
  obtain ⟨rfl, -, -⟩ := q155
  replace S_x := S_x.ext K155.oExt
  replace Es154 := Es154.ext K155.oExt
  replace Cs154 := Cs154.ext K155.oExt
  replace Vs154 := Vs154.ext K155.oExt
  replace Ks154 := Ks154.ext K155.oExt
  replace KK := KK.ext K155.oExt
  show Goes _ _ _ _ T155 (mkF m 4 #[.val (.ref x), .val (.int (Int32.ofNat sN)), .val (.int (Int32.ofNat cs.length)), .unset, .unset] [(.int (Int32.ofNat cs.length))])
  refine Goes.go (fun _ kS_ => XS.istoreN X155.here X155.ex rfl (hb hby d_jdk_42_method_92_4) rfl (l' := #[.val (.ref x), .val (.int (Int32.ofNat sN)), .val (.int (Int32.ofNat cs.length)), .val (.int (Int32.ofNat cs.length)), .unset]) rfl (XS.iloadN X155.here X155.ex rfl (hb hby d_jdk_42_method_92_5) rfl (XS.iloadN X155.here X155.ex rfl (hb hby d_jdk_42_method_92_6) rfl (XS.iloadN X155.here X155.ex rfl (hb hby d_jdk_42_method_92_7) rfl kS_)))) ?_
  show Goes _ _ _ _ T155 (mkF m 8 #[.val (.ref x), .val (.int (Int32.ofNat sN)), .val (.int (Int32.ofNat cs.length)), .val (.int (Int32.ofNat cs.length)), .unset] [(.int (Int32.ofNat cs.length)), (.int (Int32.ofNat cs.length)), (.int (Int32.ofNat sN))])
  refine Wk.static (hm' := fun _ => h0) (y := (⟨"java/lang/String", "checkBoundsBeginEnd", "(III)V"⟩ : MethodName)) (W := 0) (kc := 0) (ks := 0) (argsL := [(.int (Int32.ofNat sN)), (.int (Int32.ofNat cs.length)), (.int (Int32.ofNat cs.length))]) (rest := []) (as' := #[(.int (Int32.ofNat sN)), (.int (Int32.ofNat cs.length)), (.int (Int32.ofNat cs.length))]) (ws := []) X155 (w_100 hw) (w_101 hw) (w_10 hw) (w_102 hw) (by decide) (CtrN.pays (own_cbe l Z a0 hw h155 X155.old (Int32.ofNat sN) (Int32.ofNat cs.length) G3 O4 r_G3 (own_f1 (Nat.le_trans hs1 h4)) (own_f2 hs1 h4)) (w_102 hw) (w_10 hw) (by decide) (by decide)) (fun v h' L q => ⟨q.2, q.1.1⟩) all0 (fun _ => Mark.stay all0) rfl (by rw [hml]; rfl) (lenOf pd_9 rfl) rfl rfl (by show 2 * 0 + _ ≤ _; exact Nat.le_of_eq rfl) (hb hby d_jdk_42_method_92_8) (by decide) (by decide) ?_
  intro T156 h156 v156 L156 X156 q156 K156
  obtain ⟨⟨-, rfl⟩, -⟩ := q156
  replace S_x := S_x.ext K156.oExt
  replace Es154 := Es154.ext K156.oExt
  replace Cs154 := Cs154.ext K156.oExt
  replace Vs154 := Vs154.ext K156.oExt
  replace Ks154 := Ks154.ext K156.oExt
  replace KK := KK.ext K156.oExt
  show Goes _ _ _ _ T156 (mkF m 11 #[.val (.ref x), .val (.int (Int32.ofNat sN)), .val (.int (Int32.ofNat cs.length)), .val (.int (Int32.ofNat cs.length)), .unset] [])
  refine Goes.go (fun _ kS_ => XS.iloadN X156.here X156.ex rfl (hb hby d_jdk_42_method_92_11) rfl kS_) ?_
  show Goes _ _ _ _ T156 (mkF m 12 #[.val (.ref x), .val (.int (Int32.ofNat sN)), .val (.int (Int32.ofNat cs.length)), .val (.int (Int32.ofNat cs.length)), .unset] [(.int (Int32.ofNat sN))])
  refine Goes.ifc (pc' := 22) X156.here X156.ex (hb hby d_jdk_42_method_92_12) (by decide) (by decide) (fun hc12 => ?_) (fun hc12 => ?_)
  · have hc12 : ¬ ((Int32.ofNat sN) = (0 : Int32)) := hc12
    show Goes _ _ _ _ T156 (mkF m 22 #[.val (.ref x), .val (.int (Int32.ofNat sN)), .val (.int (Int32.ofNat cs.length)), .val (.int (Int32.ofNat cs.length)), .unset] [])
    refine Goes.go (fun _ kS_ => XS.iloadN X156.here X156.ex rfl (hb hby d_jdk_42_method_92_22) rfl (XS.iloadN X156.here X156.ex rfl (hb hby d_jdk_42_method_92_23) rfl (XS.isub X156.here X156.ex rfl (hb hby d_jdk_42_method_92_24) rfl (XS.istore X156.here X156.ex rfl (hb hby d_jdk_42_method_92_25) rfl (l' := #[.val (.ref x), .val (.int (Int32.ofNat sN)), .val (.int (Int32.ofNat cs.length)), .val (.int (Int32.ofNat cs.length)), .val (.int ((Int32.ofNat cs.length) - (Int32.ofNat sN)))]) rfl (XS.aloadN X156.here X156.ex rfl (hb hby d_jdk_42_method_92_27) rfl rfl kS_))))) ?_
    show Goes _ _ _ _ T156 (mkF m 28 #[.val (.ref x), .val (.int (Int32.ofNat sN)), .val (.int (Int32.ofNat cs.length)), .val (.int (Int32.ofNat cs.length)), .val (.int ((Int32.ofNat cs.length) - (Int32.ofNat sN)))] [(.ref x)])
    refine Wk.virtual (hm' := fun _ => h0) (C := "java/lang/String") (y := (⟨"java/lang/String", "isLatin1", "()Z"⟩ : MethodName)) (z := (⟨"java/lang/String", "isLatin1", "()Z"⟩ : MethodName)) (W := 0) (kc := 0) (ks := 0) (argsL := []) (rest := []) (as' := #[(.ref x)]) (ws := []) X156 (w_74 hw) (w_75 hw) (w_77 hw) (w_76 hw) (by decide) Es154 (nf_sel (w_77 hw)) (CtrN.pays (own_isL1 l Z a0 hw h156 X156.old x G1 O2 P5 Cs154) (w_78 hw) (w_10 hw) (by decide) (by decide)) (fun v h' L q => ⟨q.2, q.1.1⟩) all0 (fun _ => Mark.stay all0) rfl (by rw [hml]; rfl) (lenOf pd_2 rfl) rfl rfl (by show 2 * 0 + _ ≤ _; exact Nat.le_of_eq rfl) (hb hby d_jdk_42_method_92_28) (by decide) (by decide) ?_
    intro T157 h157 v157 L157 X157 q157 K157
    obtain ⟨⟨-, rfl⟩, -⟩ := q157
    replace S_x := S_x.ext K157.oExt
    replace Es154 := Es154.ext K157.oExt
    replace Cs154 := Cs154.ext K157.oExt
    replace Vs154 := Vs154.ext K157.oExt
    replace Ks154 := Ks154.ext K157.oExt
    replace KK := KK.ext K157.oExt
    show Goes _ _ _ _ T157 (mkF m 31 #[.val (.ref x), .val (.int (Int32.ofNat sN)), .val (.int (Int32.ofNat cs.length)), .val (.int (Int32.ofNat cs.length)), .val (.int ((Int32.ofNat cs.length) - (Int32.ofNat sN)))] [(.int (1 : Int32))])
    refine Goes.go (fun _ kS_ => XS.ifNo X157.here X157.ex rfl (hb hby d_jdk_42_method_92_31) rfl ((if0 _ _).trans (cd_f (cd := .eq) (x := (1 : Int32)) (y := (0 : Int32)) (by decide))) (XS.aloadN X157.here X157.ex rfl (hb hby d_jdk_42_method_92_34) rfl rfl kS_)) ?_
    show Goes _ _ _ _ T157 (mkF m 35 #[.val (.ref x), .val (.int (Int32.ofNat sN)), .val (.int (Int32.ofNat cs.length)), .val (.int (Int32.ofNat cs.length)), .val (.int ((Int32.ofNat cs.length) - (Int32.ofNat sN)))] [(.ref x)])
    refine Wk.getF X157 (host := "") (Or.inl (w_61 hw)) Via.refl Vs154 rfl rfl (hb hby d_jdk_42_method_92_35) ?_
    intro T158 X158
    show Goes _ _ _ _ T158 (mkF m 38 #[.val (.ref x), .val (.int (Int32.ofNat sN)), .val (.int (Int32.ofNat cs.length)), .val (.int (Int32.ofNat cs.length)), .val (.int ((Int32.ofNat cs.length) - (Int32.ofNat sN)))] [(.ref t154)])
    refine Goes.go (fun _ kS_ => XS.iloadN X158.here X158.ex rfl (hb hby d_jdk_42_method_92_38) rfl (XS.iload X158.here X158.ex rfl (hb hby d_jdk_42_method_92_39) rfl kS_)) ?_
    show Goes _ _ _ _ T158 (mkF m 41 #[.val (.ref x), .val (.int (Int32.ofNat sN)), .val (.int (Int32.ofNat cs.length)), .val (.int (Int32.ofNat cs.length)), .val (.int ((Int32.ofNat cs.length) - (Int32.ofNat sN)))] [(.int ((Int32.ofNat cs.length) - (Int32.ofNat sN))), (.int (Int32.ofNat sN)), (.ref t154)])
    refine Wk.staticS (y := (⟨"java/lang/StringLatin1", "newString", "([BII)Ljava/lang/String;"⟩ : MethodName)) (W := 0) (kc := 2) (ks := 7) (argsL := [(.ref t154), (.int (Int32.ofNat sN)), (.int ((Int32.ofNat cs.length) - (Int32.ofNat sN)))]) (rest := []) (as' := #[(.ref t154), (.int (Int32.ofNat sN)), (.int ((Int32.ofNat cs.length) - (Int32.ofNat sN)))]) (ws := []) X158 (w_131 hw) (w_132 hw) (w_81 hw) (w_133 hw) (by decide) (CtrS.pays (own_nst l Z a0 hw hEL h157 X158.old t154 kb154 cs sN (Int32.ofNat sN) ((Int32.ofNat cs.length) - (Int32.ofNat sN)) rfl rfl (Nat.pos_of_ne_zero fun q => hc12 (by rw [q]; rfl)) hs1 Ks154 hp154 h4) (w_133 hw) (w_81 hw) (by decide) (by decide) hEL) (fun v h' L q => ⟨q.2, q.1.1⟩) all0 rfl (by rw [hml]; rfl) (lenOf pd_10 rfl) rfl rfl (by show 2 * 0 + _ ≤ _; exact Nat.le_of_eq rfl) (hb hby d_jdk_42_method_92_41) (by decide) (by decide) ?_
    intro T159 h159 v159 L159 X159 q159 K159
    obtain ⟨⟨-, a159, rfl, Sa159⟩, -⟩ := q159
    replace S_x := S_x.ext K159.oExt
    replace Es154 := Es154.ext K159.oExt
    replace Cs154 := Cs154.ext K159.oExt
    replace Vs154 := Vs154.ext K159.oExt
    replace Ks154 := Ks154.ext K159.oExt
    replace KK := KK.ext K159.oExt
    show Goes _ _ _ _ T159 (mkF m 44 #[.val (.ref x), .val (.int (Int32.ofNat sN)), .val (.int (Int32.ofNat cs.length)), .val (.int (Int32.ofNat cs.length)), .val (.int ((Int32.ofNat cs.length) - (Int32.ofNat sN)))] [(.ref a159)])
    refine Goes.go (fun _ kS_ => XS.goto X159.here X159.ex rfl (pc0 := 44) (pc' := 57) rfl (hb hby d_jdk_42_method_92_44) (by decide) (by decide) kS_) ?_
    show Goes _ _ _ _ T159 (mkF m 57 #[.val (.ref x), .val (.int (Int32.ofNat sN)), .val (.int (Int32.ofNat cs.length)), .val (.int (Int32.ofNat cs.length)), .val (.int ((Int32.ofNat cs.length) - (Int32.ofNat sN)))] [(.ref a159)])
    refine Goes.outS X159 hEL (fun q => by rw [hret] at q; cases q) hlk (X159.rA hret rfl rfl (hb hby d_jdk_42_method_92_57)) ?_ (by decide) (by decide)
    exact ⟨KK, a159, rfl, Sa159⟩
  · have hc12 : (Int32.ofNat sN) = (0 : Int32) := Classical.not_not.mp hc12
    show Goes _ _ _ _ T156 (mkF m 15 #[.val (.ref x), .val (.int (Int32.ofNat sN)), .val (.int (Int32.ofNat cs.length)), .val (.int (Int32.ofNat cs.length)), .unset] [])
    refine Goes.go (fun _ kS_ => XS.iloadN X156.here X156.ex rfl (hb hby d_jdk_42_method_92_15) rfl (XS.iloadN X156.here X156.ex rfl (hb hby d_jdk_42_method_92_16) rfl kS_)) ?_
    show Goes _ _ _ _ T156 (mkF m 17 #[.val (.ref x), .val (.int (Int32.ofNat sN)), .val (.int (Int32.ofNat cs.length)), .val (.int (Int32.ofNat cs.length)), .unset] [(.int (Int32.ofNat cs.length)), (.int (Int32.ofNat cs.length))])
    refine Goes.go (fun _ kS_ => XS.icmpNo X156.here X156.ex rfl (hb hby d_jdk_42_method_92_17) rfl (cd_f (cd := .ne) (x := (Int32.ofNat cs.length)) (y := (Int32.ofNat cs.length)) ((fun q => absurd (rfl) q))) kS_) ?_
    show Goes _ _ _ _ T156 (mkF m 20 #[.val (.ref x), .val (.int (Int32.ofNat sN)), .val (.int (Int32.ofNat cs.length)), .val (.int (Int32.ofNat cs.length)), .unset] [])
    refine Goes.go (fun _ kS_ => XS.aloadN X156.here X156.ex rfl (hb hby d_jdk_42_method_92_20) rfl rfl kS_) ?_
    show Goes _ _ _ _ T156 (mkF m 21 #[.val (.ref x), .val (.int (Int32.ofNat sN)), .val (.int (Int32.ofNat cs.length)), .val (.int (Int32.ofNat cs.length)), .unset] [(.ref x)])
    obtain rfl := own_f3 (Nat.le_trans hs1 h4) hc12
    refine Goes.outS X156 hEL (fun q => by rw [hret] at q; cases q) hlk (X156.rA hret rfl rfl (hb hby d_jdk_42_method_92_21)) ?_ (by decide) (by decide)
    exact ⟨KK, x, rfl, S_x⟩
set_option maxRecDepth 65536 in
set_option maxHeartbeats 40000000 in
theorem own_sb (l : Launch) (Z : State) (a0 : Array Value) (hw : ∀ d ∈ tables_1, d.before a0 Z = true) (hEL : EW Z a0 consts_1) (h0 : Heap) (hO : Ext Z.heap h0) (x : Addr) (G1 : Int32) (G3 : Value) (cs : List Int32) (sN : Nat) (s0 : Int32) (O2 : Sta Z Z.heap "java/lang/String" "COMPACT_STRINGS" "Z" (.int G1)) (P5 : ¬ (G1 = (0 : Int32))) (O4 : Sta Z Z.heap "jdk/internal/util/Preconditions" "SIOOBE_FORMATTER" "Ljava/util/function/BiFunction;" G3) (r_G3 : G3.isRef = true) (S_x : LStr Z h0 x cs) (h4 : cs.length ≤ 4) (hs1 : sN ≤ cs.length) (hs0 : s0 = Int32.ofNat sN) :
    CtrS l Z consts_1 (⟨"java/lang/String", "substring", "(I)Ljava/lang/String;"⟩ : MethodName) jdk_42_method_91_code 2 (some (.object "java/lang/String")) ({ frames := 5, cells := 2, slots := 7, locals := 80 } : Room) #[(.ref x), (.int s0)] h0 (fun v h' => Keep h0 h' [] ∧ ∃ a, v = some (.ref a) ∧ LStr Z h' a (cs.drop sN)) := by
  refine CtrS.of (plainFor_of_name pn_0) hO ?_
  intro p e s m below meth cD_ T0 X0 hsh hby hml hret hlk hnm
  refine Goes.cast (ef_own_sb m x s0) ?_
  show Goes _ _ _ _ T0 (mkF m 0 #[.val (.ref x), .val (.int s0)] [])
  have KK : Keep h0 h0 [] := Keep.refl _ _
  refine Goes.go (fun _ kS_ => XS.aloadN X0.here X0.ex rfl (hb hby d_jdk_42_method_91_0) rfl rfl (XS.iloadN X0.here X0.ex rfl (hb hby d_jdk_42_method_91_1) rfl (XS.aloadN X0.here X0.ex rfl (hb hby d_jdk_42_method_91_2) rfl rfl kS_))) ?_
  show Goes _ _ _ _ T0 (mkF m 3 #[.val (.ref x), .val (.int s0)] [(.ref x), (.int s0), (.ref x)])
  refine Wk.virtual (hm' := fun _ => h0) (C := "java/lang/String") (y := (⟨"java/lang/String", "length", "()I"⟩ : MethodName)) (z := (⟨"java/lang/String", "length", "()I"⟩ : MethodName)) (W := 2) (kc := 0) (ks := 0) (argsL := []) (rest := [(.int s0), (.ref x)]) (as' := #[(.ref x)]) (ws := []) X0 (w_56 hw) (w_57 hw) (w_59 hw) (w_58 hw) (by decide) S_x.1 (nf_sel (w_59 hw)) (own_lenP (own_wsLen hw) (kI := 4) (w_11 hw) S_x O2 P5 X0.old (by decide) (by decide)) (fun v h' L q => ⟨by rw [q.2.1]; exact Fr.nil _, by rw [q.2.2]; exact Keep.refl _ _⟩) all0 (fun _ => Mark.stay all0) rfl (by rw [hml]; rfl) (lenOf pd_4 rfl) rfl rfl (by show 2 * 0 + _ ≤ _; exact Nat.le_of_eq rfl) (hb hby d_jdk_42_method_91_3) (by decide) (by decide) ?_
  intro T162 h162 v162 L162 X162 q162 K162
  obtain ⟨rfl, -, -⟩ := q162
  replace S_x := S_x.ext K162.oExt
  replace KK := KK.ext K162.oExt
  show Goes _ _ _ _ T162 (mkF m 6 #[.val (.ref x), .val (.int s0)] [(.int (Int32.ofNat cs.length)), (.int s0), (.ref x)])
  refine Wk.virtualS (C := "java/lang/String") (y := (⟨"java/lang/String", "substring", "(II)Ljava/lang/String;"⟩ : MethodName)) (z := (⟨"java/lang/String", "substring", "(II)Ljava/lang/String;"⟩ : MethodName)) (W := 0) (kc := 2) (ks := 7) (argsL := [(.int s0), (.int (Int32.ofNat cs.length))]) (rest := []) (as' := #[(.ref x), (.int s0), (.int (Int32.ofNat cs.length))]) (ws := []) X162 (w_95 hw) (w_96 hw) (w_98 hw) (w_97 hw) (by decide) S_x.1 (nf_sel (w_98 hw)) (CtrS.pays (own_sbB l Z a0 hw hEL h162 X162.old x G1 G3 cs sN s0 (Int32.ofNat cs.length) O2 P5 O4 r_G3 S_x h4 hs1 hs0 rfl) (w_99 hw) (w_10 hw) (by decide) (by decide) hEL) (fun v h' L q => ⟨q.2, q.1.1⟩) all0 rfl (by rw [hml]; rfl) (lenOf pd_11 rfl) rfl rfl (by show 2 * 0 + _ ≤ _; exact Nat.le_of_eq rfl) (hb hby d_jdk_42_method_91_6) (by decide) (by decide) ?_
  intro T163 h163 v163 L163 X163 q163 K163
  obtain ⟨⟨-, a163, rfl, Sa163⟩, -⟩ := q163
  replace S_x := S_x.ext K163.oExt
  replace KK := KK.ext K163.oExt
  show Goes _ _ _ _ T163 (mkF m 9 #[.val (.ref x), .val (.int s0)] [(.ref a163)])
  refine Goes.outS X163 hEL (fun q => by rw [hret] at q; cases q) hlk (X163.rA hret rfl rfl (hb hby d_jdk_42_method_91_9)) ?_ (by decide) (by decide)
  exact ⟨KK, a163, rfl, Sa163⟩
set_option maxRecDepth 65536 in
set_option maxHeartbeats 40000000 in
theorem own_draw (l : Launch) (Z : State) (a0 : Array Value) (hw : ∀ d ∈ tables_1, d.before a0 Z = true) (h0 : Heap) (hO : Ext Z.heap h0) (x0 : Int32)  :
    CtrN l Z (⟨"com/example/stubwright/stubwright/ImportSimpleNamePinLaw", "draw", "(I)C"⟩ : MethodName) method_2_code 1 (some .char) ({ frames := 0, cells := 0, slots := 0, locals := 0 } : Room) #[(.int x0)] h0 (fun v h' => Keep h0 h' [] ∧ ∃ d, v = some (.int d) ∧ (¬ d < 0 ∧ ¬ (255 : Int32) < d)) := by
  refine CtrN.of (plainFor_of_name pn_4) hO ?_
  intro p e s m below meth cD_ T0 X0 hsh hby hml hret hlk hnm
  refine Goes.cast (ef_own_draw m x0) ?_
  show Goes _ _ _ _ T0 (mkF m 0 #[.val (.int x0)] [])
  refine Goes.go (fun _ kS_ => XS.iloadN X0.here X0.ex rfl (hb hby d_method_2_0) rfl (XS.bipush X0.here X0.ex rfl (hb hby d_method_2_1) (XS.iushr X0.here X0.ex rfl (hb hby d_method_2_3) rfl (XS.iconst X0.here X0.ex rfl (hb hby d_method_2_4) (XS.iand X0.here X0.ex rfl (hb hby d_method_2_5) rfl kS_))))) ?_
  show Goes _ _ _ _ T0 (mkF m 6 #[.val (.int x0)] [(.int (((x0.toUInt32 >>> ((8 : Int32) &&& 31).toUInt32).toInt32) &&& (1 : Int32)))])
  refine Goes.ifc (pc' := 14) X0.here X0.ex (hb hby d_method_2_6) (by decide) (by decide) (fun hc6 => ?_) (fun hc6 => ?_)
  · have hc6 : ¬ ((((x0.toUInt32 >>> ((8 : Int32) &&& 31).toUInt32).toInt32) &&& (1 : Int32)) = (0 : Int32)) := hc6
    show Goes _ _ _ _ T0 (mkF m 14 #[.val (.int x0)] [])
    refine Goes.go (fun _ kS_ => XS.iloadN X0.here X0.ex rfl (hb hby d_method_2_14) rfl (XS.sipush X0.here X0.ex rfl (hb hby d_method_2_15) (XS.iand X0.here X0.ex rfl (hb hby d_method_2_18) rfl (XS.i2c X0.here X0.ex rfl (hb hby d_method_2_19) rfl kS_)))) ?_
    show Goes _ _ _ _ T0 (mkF m 20 #[.val (.int x0)] [(.int ((x0 &&& (255 : Int32)).toUInt32.toUInt16.toUInt32.toInt32))])
    refine Goes.cast (congrArg (fun zq_ => (mkF m 20 #[.val (.int x0)] [(.int zq_)])) (i2c_mask x0)) ?_
    show Goes _ _ _ _ T0 (mkF m 20 #[.val (.int x0)] [(.int (x0 &&& (255 : Int32)))])
    refine Goes.outN X0 (fun q => by rw [hret] at q; cases q) hlk (X0.rB hret (by simp) (hb hby d_method_2_20)) ?_ (by decide) (by decide)
    exact ⟨Ext.oKeepOf X0.ext [], _, rfl, by rw [own_nar255]; exact own_b255 _⟩
  · have hc6 : (((x0.toUInt32 >>> ((8 : Int32) &&& 31).toUInt32).toInt32) &&& (1 : Int32)) = (0 : Int32) := Classical.not_not.mp hc6
    show Goes _ _ _ _ T0 (mkF m 9 #[.val (.int x0)] [])
    refine Goes.go (fun _ kS_ => XS.bipush X0.here X0.ex rfl (hb hby d_method_2_9) (XS.goto X0.here X0.ex rfl (pc0 := 11) (pc' := 20) rfl (hb hby d_method_2_11) (by decide) (by decide) kS_)) ?_
    show Goes _ _ _ _ T0 (mkF m 20 #[.val (.int x0)] [(.int (46 : Int32))])
    refine Goes.outN X0 (fun q => by rw [hret] at q; cases q) hlk (X0.rB hret (by simp) (hb hby d_method_2_20)) ?_ (by decide) (by decide)
    exact ⟨Ext.oKeepOf X0.ext [], (46 : Int32), rfl, by decide⟩
set_option maxRecDepth 65536 in
set_option maxHeartbeats 40000000 in
theorem own_make4 (l : Launch) (Z : State) (a0 : Array Value) (hw : ∀ d ∈ tables_1, d.before a0 Z = true) (hEL : EW Z a0 consts_1) (h0 : Heap) (hO : Ext Z.heap h0) (b : Addr) (kC : ClassId) (d0 : Int32) (d1 : Int32) (d2 : Int32) (d3 : Int32) (G1 : Int32) (O2 : Sta Z Z.heap "java/lang/String" "COMPACT_STRINGS" "Z" (.int G1)) (P5 : ¬ (G1 = (0 : Int32))) (VB : Arv Z h0 b kC .char (4 : Int32) [(.int d0), (.int d1), (.int d2), (.int d3)] (.int (0 : Int32))) (b0 : ¬ d0 < 0 ∧ ¬ (255 : Int32) < d0) (b1 : ¬ d1 < 0 ∧ ¬ (255 : Int32) < d1) (b2 : ¬ d2 < 0 ∧ ¬ (255 : Int32) < d2) (b3 : ¬ d3 < 0 ∧ ¬ (255 : Int32) < d3) :
    CtrS l Z consts_1 (⟨"com/example/stubwright/stubwright/ImportSimpleNamePinLaw", "make", "(I[C)Ljava/lang/String;"⟩ : MethodName) method_3_code 2 (some (.object "java/lang/String")) ({ frames := 4, cells := 3, slots := 12, locals := 66 } : Room) #[(.int (4 : Int32)), (.ref b)] h0 (fun v h' => Keep h0 h' [] ∧ ∃ a, v = some (.ref a) ∧ LStr Z h' a ([d0, d1, d2, d3] : List Int32)) := by
  refine CtrS.of (plainFor_of_name pn_4) hO ?_
  intro p e s m below meth cD_ T0 X0 hsh hby hml hret hlk hnm
  refine Goes.cast (ef_own_make4 m b) ?_
  show Goes _ _ _ _ T0 (mkF m 0 #[.val (.int (4 : Int32)), .val (.ref b)] [])
  refine Goes.go (fun _ kS_ => XS.iloadN X0.here X0.ex rfl (hb hby d_method_3_0) rfl (XS.ifYes X0.here X0.ex rfl (pc0 := 1) (pc' := 7) rfl (hb hby d_method_3_1) rfl ((if0 _ _).trans (cd_t (cd := .ne) (x := (4 : Int32)) (y := (0 : Int32)) (by decide))) (by decide) (by decide) (XS.iloadN X0.here X0.ex rfl (hb hby d_method_3_7) rfl (XS.iconst X0.here X0.ex rfl (hb hby d_method_3_8) (XS.icmpYes X0.here X0.ex rfl (pc0 := 9) (pc' := 29) rfl (hb hby d_method_3_9) rfl (cd_t (cd := .ne) (x := (4 : Int32)) (y := (1 : Int32)) (by decide)) (by decide) (by decide) (XS.iloadN X0.here X0.ex rfl (hb hby d_method_3_29) rfl kS_)))))) ?_
  show Goes _ _ _ _ T0 (mkF m 30 #[.val (.int (4 : Int32)), .val (.ref b)] [(.int (4 : Int32))])
  refine Goes.go (fun _ kS_ => XS.iconst X0.here X0.ex rfl (hb hby d_method_3_30) (XS.icmpYes X0.here X0.ex rfl (pc0 := 31) (pc' := 57) rfl (hb hby d_method_3_31) rfl (cd_t (cd := .ne) (x := (4 : Int32)) (y := (2 : Int32)) (by decide)) (by decide) (by decide) (XS.iloadN X0.here X0.ex rfl (hb hby d_method_3_57) rfl (XS.iconst X0.here X0.ex rfl (hb hby d_method_3_58) (XS.icmpYes X0.here X0.ex rfl (pc0 := 59) (pc' := 91) rfl (hb hby d_method_3_59) rfl (cd_t (cd := .ne) (x := (4 : Int32)) (y := (3 : Int32)) (by decide)) (by decide) (by decide) kS_))))) ?_
  show Goes _ _ _ _ T0 (mkF m 91 #[.val (.int (4 : Int32)), .val (.ref b)] [])
  have X173 := X0.mark
  refine Wk.new X173 (w_112 hw) (w_11 hw) (w_10 hw) rfl (hb hby d_method_3_91) (by decide) (by decide) ?_
  intro T174 h174 a174 g174 X174 E174 A174 D174
  have gz_a174 : Z.heap.size ≤ a174 := g174 ▸ X173.old.1
  have gm_a174 : h0.size ≤ a174 := g174 ▸ X173.ext.1
  have F_a174_value : Fld Z h174 a174 "java/lang/String" "value" "[B" .null := D174 (Or.inr (w_13 hw)) (ty := (.array .byte)) (by decide)
  have F_a174_coder : Fld Z h174 a174 "java/lang/String" "coder" "B" (.int (0 : Int32)) := D174 (Or.inr (w_14 hw)) (ty := .byte) (by decide)
  clear D174
  show Goes _ _ _ _ T174 (mkF m 94 #[.val (.int (4 : Int32)), .val (.ref b)] [(.ref a174)])
  refine Goes.go (fun _ kS_ => XS.dup X174.here X174.ex rfl (hb hby d_method_3_94) rfl rfl (XS.iconst X174.here X174.ex rfl (hb hby d_method_3_95) kS_)) ?_
  show Goes _ _ _ _ T174 (mkF m 96 #[.val (.int (4 : Int32)), .val (.ref b)] [(.int (4 : Int32)), (.ref a174), (.ref a174)])
  refine Wk.newA (aty := .char) X174 (w_1 hw) rfl (hb hby d_method_3_96) rfl (by decide) (cap := 4) (by decide) (by decide) (by decide) (by decide) ?_
  intro T175 h175 b175 k175 g175 X175 E175 A175 B_b175
  have lt_a174_b175 : a174 < b175 := by rw [g175]; exact A174.lt
  replace A174 := A174.ext E175
  replace F_a174_value := F_a174_value.ext E175
  replace F_a174_coder := F_a174_coder.ext E175
  have V_b175 : Arv Z h175 b175 k175 .char (4 : Int32) [(.int (0 : Int32)), (.int (0 : Int32)), (.int (0 : Int32)), (.int (0 : Int32))] (.int (0 : Int32)) := A175.pad (pad_rep [] (.int (0 : Int32)) 4)
  have gz_b175 : Z.heap.size ≤ b175 := g175 ▸ X174.old.1
  have gm_b175 : h0.size ≤ b175 := g175 ▸ X174.ext.1
  show Goes _ _ _ _ T175 (mkF m 98 #[.val (.int (4 : Int32)), .val (.ref b)] [(.ref b175), (.ref a174), (.ref a174)])
  refine Goes.go (fun _ kS_ => XS.dup X175.here X175.ex rfl (hb hby d_method_3_98) rfl rfl (XS.iconst X175.here X175.ex rfl (hb hby d_method_3_99) (XS.aloadN X175.here X175.ex rfl (hb hby d_method_3_100) rfl rfl (XS.iconst X175.here X175.ex rfl (hb hby d_method_3_101) kS_)))) ?_
  show Goes _ _ _ _ T175 (mkF m 102 #[.val (.int (4 : Int32)), .val (.ref b)] [(.int (0 : Int32)), (.ref b), (.int (0 : Int32)), (.ref b175), (.ref b175), (.ref a174), (.ref a174)])
  refine Goes.go (X175.caload (VB.ext X175.ext) ⟨by decide, by decide⟩ (v := .int d0) rfl rfl rfl (hb hby d_method_3_102)) ?_
  show Goes _ _ _ _ T175 (mkF m 103 #[.val (.int (4 : Int32)), .val (.ref b)] [(.int d0), (.int (0 : Int32)), (.ref b175), (.ref b175), (.ref a174), (.ref a174)])
  refine Wk.castore (hm' := fun _ => h0) X175 V_b175 ⟨by decide, by decide⟩ (i := 0) rfl (Nat.le_of_ble_eq_true rfl) gz_b175 (fun _ => Mark.stay (allS gm_b175 all0)) rfl rfl (hb hby d_method_3_103) ?_
  intro T176 h176 X176 W176 V176
  replace A174 := A174.wr W176
  replace F_a174_value := F_a174_value.other W176 (Or.inl (Nat.ne_of_lt lt_a174_b175))
  replace F_a174_coder := F_a174_coder.other W176 (Or.inl (Nat.ne_of_lt lt_a174_b175))
  clear V_b175; have V_b175 : Arv Z h176 b175 _ .char (4 : Int32) [(.int (nar .char d0)), (.int (0 : Int32)), (.int (0 : Int32)), (.int (0 : Int32))] (.int (0 : Int32)) := V176
  rw [own_narc b0] at V_b175
  show Goes _ _ _ _ T176 (mkF m 104 #[.val (.int (4 : Int32)), .val (.ref b)] [(.ref b175), (.ref a174), (.ref a174)])
  refine Goes.go (fun _ kS_ => XS.dup X176.here X176.ex rfl (hb hby d_method_3_104) rfl rfl (XS.iconst X176.here X176.ex rfl (hb hby d_method_3_105) (XS.aloadN X176.here X176.ex rfl (hb hby d_method_3_106) rfl rfl (XS.iconst X176.here X176.ex rfl (hb hby d_method_3_107) kS_)))) ?_
  show Goes _ _ _ _ T176 (mkF m 108 #[.val (.int (4 : Int32)), .val (.ref b)] [(.int (1 : Int32)), (.ref b), (.int (1 : Int32)), (.ref b175), (.ref b175), (.ref a174), (.ref a174)])
  refine Goes.go (X176.caload (VB.ext X176.ext) ⟨by decide, by decide⟩ (v := .int d1) rfl rfl rfl (hb hby d_method_3_108)) ?_
  show Goes _ _ _ _ T176 (mkF m 109 #[.val (.int (4 : Int32)), .val (.ref b)] [(.int d1), (.int (1 : Int32)), (.ref b175), (.ref b175), (.ref a174), (.ref a174)])
  refine Wk.castore (hm' := fun _ => h0) X176 V_b175 ⟨by decide, by decide⟩ (i := 1) rfl (Nat.le_of_ble_eq_true rfl) gz_b175 (fun _ => Mark.stay (allS gm_b175 all0)) rfl rfl (hb hby d_method_3_109) ?_
  intro T177 h177 X177 W177 V177
  replace A174 := A174.wr W177
  replace F_a174_value := F_a174_value.other W177 (Or.inl (Nat.ne_of_lt lt_a174_b175))
  replace F_a174_coder := F_a174_coder.other W177 (Or.inl (Nat.ne_of_lt lt_a174_b175))
  clear V_b175; have V_b175 : Arv Z h177 b175 _ .char (4 : Int32) [(.int d0), (.int (nar .char d1)), (.int (0 : Int32)), (.int (0 : Int32))] (.int (0 : Int32)) := V177
  rw [own_narc b1] at V_b175
  show Goes _ _ _ _ T177 (mkF m 110 #[.val (.int (4 : Int32)), .val (.ref b)] [(.ref b175), (.ref a174), (.ref a174)])
  refine Goes.go (fun _ kS_ => XS.dup X177.here X177.ex rfl (hb hby d_method_3_110) rfl rfl (XS.iconst X177.here X177.ex rfl (hb hby d_method_3_111) (XS.aloadN X177.here X177.ex rfl (hb hby d_method_3_112) rfl rfl (XS.iconst X177.here X177.ex rfl (hb hby d_method_3_113) kS_)))) ?_
  show Goes _ _ _ _ T177 (mkF m 114 #[.val (.int (4 : Int32)), .val (.ref b)] [(.int (2 : Int32)), (.ref b), (.int (2 : Int32)), (.ref b175), (.ref b175), (.ref a174), (.ref a174)])
  refine Goes.go (X177.caload (VB.ext X177.ext) ⟨by decide, by decide⟩ (v := .int d2) rfl rfl rfl (hb hby d_method_3_114)) ?_
  show Goes _ _ _ _ T177 (mkF m 115 #[.val (.int (4 : Int32)), .val (.ref b)] [(.int d2), (.int (2 : Int32)), (.ref b175), (.ref b175), (.ref a174), (.ref a174)])
  refine Wk.castore (hm' := fun _ => h0) X177 V_b175 ⟨by decide, by decide⟩ (i := 2) rfl (Nat.le_of_ble_eq_true rfl) gz_b175 (fun _ => Mark.stay (allS gm_b175 all0)) rfl rfl (hb hby d_method_3_115) ?_
  intro T178 h178 X178 W178 V178
  replace A174 := A174.wr W178
  replace F_a174_value := F_a174_value.other W178 (Or.inl (Nat.ne_of_lt lt_a174_b175))
  replace F_a174_coder := F_a174_coder.other W178 (Or.inl (Nat.ne_of_lt lt_a174_b175))
  clear V_b175; have V_b175 : Arv Z h178 b175 _ .char (4 : Int32) [(.int d0), (.int d1), (.int (nar .char d2)), (.int (0 : Int32))] (.int (0 : Int32)) := V178
  rw [own_narc b2] at V_b175
  show Goes _ _ _ _ T178 (mkF m 116 #[.val (.int (4 : Int32)), .val (.ref b)] [(.ref b175), (.ref a174), (.ref a174)])
  refine Goes.go (fun _ kS_ => XS.dup X178.here X178.ex rfl (hb hby d_method_3_116) rfl rfl (XS.iconst X178.here X178.ex rfl (hb hby d_method_3_117) (XS.aloadN X178.here X178.ex rfl (hb hby d_method_3_118) rfl rfl (XS.iconst X178.here X178.ex rfl (hb hby d_method_3_119) kS_)))) ?_
  show Goes _ _ _ _ T178 (mkF m 120 #[.val (.int (4 : Int32)), .val (.ref b)] [(.int (3 : Int32)), (.ref b), (.int (3 : Int32)), (.ref b175), (.ref b175), (.ref a174), (.ref a174)])
  refine Goes.go (X178.caload (VB.ext X178.ext) ⟨by decide, by decide⟩ (v := .int d3) rfl rfl rfl (hb hby d_method_3_120)) ?_
  show Goes _ _ _ _ T178 (mkF m 121 #[.val (.int (4 : Int32)), .val (.ref b)] [(.int d3), (.int (3 : Int32)), (.ref b175), (.ref b175), (.ref a174), (.ref a174)])
  refine Wk.castore (hm' := fun _ => h0) X178 V_b175 ⟨by decide, by decide⟩ (i := 3) rfl (Nat.le_of_ble_eq_true rfl) gz_b175 (fun _ => Mark.stay (allS gm_b175 all0)) rfl rfl (hb hby d_method_3_121) ?_
  intro T179 h179 X179 W179 V179
  replace A174 := A174.wr W179
  replace F_a174_value := F_a174_value.other W179 (Or.inl (Nat.ne_of_lt lt_a174_b175))
  replace F_a174_coder := F_a174_coder.other W179 (Or.inl (Nat.ne_of_lt lt_a174_b175))
  clear V_b175; have V_b175 : Arv Z h179 b175 _ .char (4 : Int32) [(.int d0), (.int d1), (.int d2), (.int (nar .char d3))] (.int (0 : Int32)) := V179
  rw [own_narc b3] at V_b175
  show Goes _ _ _ _ T179 (mkF m 122 #[.val (.int (4 : Int32)), .val (.ref b)] [(.ref b175), (.ref a174), (.ref a174)])
  have hp180 : ∀ c ∈ ([d0, d1, d2, d3] : List Int32), ¬ c < 0 ∧ ¬ (255 : Int32) < c := by
      intro c hc
      simp only [List.mem_cons, List.not_mem_nil, or_false] at hc
      rcases hc with rfl | rfl | rfl | rfl
      · exact b0
      · exact b1
      · exact b2
      · exact b3
  refine Wk.special (hm' := fun _ => h0) (y := (⟨"java/lang/String", "<init>", "([C)V"⟩ : MethodName)) (W := 1) (kc := 1) (ks := 4) (argsL := [(.ref b175)]) (rest := [(.ref a174)]) (as' := #[(.ref a174), (.ref b175)]) (ws := [a174]) X179 rfl (w_113 hw) (w_114 hw) (w_115 hw) (by decide) (own_newP (own_ws hw) (kI := 4) (w_11 hw) (cs := ([d0, d1, d2, d3] : List Int32)) (n := 4) gz_a174 X179.old A174 F_a174_value F_a174_coder V_b175 O2 P5 rfl rfl (by decide) (by decide) hp180 (by decide) (by decide)) (fun v h' L q => ⟨q.2.1, q.2.2.1⟩) (allS gz_a174 all0) (fun _ => Mark.stay (allS gm_a174 all0)) rfl (by rw [hml]; rfl) (lenOf pd_12 rfl) rfl rfl (by show 2 * 0 + _ ≤ _; exact Nat.le_of_eq rfl) (hb hby d_method_3_122) (by decide) (by decide) ?_
  intro T181 h181 v181 L181 X181 q181 K181
  obtain ⟨rfl, -, -, S_a174⟩ := q181
  show Goes _ _ _ _ T181 (mkF m 125 #[.val (.int (4 : Int32)), .val (.ref b)] [(.ref a174)])
  refine Goes.outS X181 hEL (fun q => by rw [hret] at q; cases q) hlk (X181.rA hret rfl rfl (hb hby d_method_3_125)) ?_ (by decide) (by decide)
  exact ⟨Ext.oKeepOf X181.ext [], a174, rfl, S_a174⟩
set_option maxRecDepth 65536 in
set_option maxHeartbeats 40000000 in
theorem own_make3 (l : Launch) (Z : State) (a0 : Array Value) (hw : ∀ d ∈ tables_1, d.before a0 Z = true) (hEL : EW Z a0 consts_1) (h0 : Heap) (hO : Ext Z.heap h0) (b : Addr) (kC : ClassId) (d0 : Int32) (d1 : Int32) (d2 : Int32) (d3 : Int32) (G1 : Int32) (O2 : Sta Z Z.heap "java/lang/String" "COMPACT_STRINGS" "Z" (.int G1)) (P5 : ¬ (G1 = (0 : Int32))) (VB : Arv Z h0 b kC .char (4 : Int32) [(.int d0), (.int d1), (.int d2), (.int d3)] (.int (0 : Int32))) (b0 : ¬ d0 < 0 ∧ ¬ (255 : Int32) < d0) (b1 : ¬ d1 < 0 ∧ ¬ (255 : Int32) < d1) (b2 : ¬ d2 < 0 ∧ ¬ (255 : Int32) < d2) (b3 : ¬ d3 < 0 ∧ ¬ (255 : Int32) < d3) :
    CtrS l Z consts_1 (⟨"com/example/stubwright/stubwright/ImportSimpleNamePinLaw", "make", "(I[C)Ljava/lang/String;"⟩ : MethodName) method_3_code 2 (some (.object "java/lang/String")) ({ frames := 4, cells := 3, slots := 12, locals := 66 } : Room) #[(.int (3 : Int32)), (.ref b)] h0 (fun v h' => Keep h0 h' [] ∧ ∃ a, v = some (.ref a) ∧ LStr Z h' a ([d0, d1, d2] : List Int32)) := by
  refine CtrS.of (plainFor_of_name pn_4) hO ?_
  intro p e s m below meth cD_ T0 X0 hsh hby hml hret hlk hnm
  refine Goes.cast (ef_own_make3 m b) ?_
  show Goes _ _ _ _ T0 (mkF m 0 #[.val (.int (3 : Int32)), .val (.ref b)] [])
  refine Goes.go (fun _ kS_ => XS.iloadN X0.here X0.ex rfl (hb hby d_method_3_0) rfl (XS.ifYes X0.here X0.ex rfl (pc0 := 1) (pc' := 7) rfl (hb hby d_method_3_1) rfl ((if0 _ _).trans (cd_t (cd := .ne) (x := (3 : Int32)) (y := (0 : Int32)) (by decide))) (by decide) (by decide) (XS.iloadN X0.here X0.ex rfl (hb hby d_method_3_7) rfl (XS.iconst X0.here X0.ex rfl (hb hby d_method_3_8) (XS.icmpYes X0.here X0.ex rfl (pc0 := 9) (pc' := 29) rfl (hb hby d_method_3_9) rfl (cd_t (cd := .ne) (x := (3 : Int32)) (y := (1 : Int32)) (by decide)) (by decide) (by decide) (XS.iloadN X0.here X0.ex rfl (hb hby d_method_3_29) rfl kS_)))))) ?_
  show Goes _ _ _ _ T0 (mkF m 30 #[.val (.int (3 : Int32)), .val (.ref b)] [(.int (3 : Int32))])
  refine Goes.go (fun _ kS_ => XS.iconst X0.here X0.ex rfl (hb hby d_method_3_30) (XS.icmpYes X0.here X0.ex rfl (pc0 := 31) (pc' := 57) rfl (hb hby d_method_3_31) rfl (cd_t (cd := .ne) (x := (3 : Int32)) (y := (2 : Int32)) (by decide)) (by decide) (by decide) (XS.iloadN X0.here X0.ex rfl (hb hby d_method_3_57) rfl (XS.iconst X0.here X0.ex rfl (hb hby d_method_3_58) (XS.icmpNo X0.here X0.ex rfl (hb hby d_method_3_59) rfl (cd_f (cd := .ne) (x := (3 : Int32)) (y := (3 : Int32)) (by decide)) kS_))))) ?_
  show Goes _ _ _ _ T0 (mkF m 62 #[.val (.int (3 : Int32)), .val (.ref b)] [])
  have X190 := X0.mark
  refine Wk.new X190 (w_112 hw) (w_11 hw) (w_10 hw) rfl (hb hby d_method_3_62) (by decide) (by decide) ?_
  intro T191 h191 a191 g191 X191 E191 A191 D191
  have gz_a191 : Z.heap.size ≤ a191 := g191 ▸ X190.old.1
  have gm_a191 : h0.size ≤ a191 := g191 ▸ X190.ext.1
  have F_a191_value : Fld Z h191 a191 "java/lang/String" "value" "[B" .null := D191 (Or.inr (w_13 hw)) (ty := (.array .byte)) (by decide)
  have F_a191_coder : Fld Z h191 a191 "java/lang/String" "coder" "B" (.int (0 : Int32)) := D191 (Or.inr (w_14 hw)) (ty := .byte) (by decide)
  clear D191
  show Goes _ _ _ _ T191 (mkF m 65 #[.val (.int (3 : Int32)), .val (.ref b)] [(.ref a191)])
  refine Goes.go (fun _ kS_ => XS.dup X191.here X191.ex rfl (hb hby d_method_3_65) rfl rfl (XS.iconst X191.here X191.ex rfl (hb hby d_method_3_66) kS_)) ?_
  show Goes _ _ _ _ T191 (mkF m 67 #[.val (.int (3 : Int32)), .val (.ref b)] [(.int (3 : Int32)), (.ref a191), (.ref a191)])
  refine Wk.newA (aty := .char) X191 (w_1 hw) rfl (hb hby d_method_3_67) rfl (by decide) (cap := 3) (by decide) (by decide) (by decide) (by decide) ?_
  intro T192 h192 b192 k192 g192 X192 E192 A192 B_b192
  have lt_a191_b192 : a191 < b192 := by rw [g192]; exact A191.lt
  replace A191 := A191.ext E192
  replace F_a191_value := F_a191_value.ext E192
  replace F_a191_coder := F_a191_coder.ext E192
  have V_b192 : Arv Z h192 b192 k192 .char (3 : Int32) [(.int (0 : Int32)), (.int (0 : Int32)), (.int (0 : Int32))] (.int (0 : Int32)) := A192.pad (pad_rep [] (.int (0 : Int32)) 3)
  have gz_b192 : Z.heap.size ≤ b192 := g192 ▸ X191.old.1
  have gm_b192 : h0.size ≤ b192 := g192 ▸ X191.ext.1
  show Goes _ _ _ _ T192 (mkF m 69 #[.val (.int (3 : Int32)), .val (.ref b)] [(.ref b192), (.ref a191), (.ref a191)])
  refine Goes.go (fun _ kS_ => XS.dup X192.here X192.ex rfl (hb hby d_method_3_69) rfl rfl (XS.iconst X192.here X192.ex rfl (hb hby d_method_3_70) (XS.aloadN X192.here X192.ex rfl (hb hby d_method_3_71) rfl rfl (XS.iconst X192.here X192.ex rfl (hb hby d_method_3_72) kS_)))) ?_
  show Goes _ _ _ _ T192 (mkF m 73 #[.val (.int (3 : Int32)), .val (.ref b)] [(.int (0 : Int32)), (.ref b), (.int (0 : Int32)), (.ref b192), (.ref b192), (.ref a191), (.ref a191)])
  refine Goes.go (X192.caload (VB.ext X192.ext) ⟨by decide, by decide⟩ (v := .int d0) rfl rfl rfl (hb hby d_method_3_73)) ?_
  show Goes _ _ _ _ T192 (mkF m 74 #[.val (.int (3 : Int32)), .val (.ref b)] [(.int d0), (.int (0 : Int32)), (.ref b192), (.ref b192), (.ref a191), (.ref a191)])
  refine Wk.castore (hm' := fun _ => h0) X192 V_b192 ⟨by decide, by decide⟩ (i := 0) rfl (Nat.le_of_ble_eq_true rfl) gz_b192 (fun _ => Mark.stay (allS gm_b192 all0)) rfl rfl (hb hby d_method_3_74) ?_
  intro T193 h193 X193 W193 V193
  replace A191 := A191.wr W193
  replace F_a191_value := F_a191_value.other W193 (Or.inl (Nat.ne_of_lt lt_a191_b192))
  replace F_a191_coder := F_a191_coder.other W193 (Or.inl (Nat.ne_of_lt lt_a191_b192))
  clear V_b192; have V_b192 : Arv Z h193 b192 _ .char (3 : Int32) [(.int (nar .char d0)), (.int (0 : Int32)), (.int (0 : Int32))] (.int (0 : Int32)) := V193
  rw [own_narc b0] at V_b192
  show Goes _ _ _ _ T193 (mkF m 75 #[.val (.int (3 : Int32)), .val (.ref b)] [(.ref b192), (.ref a191), (.ref a191)])
  refine Goes.go (fun _ kS_ => XS.dup X193.here X193.ex rfl (hb hby d_method_3_75) rfl rfl (XS.iconst X193.here X193.ex rfl (hb hby d_method_3_76) (XS.aloadN X193.here X193.ex rfl (hb hby d_method_3_77) rfl rfl (XS.iconst X193.here X193.ex rfl (hb hby d_method_3_78) kS_)))) ?_
  show Goes _ _ _ _ T193 (mkF m 79 #[.val (.int (3 : Int32)), .val (.ref b)] [(.int (1 : Int32)), (.ref b), (.int (1 : Int32)), (.ref b192), (.ref b192), (.ref a191), (.ref a191)])
  refine Goes.go (X193.caload (VB.ext X193.ext) ⟨by decide, by decide⟩ (v := .int d1) rfl rfl rfl (hb hby d_method_3_79)) ?_
  show Goes _ _ _ _ T193 (mkF m 80 #[.val (.int (3 : Int32)), .val (.ref b)] [(.int d1), (.int (1 : Int32)), (.ref b192), (.ref b192), (.ref a191), (.ref a191)])
  refine Wk.castore (hm' := fun _ => h0) X193 V_b192 ⟨by decide, by decide⟩ (i := 1) rfl (Nat.le_of_ble_eq_true rfl) gz_b192 (fun _ => Mark.stay (allS gm_b192 all0)) rfl rfl (hb hby d_method_3_80) ?_
  intro T194 h194 X194 W194 V194
  replace A191 := A191.wr W194
  replace F_a191_value := F_a191_value.other W194 (Or.inl (Nat.ne_of_lt lt_a191_b192))
  replace F_a191_coder := F_a191_coder.other W194 (Or.inl (Nat.ne_of_lt lt_a191_b192))
  clear V_b192; have V_b192 : Arv Z h194 b192 _ .char (3 : Int32) [(.int d0), (.int (nar .char d1)), (.int (0 : Int32))] (.int (0 : Int32)) := V194
  rw [own_narc b1] at V_b192
  show Goes _ _ _ _ T194 (mkF m 81 #[.val (.int (3 : Int32)), .val (.ref b)] [(.ref b192), (.ref a191), (.ref a191)])
  refine Goes.go (fun _ kS_ => XS.dup X194.here X194.ex rfl (hb hby d_method_3_81) rfl rfl (XS.iconst X194.here X194.ex rfl (hb hby d_method_3_82) (XS.aloadN X194.here X194.ex rfl (hb hby d_method_3_83) rfl rfl (XS.iconst X194.here X194.ex rfl (hb hby d_method_3_84) kS_)))) ?_
  show Goes _ _ _ _ T194 (mkF m 85 #[.val (.int (3 : Int32)), .val (.ref b)] [(.int (2 : Int32)), (.ref b), (.int (2 : Int32)), (.ref b192), (.ref b192), (.ref a191), (.ref a191)])
  refine Goes.go (X194.caload (VB.ext X194.ext) ⟨by decide, by decide⟩ (v := .int d2) rfl rfl rfl (hb hby d_method_3_85)) ?_
  show Goes _ _ _ _ T194 (mkF m 86 #[.val (.int (3 : Int32)), .val (.ref b)] [(.int d2), (.int (2 : Int32)), (.ref b192), (.ref b192), (.ref a191), (.ref a191)])
  refine Wk.castore (hm' := fun _ => h0) X194 V_b192 ⟨by decide, by decide⟩ (i := 2) rfl (Nat.le_of_ble_eq_true rfl) gz_b192 (fun _ => Mark.stay (allS gm_b192 all0)) rfl rfl (hb hby d_method_3_86) ?_
  intro T195 h195 X195 W195 V195
  replace A191 := A191.wr W195
  replace F_a191_value := F_a191_value.other W195 (Or.inl (Nat.ne_of_lt lt_a191_b192))
  replace F_a191_coder := F_a191_coder.other W195 (Or.inl (Nat.ne_of_lt lt_a191_b192))
  clear V_b192; have V_b192 : Arv Z h195 b192 _ .char (3 : Int32) [(.int d0), (.int d1), (.int (nar .char d2))] (.int (0 : Int32)) := V195
  rw [own_narc b2] at V_b192
  show Goes _ _ _ _ T195 (mkF m 87 #[.val (.int (3 : Int32)), .val (.ref b)] [(.ref b192), (.ref a191), (.ref a191)])
  have hp196 : ∀ c ∈ ([d0, d1, d2] : List Int32), ¬ c < 0 ∧ ¬ (255 : Int32) < c := by
      intro c hc
      simp only [List.mem_cons, List.not_mem_nil, or_false] at hc
      rcases hc with rfl | rfl | rfl
      · exact b0
      · exact b1
      · exact b2
  refine Wk.special (hm' := fun _ => h0) (y := (⟨"java/lang/String", "<init>", "([C)V"⟩ : MethodName)) (W := 1) (kc := 1) (ks := 3) (argsL := [(.ref b192)]) (rest := [(.ref a191)]) (as' := #[(.ref a191), (.ref b192)]) (ws := [a191]) X195 rfl (w_113 hw) (w_114 hw) (w_115 hw) (by decide) (own_newP (own_ws hw) (kI := 4) (w_11 hw) (cs := ([d0, d1, d2] : List Int32)) (n := 3) gz_a191 X195.old A191 F_a191_value F_a191_coder V_b192 O2 P5 rfl rfl (by decide) (by decide) hp196 (by decide) (by decide)) (fun v h' L q => ⟨q.2.1, q.2.2.1⟩) (allS gz_a191 all0) (fun _ => Mark.stay (allS gm_a191 all0)) rfl (by rw [hml]; rfl) (lenOf pd_12 rfl) rfl rfl (by show 2 * 0 + _ ≤ _; exact Nat.le_of_eq rfl) (hb hby d_method_3_87) (by decide) (by decide) ?_
  intro T197 h197 v197 L197 X197 q197 K197
  obtain ⟨rfl, -, -, S_a191⟩ := q197
  show Goes _ _ _ _ T197 (mkF m 90 #[.val (.int (3 : Int32)), .val (.ref b)] [(.ref a191)])
  refine Goes.outS X197 hEL (fun q => by rw [hret] at q; cases q) hlk (X197.rA hret rfl rfl (hb hby d_method_3_90)) ?_ (by decide) (by decide)
  exact ⟨Ext.oKeepOf X197.ext [], a191, rfl, S_a191⟩
set_option maxRecDepth 65536 in
set_option maxHeartbeats 40000000 in
theorem own_make2 (l : Launch) (Z : State) (a0 : Array Value) (hw : ∀ d ∈ tables_1, d.before a0 Z = true) (hEL : EW Z a0 consts_1) (h0 : Heap) (hO : Ext Z.heap h0) (b : Addr) (kC : ClassId) (d0 : Int32) (d1 : Int32) (d2 : Int32) (d3 : Int32) (G1 : Int32) (O2 : Sta Z Z.heap "java/lang/String" "COMPACT_STRINGS" "Z" (.int G1)) (P5 : ¬ (G1 = (0 : Int32))) (VB : Arv Z h0 b kC .char (4 : Int32) [(.int d0), (.int d1), (.int d2), (.int d3)] (.int (0 : Int32))) (b0 : ¬ d0 < 0 ∧ ¬ (255 : Int32) < d0) (b1 : ¬ d1 < 0 ∧ ¬ (255 : Int32) < d1) (b2 : ¬ d2 < 0 ∧ ¬ (255 : Int32) < d2) (b3 : ¬ d3 < 0 ∧ ¬ (255 : Int32) < d3) :
    CtrS l Z consts_1 (⟨"com/example/stubwright/stubwright/ImportSimpleNamePinLaw", "make", "(I[C)Ljava/lang/String;"⟩ : MethodName) method_3_code 2 (some (.object "java/lang/String")) ({ frames := 4, cells := 3, slots := 12, locals := 66 } : Room) #[(.int (2 : Int32)), (.ref b)] h0 (fun v h' => Keep h0 h' [] ∧ ∃ a, v = some (.ref a) ∧ LStr Z h' a ([d0, d1] : List Int32)) := by
  refine CtrS.of (plainFor_of_name pn_4) hO ?_
  intro p e s m below meth cD_ T0 X0 hsh hby hml hret hlk hnm
  refine Goes.cast (ef_own_make2 m b) ?_
  show Goes _ _ _ _ T0 (mkF m 0 #[.val (.int (2 : Int32)), .val (.ref b)] [])
  refine Goes.go (fun _ kS_ => XS.iloadN X0.here X0.ex rfl (hb hby d_method_3_0) rfl (XS.ifYes X0.here X0.ex rfl (pc0 := 1) (pc' := 7) rfl (hb hby d_method_3_1) rfl ((if0 _ _).trans (cd_t (cd := .ne) (x := (2 : Int32)) (y := (0 : Int32)) (by decide))) (by decide) (by decide) (XS.iloadN X0.here X0.ex rfl (hb hby d_method_3_7) rfl (XS.iconst X0.here X0.ex rfl (hb hby d_method_3_8) (XS.icmpYes X0.here X0.ex rfl (pc0 := 9) (pc' := 29) rfl (hb hby d_method_3_9) rfl (cd_t (cd := .ne) (x := (2 : Int32)) (y := (1 : Int32)) (by decide)) (by decide) (by decide) (XS.iloadN X0.here X0.ex rfl (hb hby d_method_3_29) rfl kS_)))))) ?_
  show Goes _ _ _ _ T0 (mkF m 30 #[.val (.int (2 : Int32)), .val (.ref b)] [(.int (2 : Int32))])
  refine Goes.go (fun _ kS_ => XS.iconst X0.here X0.ex rfl (hb hby d_method_3_30) (XS.icmpNo X0.here X0.ex rfl (hb hby d_method_3_31) rfl (cd_f (cd := .ne) (x := (2 : Int32)) (y := (2 : Int32)) (by decide)) kS_)) ?_
  show Goes _ _ _ _ T0 (mkF m 34 #[.val (.int (2 : Int32)), .val (.ref b)] [])
  have X205 := X0.mark
  refine Wk.new X205 (w_112 hw) (w_11 hw) (w_10 hw) rfl (hb hby d_method_3_34) (by decide) (by decide) ?_
  intro T206 h206 a206 g206 X206 E206 A206 D206
  have gz_a206 : Z.heap.size ≤ a206 := g206 ▸ X205.old.1
  have gm_a206 : h0.size ≤ a206 := g206 ▸ X205.ext.1
  have F_a206_value : Fld Z h206 a206 "java/lang/String" "value" "[B" .null := D206 (Or.inr (w_13 hw)) (ty := (.array .byte)) (by decide)
  have F_a206_coder : Fld Z h206 a206 "java/lang/String" "coder" "B" (.int (0 : Int32)) := D206 (Or.inr (w_14 hw)) (ty := .byte) (by decide)
  clear D206
  show Goes _ _ _ _ T206 (mkF m 37 #[.val (.int (2 : Int32)), .val (.ref b)] [(.ref a206)])
  refine Goes.go (fun _ kS_ => XS.dup X206.here X206.ex rfl (hb hby d_method_3_37) rfl rfl (XS.iconst X206.here X206.ex rfl (hb hby d_method_3_38) kS_)) ?_
  show Goes _ _ _ _ T206 (mkF m 39 #[.val (.int (2 : Int32)), .val (.ref b)] [(.int (2 : Int32)), (.ref a206), (.ref a206)])
  refine Wk.newA (aty := .char) X206 (w_1 hw) rfl (hb hby d_method_3_39) rfl (by decide) (cap := 2) (by decide) (by decide) (by decide) (by decide) ?_
  intro T207 h207 b207 k207 g207 X207 E207 A207 B_b207
  have lt_a206_b207 : a206 < b207 := by rw [g207]; exact A206.lt
  replace A206 := A206.ext E207
  replace F_a206_value := F_a206_value.ext E207
  replace F_a206_coder := F_a206_coder.ext E207
  have V_b207 : Arv Z h207 b207 k207 .char (2 : Int32) [(.int (0 : Int32)), (.int (0 : Int32))] (.int (0 : Int32)) := A207.pad (pad_rep [] (.int (0 : Int32)) 2)
  have gz_b207 : Z.heap.size ≤ b207 := g207 ▸ X206.old.1
  have gm_b207 : h0.size ≤ b207 := g207 ▸ X206.ext.1
  show Goes _ _ _ _ T207 (mkF m 41 #[.val (.int (2 : Int32)), .val (.ref b)] [(.ref b207), (.ref a206), (.ref a206)])
  refine Goes.go (fun _ kS_ => XS.dup X207.here X207.ex rfl (hb hby d_method_3_41) rfl rfl (XS.iconst X207.here X207.ex rfl (hb hby d_method_3_42) (XS.aloadN X207.here X207.ex rfl (hb hby d_method_3_43) rfl rfl (XS.iconst X207.here X207.ex rfl (hb hby d_method_3_44) kS_)))) ?_
  show Goes _ _ _ _ T207 (mkF m 45 #[.val (.int (2 : Int32)), .val (.ref b)] [(.int (0 : Int32)), (.ref b), (.int (0 : Int32)), (.ref b207), (.ref b207), (.ref a206), (.ref a206)])
  refine Goes.go (X207.caload (VB.ext X207.ext) ⟨by decide, by decide⟩ (v := .int d0) rfl rfl rfl (hb hby d_method_3_45)) ?_
  show Goes _ _ _ _ T207 (mkF m 46 #[.val (.int (2 : Int32)), .val (.ref b)] [(.int d0), (.int (0 : Int32)), (.ref b207), (.ref b207), (.ref a206), (.ref a206)])
  refine Wk.castore (hm' := fun _ => h0) X207 V_b207 ⟨by decide, by decide⟩ (i := 0) rfl (Nat.le_of_ble_eq_true rfl) gz_b207 (fun _ => Mark.stay (allS gm_b207 all0)) rfl rfl (hb hby d_method_3_46) ?_
  intro T208 h208 X208 W208 V208
  replace A206 := A206.wr W208
  replace F_a206_value := F_a206_value.other W208 (Or.inl (Nat.ne_of_lt lt_a206_b207))
  replace F_a206_coder := F_a206_coder.other W208 (Or.inl (Nat.ne_of_lt lt_a206_b207))
  clear V_b207; have V_b207 : Arv Z h208 b207 _ .char (2 : Int32) [(.int (nar .char d0)), (.int (0 : Int32))] (.int (0 : Int32)) := V208
  rw [own_narc b0] at V_b207
  show Goes _ _ _ _ T208 (mkF m 47 #[.val (.int (2 : Int32)), .val (.ref b)] [(.ref b207), (.ref a206), (.ref a206)])
  refine Goes.go (fun _ kS_ => XS.dup X208.here X208.ex rfl (hb hby d_method_3_47) rfl rfl (XS.iconst X208.here X208.ex rfl (hb hby d_method_3_48) (XS.aloadN X208.here X208.ex rfl (hb hby d_method_3_49) rfl rfl (XS.iconst X208.here X208.ex rfl (hb hby d_method_3_50) kS_)))) ?_
  show Goes _ _ _ _ T208 (mkF m 51 #[.val (.int (2 : Int32)), .val (.ref b)] [(.int (1 : Int32)), (.ref b), (.int (1 : Int32)), (.ref b207), (.ref b207), (.ref a206), (.ref a206)])
  refine Goes.go (X208.caload (VB.ext X208.ext) ⟨by decide, by decide⟩ (v := .int d1) rfl rfl rfl (hb hby d_method_3_51)) ?_
  show Goes _ _ _ _ T208 (mkF m 52 #[.val (.int (2 : Int32)), .val (.ref b)] [(.int d1), (.int (1 : Int32)), (.ref b207), (.ref b207), (.ref a206), (.ref a206)])
  refine Wk.castore (hm' := fun _ => h0) X208 V_b207 ⟨by decide, by decide⟩ (i := 1) rfl (Nat.le_of_ble_eq_true rfl) gz_b207 (fun _ => Mark.stay (allS gm_b207 all0)) rfl rfl (hb hby d_method_3_52) ?_
  intro T209 h209 X209 W209 V209
  replace A206 := A206.wr W209
  replace F_a206_value := F_a206_value.other W209 (Or.inl (Nat.ne_of_lt lt_a206_b207))
  replace F_a206_coder := F_a206_coder.other W209 (Or.inl (Nat.ne_of_lt lt_a206_b207))
  clear V_b207; have V_b207 : Arv Z h209 b207 _ .char (2 : Int32) [(.int d0), (.int (nar .char d1))] (.int (0 : Int32)) := V209
  rw [own_narc b1] at V_b207
  show Goes _ _ _ _ T209 (mkF m 53 #[.val (.int (2 : Int32)), .val (.ref b)] [(.ref b207), (.ref a206), (.ref a206)])
  have hp210 : ∀ c ∈ ([d0, d1] : List Int32), ¬ c < 0 ∧ ¬ (255 : Int32) < c := by
      intro c hc
      simp only [List.mem_cons, List.not_mem_nil, or_false] at hc
      rcases hc with rfl | rfl
      · exact b0
      · exact b1
  refine Wk.special (hm' := fun _ => h0) (y := (⟨"java/lang/String", "<init>", "([C)V"⟩ : MethodName)) (W := 1) (kc := 1) (ks := 2) (argsL := [(.ref b207)]) (rest := [(.ref a206)]) (as' := #[(.ref a206), (.ref b207)]) (ws := [a206]) X209 rfl (w_113 hw) (w_114 hw) (w_115 hw) (by decide) (own_newP (own_ws hw) (kI := 4) (w_11 hw) (cs := ([d0, d1] : List Int32)) (n := 2) gz_a206 X209.old A206 F_a206_value F_a206_coder V_b207 O2 P5 rfl rfl (by decide) (by decide) hp210 (by decide) (by decide)) (fun v h' L q => ⟨q.2.1, q.2.2.1⟩) (allS gz_a206 all0) (fun _ => Mark.stay (allS gm_a206 all0)) rfl (by rw [hml]; rfl) (lenOf pd_12 rfl) rfl rfl (by show 2 * 0 + _ ≤ _; exact Nat.le_of_eq rfl) (hb hby d_method_3_53) (by decide) (by decide) ?_
  intro T211 h211 v211 L211 X211 q211 K211
  obtain ⟨rfl, -, -, S_a206⟩ := q211
  show Goes _ _ _ _ T211 (mkF m 56 #[.val (.int (2 : Int32)), .val (.ref b)] [(.ref a206)])
  refine Goes.outS X211 hEL (fun q => by rw [hret] at q; cases q) hlk (X211.rA hret rfl rfl (hb hby d_method_3_56)) ?_ (by decide) (by decide)
  exact ⟨Ext.oKeepOf X211.ext [], a206, rfl, S_a206⟩
set_option maxRecDepth 65536 in
set_option maxHeartbeats 40000000 in
theorem own_make1 (l : Launch) (Z : State) (a0 : Array Value) (hw : ∀ d ∈ tables_1, d.before a0 Z = true) (hEL : EW Z a0 consts_1) (h0 : Heap) (hO : Ext Z.heap h0) (b : Addr) (kC : ClassId) (d0 : Int32) (d1 : Int32) (d2 : Int32) (d3 : Int32) (G1 : Int32) (O2 : Sta Z Z.heap "java/lang/String" "COMPACT_STRINGS" "Z" (.int G1)) (P5 : ¬ (G1 = (0 : Int32))) (VB : Arv Z h0 b kC .char (4 : Int32) [(.int d0), (.int d1), (.int d2), (.int d3)] (.int (0 : Int32))) (b0 : ¬ d0 < 0 ∧ ¬ (255 : Int32) < d0) (b1 : ¬ d1 < 0 ∧ ¬ (255 : Int32) < d1) (b2 : ¬ d2 < 0 ∧ ¬ (255 : Int32) < d2) (b3 : ¬ d3 < 0 ∧ ¬ (255 : Int32) < d3) :
    CtrS l Z consts_1 (⟨"com/example/stubwright/stubwright/ImportSimpleNamePinLaw", "make", "(I[C)Ljava/lang/String;"⟩ : MethodName) method_3_code 2 (some (.object "java/lang/String")) ({ frames := 4, cells := 3, slots := 12, locals := 66 } : Room) #[(.int (1 : Int32)), (.ref b)] h0 (fun v h' => Keep h0 h' [] ∧ ∃ a, v = some (.ref a) ∧ LStr Z h' a ([d0] : List Int32)) := by
  refine CtrS.of (plainFor_of_name pn_4) hO ?_
  intro p e s m below meth cD_ T0 X0 hsh hby hml hret hlk hnm
  refine Goes.cast (ef_own_make1 m b) ?_
  show Goes _ _ _ _ T0 (mkF m 0 #[.val (.int (1 : Int32)), .val (.ref b)] [])
  refine Goes.go (fun _ kS_ => XS.iloadN X0.here X0.ex rfl (hb hby d_method_3_0) rfl (XS.ifYes X0.here X0.ex rfl (pc0 := 1) (pc' := 7) rfl (hb hby d_method_3_1) rfl ((if0 _ _).trans (cd_t (cd := .ne) (x := (1 : Int32)) (y := (0 : Int32)) (by decide))) (by decide) (by decide) (XS.iloadN X0.here X0.ex rfl (hb hby d_method_3_7) rfl (XS.iconst X0.here X0.ex rfl (hb hby d_method_3_8) (XS.icmpNo X0.here X0.ex rfl (hb hby d_method_3_9) rfl (cd_f (cd := .ne) (x := (1 : Int32)) (y := (1 : Int32)) (by decide)) kS_))))) ?_
  show Goes _ _ _ _ T0 (mkF m 12 #[.val (.int (1 : Int32)), .val (.ref b)] [])
  have X218 := X0.mark
  refine Wk.new X218 (w_112 hw) (w_11 hw) (w_10 hw) rfl (hb hby d_method_3_12) (by decide) (by decide) ?_
  intro T219 h219 a219 g219 X219 E219 A219 D219
  have gz_a219 : Z.heap.size ≤ a219 := g219 ▸ X218.old.1
  have gm_a219 : h0.size ≤ a219 := g219 ▸ X218.ext.1
  have F_a219_value : Fld Z h219 a219 "java/lang/String" "value" "[B" .null := D219 (Or.inr (w_13 hw)) (ty := (.array .byte)) (by decide)
  have F_a219_coder : Fld Z h219 a219 "java/lang/String" "coder" "B" (.int (0 : Int32)) := D219 (Or.inr (w_14 hw)) (ty := .byte) (by decide)
  clear D219
  show Goes _ _ _ _ T219 (mkF m 15 #[.val (.int (1 : Int32)), .val (.ref b)] [(.ref a219)])
  refine Goes.go (fun _ kS_ => XS.dup X219.here X219.ex rfl (hb hby d_method_3_15) rfl rfl (XS.iconst X219.here X219.ex rfl (hb hby d_method_3_16) kS_)) ?_
  show Goes _ _ _ _ T219 (mkF m 17 #[.val (.int (1 : Int32)), .val (.ref b)] [(.int (1 : Int32)), (.ref a219), (.ref a219)])
  refine Wk.newA (aty := .char) X219 (w_1 hw) rfl (hb hby d_method_3_17) rfl (by decide) (cap := 1) (by decide) (by decide) (by decide) (by decide) ?_
  intro T220 h220 b220 k220 g220 X220 E220 A220 B_b220
  have lt_a219_b220 : a219 < b220 := by rw [g220]; exact A219.lt
  replace A219 := A219.ext E220
  replace F_a219_value := F_a219_value.ext E220
  replace F_a219_coder := F_a219_coder.ext E220
  have V_b220 : Arv Z h220 b220 k220 .char (1 : Int32) [(.int (0 : Int32))] (.int (0 : Int32)) := A220.pad (pad_rep [] (.int (0 : Int32)) 1)
  have gz_b220 : Z.heap.size ≤ b220 := g220 ▸ X219.old.1
  have gm_b220 : h0.size ≤ b220 := g220 ▸ X219.ext.1
  show Goes _ _ _ _ T220 (mkF m 19 #[.val (.int (1 : Int32)), .val (.ref b)] [(.ref b220), (.ref a219), (.ref a219)])
  refine Goes.go (fun _ kS_ => XS.dup X220.here X220.ex rfl (hb hby d_method_3_19) rfl rfl (XS.iconst X220.here X220.ex rfl (hb hby d_method_3_20) (XS.aloadN X220.here X220.ex rfl (hb hby d_method_3_21) rfl rfl (XS.iconst X220.here X220.ex rfl (hb hby d_method_3_22) kS_)))) ?_
  show Goes _ _ _ _ T220 (mkF m 23 #[.val (.int (1 : Int32)), .val (.ref b)] [(.int (0 : Int32)), (.ref b), (.int (0 : Int32)), (.ref b220), (.ref b220), (.ref a219), (.ref a219)])
  refine Goes.go (X220.caload (VB.ext X220.ext) ⟨by decide, by decide⟩ (v := .int d0) rfl rfl rfl (hb hby d_method_3_23)) ?_
  show Goes _ _ _ _ T220 (mkF m 24 #[.val (.int (1 : Int32)), .val (.ref b)] [(.int d0), (.int (0 : Int32)), (.ref b220), (.ref b220), (.ref a219), (.ref a219)])
  refine Wk.castore (hm' := fun _ => h0) X220 V_b220 ⟨by decide, by decide⟩ (i := 0) rfl (Nat.le_of_ble_eq_true rfl) gz_b220 (fun _ => Mark.stay (allS gm_b220 all0)) rfl rfl (hb hby d_method_3_24) ?_
  intro T221 h221 X221 W221 V221
  replace A219 := A219.wr W221
  replace F_a219_value := F_a219_value.other W221 (Or.inl (Nat.ne_of_lt lt_a219_b220))
  replace F_a219_coder := F_a219_coder.other W221 (Or.inl (Nat.ne_of_lt lt_a219_b220))
  clear V_b220; have V_b220 : Arv Z h221 b220 _ .char (1 : Int32) [(.int (nar .char d0))] (.int (0 : Int32)) := V221
  rw [own_narc b0] at V_b220
  show Goes _ _ _ _ T221 (mkF m 25 #[.val (.int (1 : Int32)), .val (.ref b)] [(.ref b220), (.ref a219), (.ref a219)])
  have hp222 : ∀ c ∈ ([d0] : List Int32), ¬ c < 0 ∧ ¬ (255 : Int32) < c := by
      intro c hc
      simp only [List.mem_cons, List.not_mem_nil, or_false] at hc
      rcases hc with rfl
      · exact b0
  refine Wk.special (hm' := fun _ => h0) (y := (⟨"java/lang/String", "<init>", "([C)V"⟩ : MethodName)) (W := 1) (kc := 1) (ks := 1) (argsL := [(.ref b220)]) (rest := [(.ref a219)]) (as' := #[(.ref a219), (.ref b220)]) (ws := [a219]) X221 rfl (w_113 hw) (w_114 hw) (w_115 hw) (by decide) (own_newP (own_ws hw) (kI := 4) (w_11 hw) (cs := ([d0] : List Int32)) (n := 1) gz_a219 X221.old A219 F_a219_value F_a219_coder V_b220 O2 P5 rfl rfl (by decide) (by decide) hp222 (by decide) (by decide)) (fun v h' L q => ⟨q.2.1, q.2.2.1⟩) (allS gz_a219 all0) (fun _ => Mark.stay (allS gm_a219 all0)) rfl (by rw [hml]; rfl) (lenOf pd_12 rfl) rfl rfl (by show 2 * 0 + _ ≤ _; exact Nat.le_of_eq rfl) (hb hby d_method_3_25) (by decide) (by decide) ?_
  intro T223 h223 v223 L223 X223 q223 K223
  obtain ⟨rfl, -, -, S_a219⟩ := q223
  show Goes _ _ _ _ T223 (mkF m 28 #[.val (.int (1 : Int32)), .val (.ref b)] [(.ref a219)])
  refine Goes.outS X223 hEL (fun q => by rw [hret] at q; cases q) hlk (X223.rA hret rfl rfl (hb hby d_method_3_28)) ?_ (by decide) (by decide)
  exact ⟨Ext.oKeepOf X223.ext [], a219, rfl, S_a219⟩
set_option maxRecDepth 65536 in
set_option maxHeartbeats 40000000 in
theorem own_make0 (l : Launch) (Z : State) (a0 : Array Value) (hw : ∀ d ∈ tables_1, d.before a0 Z = true) (hEL : EW Z a0 consts_1) (h0 : Heap) (hO : Ext Z.heap h0) (b : Addr) (kC : ClassId) (d0 : Int32) (d1 : Int32) (d2 : Int32) (d3 : Int32) (G1 : Int32) (O2 : Sta Z Z.heap "java/lang/String" "COMPACT_STRINGS" "Z" (.int G1)) (P5 : ¬ (G1 = (0 : Int32))) (VB : Arv Z h0 b kC .char (4 : Int32) [(.int d0), (.int d1), (.int d2), (.int d3)] (.int (0 : Int32))) (b0 : ¬ d0 < 0 ∧ ¬ (255 : Int32) < d0) (b1 : ¬ d1 < 0 ∧ ¬ (255 : Int32) < d1) (b2 : ¬ d2 < 0 ∧ ¬ (255 : Int32) < d2) (b3 : ¬ d3 < 0 ∧ ¬ (255 : Int32) < d3) :
    CtrS l Z consts_1 (⟨"com/example/stubwright/stubwright/ImportSimpleNamePinLaw", "make", "(I[C)Ljava/lang/String;"⟩ : MethodName) method_3_code 2 (some (.object "java/lang/String")) ({ frames := 4, cells := 3, slots := 12, locals := 66 } : Room) #[(.int (0 : Int32)), (.ref b)] h0 (fun v h' => Keep h0 h' [] ∧ ∃ a, v = some (.ref a) ∧ LStr Z h' a ([] : List Int32)) := by
  refine CtrS.of (plainFor_of_name pn_4) hO ?_
  intro p e s m below meth cD_ T0 X0 hsh hby hml hret hlk hnm
  refine Goes.cast (ef_own_make0 m b) ?_
  show Goes _ _ _ _ T0 (mkF m 0 #[.val (.int (0 : Int32)), .val (.ref b)] [])
  refine Goes.go (fun _ kS_ => XS.iloadN X0.here X0.ex rfl (hb hby d_method_3_0) rfl (XS.ifNo X0.here X0.ex rfl (hb hby d_method_3_1) rfl ((if0 _ _).trans (cd_f (cd := .ne) (x := (0 : Int32)) (y := (0 : Int32)) (by decide))) kS_)) ?_
  show Goes _ _ _ _ T0 (mkF m 4 #[.val (.int (0 : Int32)), .val (.ref b)] [])
  refine Wk.ldcR X0 (w_9 hw) (own_wS hw) hEL (by decide) (vs := []) (z := 0) ⟨by decide, rfl⟩ (by decide) rfl rfl (hb hby d_method_3_4) (n := 0) (by decide) (by decide) (by decide) (by decide) ?_
  intro T225 h225 a225 b225 k225 X225 E225 Ea225 Ca225 Va225 Ab225
  have S_a225 : LStr Z h225 a225 ([] : List Int32) := ⟨Ea225, Ca225, ⟨_, _, Va225, Ab225⟩, (fun _ q => nomatch q), Nat.le_of_ble_eq_true rfl⟩
  show Goes _ _ _ _ T225 (mkF m 6 #[.val (.int (0 : Int32)), .val (.ref b)] [(.ref a225)])
  refine Goes.outS X225 hEL (fun q => by rw [hret] at q; cases q) hlk (X225.rA hret rfl rfl (hb hby d_method_3_6)) ?_ (by decide) (by decide)
  exact ⟨Ext.oKeepOf E225 [], a225, rfl, S_a225⟩
theorem own_make (l : Launch) (Z : State) (a0 : Array Value) (hw : ∀ d ∈ tables_1, d.before a0 Z = true) (hEL : EW Z a0 consts_1) (h0 : Heap) (hO : Ext Z.heap h0) (b : Addr) (kC : ClassId) (d0 : Int32) (d1 : Int32) (d2 : Int32) (d3 : Int32) (G1 : Int32) (k : Nat) (nn : Int32) (hk : nn = Int32.ofNat k) (hk4 : k ≤ 4) (O2 : Sta Z Z.heap "java/lang/String" "COMPACT_STRINGS" "Z" (.int G1)) (P5 : ¬ (G1 = (0 : Int32))) (VB : Arv Z h0 b kC .char (4 : Int32) [(.int d0), (.int d1), (.int d2), (.int d3)] (.int (0 : Int32))) (b0 : ¬ d0 < 0 ∧ ¬ (255 : Int32) < d0) (b1 : ¬ d1 < 0 ∧ ¬ (255 : Int32) < d1) (b2 : ¬ d2 < 0 ∧ ¬ (255 : Int32) < d2) (b3 : ¬ d3 < 0 ∧ ¬ (255 : Int32) < d3) :
    CtrS l Z consts_1 (⟨"com/example/stubwright/stubwright/ImportSimpleNamePinLaw", "make", "(I[C)Ljava/lang/String;"⟩ : MethodName) method_3_code 2 (some (.object "java/lang/String")) ({ frames := 4, cells := 3, slots := 12, locals := 66 } : Room) #[(.int nn), (.ref b)] h0 (fun v h' => Keep h0 h' [] ∧ ∃ a, v = some (.ref a) ∧ LStr Z h' a (([d0, d1, d2, d3] : List Int32).take k)) := by
  subst hk
  match k, hk4 with
  | 0, _ => exact own_make0 l Z a0 hw hEL h0 hO b kC d0 d1 d2 d3 G1 O2 P5 VB b0 b1 b2 b3
  | 1, _ => exact own_make1 l Z a0 hw hEL h0 hO b kC d0 d1 d2 d3 G1 O2 P5 VB b0 b1 b2 b3
  | 2, _ => exact own_make2 l Z a0 hw hEL h0 hO b kC d0 d1 d2 d3 G1 O2 P5 VB b0 b1 b2 b3
  | 3, _ => exact own_make3 l Z a0 hw hEL h0 hO b kC d0 d1 d2 d3 G1 O2 P5 VB b0 b1 b2 b3
  | 4, _ => exact own_make4 l Z a0 hw hEL h0 hO b kC d0 d1 d2 d3 G1 O2 P5 VB b0 b1 b2 b3
  | k + 5, h => exact absurd h (by omega)
set_option maxRecDepth 65536 in
set_option maxHeartbeats 40000000 in
theorem own_record (l : Launch) (Z : State) (a0 : Array Value) (hw : ∀ d ∈ tables_1, d.before a0 Z = true) (h0 : Heap) (hO : Ext Z.heap h0) (x : Addr)  :
    CtrN l Z (⟨"java/lang/Record", "<init>", "()V"⟩ : MethodName) jdk_30_method_1_code 1 none ({ frames := 1, cells := 0, slots := 0, locals := 12 } : Room) #[(.ref x)] h0 (fun v h' => Keep h0 h' [] ∧ v = none) := by
  refine CtrN.of (plainFor_of_name pn_5) hO ?_
  intro p e s m below meth cD_ T0 X0 hsh hby hml hret hlk hnm
  refine Goes.cast (ef_own_record m x) ?_
  show Goes _ _ _ _ T0 (mkF m 0 #[.val (.ref x)] [])
  refine Goes.go (fun _ kS_ => XS.aloadN X0.here X0.ex rfl (hb hby d_jdk_30_method_1_0) rfl rfl kS_) ?_
  show Goes _ _ _ _ T0 (mkF m 1 #[.val (.ref x)] [(.ref x)])
  refine Wk.initO X0 (w_31 hw) (w_32 hw) (w_33 hw) rfl (by rw [hml]; rfl) rfl (hb hby d_jdk_30_method_1_1) (by decide) (W := 0) (by show 2 * 0 + _ ≤ _; exact Nat.le_of_eq rfl) (by decide) ?_
  intro T226 X226
  show Goes _ _ _ _ T226 (mkF m 4 #[.val (.ref x)] [])
  refine Goes.outN X226 (fun _ => rfl) hlk (X226.rV hret (hb hby d_jdk_30_method_1_4)) ?_ (by decide) (by decide)
  exact ⟨Ext.oKeepOf X226.ext [], rfl⟩
set_option maxRecDepth 65536 in
set_option maxHeartbeats 40000000 in
theorem own_pos (l : Launch) (Z : State) (a0 : Array Value) (hw : ∀ d ∈ tables_1, d.before a0 Z = true) (h0 : Heap) (hO : Ext Z.heap h0) (x : Addr) (l0 : Int32) (c0 : Int32) (E_x : Exa Z h0 x "com/example/stubwright/stubwright/Position") (F_x_line : Fld Z h0 x "com/example/stubwright/stubwright/Position" "line" "I" (.int (0 : Int32))) (F_x_column : Fld Z h0 x "com/example/stubwright/stubwright/Position" "column" "I" (.int (0 : Int32))) (gz_x : Z.heap.size ≤ x) :
    CtrN l Z (⟨"com/example/stubwright/stubwright/Position", "<init>", "(II)V"⟩ : MethodName) prog_69_method_1_code 3 none ({ frames := 2, cells := 0, slots := 0, locals := 24 } : Room) #[(.ref x), (.int l0), (.int c0)] h0 (fun v h' => Keep h0 h' [x] ∧ v = none ∧ Exa Z h' x "com/example/stubwright/stubwright/Position" ∧ Fld Z h' x "com/example/stubwright/stubwright/Position" "column" "I" (.int c0)) := by
  refine CtrN.of (plainFor_of_name pn_6) hO ?_
  intro p e s m below meth cD_ T0 X0 hsh hby hml hret hlk hnm
  refine Goes.cast (ef_own_pos m x l0 c0) ?_
  show Goes _ _ _ _ T0 (mkF m 0 #[.val (.ref x), .val (.int l0), .val (.int c0)] [])
  refine Goes.go (fun _ kS_ => XS.aloadN X0.here X0.ex rfl (hb hby d_prog_69_method_1_0) rfl rfl kS_) ?_
  show Goes _ _ _ _ T0 (mkF m 1 #[.val (.ref x), .val (.int l0), .val (.int c0)] [(.ref x)])
  have K0 : Keep h0 h0 [x] := Keep.refl _ _
  refine Wk.special (hm' := fun _ => h0) (y := (⟨"java/lang/Record", "<init>", "()V"⟩ : MethodName)) (W := 0) (kc := 0) (ks := 0) (argsL := []) (rest := []) (as' := #[(.ref x)]) (ws := []) X0 rfl (w_26 hw) (w_27 hw) (w_30 hw) (by decide) (CtrN.pays (own_record l Z a0 hw h0 X0.old x) (w_30 hw) (w_29 hw) (by decide) (by decide)) (fun v h' L q => ⟨q.2, q.1.1⟩) all0 (fun _ => Mark.stay all0) rfl (by rw [hml]; rfl) (lenOf pd_13 rfl) rfl rfl (by show 2 * 0 + _ ≤ _; exact Nat.le_of_eq rfl) (hb hby d_prog_69_method_1_1) (by decide) (by decide) ?_
  intro T230 h230 v230 L230 X230 q230 K230
  obtain ⟨⟨-, rfl⟩, -⟩ := q230
  replace E_x := E_x.ext K230.oExt
  replace F_x_line := F_x_line.ext K230.oExt
  replace F_x_column := F_x_column.ext K230.oExt
  replace K0 := K0.ext K230.oExt
  show Goes _ _ _ _ T230 (mkF m 4 #[.val (.ref x), .val (.int l0), .val (.int c0)] [])
  refine Goes.go (fun _ kS_ => XS.aloadN X230.here X230.ex rfl (hb hby d_prog_69_method_1_4) rfl rfl (XS.iloadN X230.here X230.ex rfl (hb hby d_prog_69_method_1_5) rfl kS_)) ?_
  show Goes _ _ _ _ T230 (mkF m 6 #[.val (.ref x), .val (.int l0), .val (.int c0)] [(.int l0), (.ref x)])
  refine Wk.putF (hm' := fun h' => h') X230 (host := "") (Or.inl (w_34 hw)) Via.refl F_x_line E_x (Or.inr ⟨(w_35 hw), rfl, hnm⟩) (w_21 hw) (ty := .int) (by decide) rfl rfl gz_x (fun _ => Mark.anew (allS (Or.inr SafeA.nil) all0)) rfl rfl (hb hby d_prog_69_method_1_6) ?_
  intro T231 h231 X231 W231
  have F231 := F_x_line.same W231
  replace E_x := E_x.wr W231
  replace F_x_column := F_x_column.other W231 (Or.inr (slot_ne (Or.inr (w_37 hw)) (Or.inr (w_35 hw)) (by decide) (t := .int) (t' := .int) (by decide) (by decide)))
  clear F_x_line; have F_x_line := F231
  show Goes _ _ _ _ T231 (mkF m 9 #[.val (.ref x), .val (.int l0), .val (.int c0)] [])
  replace K0 := K0.wr W231 (Or.inl (List.mem_of_getElem? (i := 0) rfl))
  refine Goes.go (fun _ kS_ => XS.aloadN X231.here X231.ex rfl (hb hby d_prog_69_method_1_9) rfl rfl (XS.iloadN X231.here X231.ex rfl (hb hby d_prog_69_method_1_10) rfl kS_)) ?_
  show Goes _ _ _ _ T231 (mkF m 11 #[.val (.ref x), .val (.int l0), .val (.int c0)] [(.int c0), (.ref x)])
  refine Wk.putF (hm' := fun h' => h') X231 (host := "") (Or.inl (w_36 hw)) Via.refl F_x_column E_x (Or.inr ⟨(w_37 hw), rfl, hnm⟩) (w_21 hw) (ty := .int) (by decide) rfl rfl gz_x (fun _ => Mark.anew (allS (Or.inr SafeA.nil) all0)) rfl rfl (hb hby d_prog_69_method_1_11) ?_
  intro T232 h232 X232 W232
  have F232 := F_x_column.same W232
  replace E_x := E_x.wr W232
  replace F_x_line := F_x_line.other W232 (Or.inr (slot_ne (Or.inr (w_35 hw)) (Or.inr (w_37 hw)) (by decide) (t := .int) (t' := .int) (by decide) (by decide)))
  clear F_x_column; have F_x_column := F232
  show Goes _ _ _ _ T232 (mkF m 14 #[.val (.ref x), .val (.int l0), .val (.int c0)] [])
  replace K0 := K0.wr W232 (Or.inl (List.mem_of_getElem? (i := 0) rfl))
  refine Goes.outN X232 (fun _ => rfl) hlk (X232.rV hret (hb hby d_prog_69_method_1_14)) ?_ (by decide) (by decide)
  exact ⟨K0, rfl, E_x, F_x_column⟩
set_option maxRecDepth 65536 in
set_option maxHeartbeats 40000000 in
theorem own_imp (l : Launch) (Z : State) (a0 : Array Value) (hw : ∀ d ∈ tables_1, d.before a0 Z = true) (h0 : Heap) (hO : Ext Z.heap h0) (x : Addr) (q : Addr) (a : Addr) (E_x : Exa Z h0 x "com/example/stubwright/stubwright/Document$Import") (F_x_position : Fld Z h0 x "com/example/stubwright/stubwright/Document$Import" "position" "Lcom/example/stubwright/stubwright/Position;" .null) (F_x_name : Fld Z h0 x "com/example/stubwright/stubwright/Document$Import" "name" "Ljava/lang/String;" .null) (gz_x : Z.heap.size ≤ x) :
    CtrN l Z (⟨"com/example/stubwright/stubwright/Document$Import", "<init>", "(Lcom/example/stubwright/stubwright/Position;Ljava/lang/String;)V"⟩ : MethodName) prog_36_method_1_code 3 none ({ frames := 2, cells := 0, slots := 0, locals := 24 } : Room) #[(.ref x), (.ref q), (.ref a)] h0 (fun v h' => Keep h0 h' [x] ∧ v = none ∧ Exa Z h' x "com/example/stubwright/stubwright/Document$Import" ∧ Fld Z h' x "com/example/stubwright/stubwright/Document$Import" "name" "Ljava/lang/String;" (.ref a)) := by
  refine CtrN.of (plainFor_of_name pn_7) hO ?_
  intro p e s m below meth cD_ T0 X0 hsh hby hml hret hlk hnm
  refine Goes.cast (ef_own_imp m x q a) ?_
  show Goes _ _ _ _ T0 (mkF m 0 #[.val (.ref x), .val (.ref q), .val (.ref a)] [])
  refine Goes.go (fun _ kS_ => XS.aloadN X0.here X0.ex rfl (hb hby d_prog_36_method_1_0) rfl rfl kS_) ?_
  show Goes _ _ _ _ T0 (mkF m 1 #[.val (.ref x), .val (.ref q), .val (.ref a)] [(.ref x)])
  have K0 : Keep h0 h0 [x] := Keep.refl _ _
  refine Wk.special (hm' := fun _ => h0) (y := (⟨"java/lang/Record", "<init>", "()V"⟩ : MethodName)) (W := 0) (kc := 0) (ks := 0) (argsL := []) (rest := []) (as' := #[(.ref x)]) (ws := []) X0 rfl (w_41 hw) (w_27 hw) (w_30 hw) (by decide) (CtrN.pays (own_record l Z a0 hw h0 X0.old x) (w_30 hw) (w_29 hw) (by decide) (by decide)) (fun v h' L q => ⟨q.2, q.1.1⟩) all0 (fun _ => Mark.stay all0) rfl (by rw [hml]; rfl) (lenOf pd_13 rfl) rfl rfl (by show 2 * 0 + _ ≤ _; exact Nat.le_of_eq rfl) (hb hby d_prog_36_method_1_1) (by decide) (by decide) ?_
  intro T236 h236 v236 L236 X236 q236 K236
  obtain ⟨⟨-, rfl⟩, -⟩ := q236
  replace E_x := E_x.ext K236.oExt
  replace F_x_position := F_x_position.ext K236.oExt
  replace F_x_name := F_x_name.ext K236.oExt
  replace K0 := K0.ext K236.oExt
  show Goes _ _ _ _ T236 (mkF m 4 #[.val (.ref x), .val (.ref q), .val (.ref a)] [])
  refine Goes.go (fun _ kS_ => XS.aloadN X236.here X236.ex rfl (hb hby d_prog_36_method_1_4) rfl rfl (XS.aloadN X236.here X236.ex rfl (hb hby d_prog_36_method_1_5) rfl rfl kS_)) ?_
  show Goes _ _ _ _ T236 (mkF m 6 #[.val (.ref x), .val (.ref q), .val (.ref a)] [(.ref q), (.ref x)])
  refine Wk.putF (hm' := fun h' => h') X236 (host := "") (Or.inl (w_42 hw)) Via.refl F_x_position E_x (Or.inr ⟨(w_43 hw), rfl, hnm⟩) (w_18 hw) (ty := (.object "com/example/stubwright/stubwright/Position")) (by decide) rfl rfl gz_x (fun _ => Mark.anew (allS (Or.inr SafeA.nil) all0)) rfl rfl (hb hby d_prog_36_method_1_6) ?_
  intro T237 h237 X237 W237
  have F237 := F_x_position.same W237
  replace E_x := E_x.wr W237
  replace F_x_name := F_x_name.other W237 (Or.inr (slot_ne (Or.inr (w_45 hw)) (Or.inr (w_43 hw)) (by decide) (t := (.object "java/lang/String")) (t' := (.object "com/example/stubwright/stubwright/Position")) (by decide) (by decide)))
  clear F_x_position; have F_x_position := F237
  show Goes _ _ _ _ T237 (mkF m 9 #[.val (.ref x), .val (.ref q), .val (.ref a)] [])
  replace K0 := K0.wr W237 (Or.inl (List.mem_of_getElem? (i := 0) rfl))
  refine Goes.go (fun _ kS_ => XS.aloadN X237.here X237.ex rfl (hb hby d_prog_36_method_1_9) rfl rfl (XS.aloadN X237.here X237.ex rfl (hb hby d_prog_36_method_1_10) rfl rfl kS_)) ?_
  show Goes _ _ _ _ T237 (mkF m 11 #[.val (.ref x), .val (.ref q), .val (.ref a)] [(.ref a), (.ref x)])
  refine Wk.putF (hm' := fun h' => h') X237 (host := "") (Or.inl (w_44 hw)) Via.refl F_x_name E_x (Or.inr ⟨(w_45 hw), rfl, hnm⟩) (w_18 hw) (ty := (.object "java/lang/String")) (by decide) rfl rfl gz_x (fun _ => Mark.anew (allS (Or.inr SafeA.nil) all0)) rfl rfl (hb hby d_prog_36_method_1_11) ?_
  intro T238 h238 X238 W238
  have F238 := F_x_name.same W238
  replace E_x := E_x.wr W238
  replace F_x_position := F_x_position.other W238 (Or.inr (slot_ne (Or.inr (w_43 hw)) (Or.inr (w_45 hw)) (by decide) (t := (.object "com/example/stubwright/stubwright/Position")) (t' := (.object "java/lang/String")) (by decide) (by decide)))
  clear F_x_name; have F_x_name := F238
  show Goes _ _ _ _ T238 (mkF m 14 #[.val (.ref x), .val (.ref q), .val (.ref a)] [])
  replace K0 := K0.wr W238 (Or.inl (List.mem_of_getElem? (i := 0) rfl))
  refine Goes.outN X238 (fun _ => rfl) hlk (X238.rV hret (hb hby d_prog_36_method_1_14)) ?_ (by decide) (by decide)
  exact ⟨K0, rfl, E_x, F_x_name⟩
set_option maxRecDepth 65536 in
set_option maxHeartbeats 40000000 in
theorem own_sn (l : Launch) (Z : State) (a0 : Array Value) (hw : ∀ d ∈ tables_1, d.before a0 Z = true) (hEL : EW Z a0 consts_1) (h0 : Heap) (hO : Ext Z.heap h0) (y : Addr) (x : Addr) (G1 : Int32) (G3 : Value) (cs : List Int32) (O2 : Sta Z Z.heap "java/lang/String" "COMPACT_STRINGS" "Z" (.int G1)) (P5 : ¬ (G1 = (0 : Int32))) (O4 : Sta Z Z.heap "jdk/internal/util/Preconditions" "SIOOBE_FORMATTER" "Ljava/util/function/BiFunction;" G3) (r_G3 : G3.isRef = true) (F : Fld Z h0 y "com/example/stubwright/stubwright/Document$Import" "name" "Ljava/lang/String;" (.ref x)) (S_x : LStr Z h0 x cs) (h4 : cs.length ≤ 4) :
    CtrS l Z consts_1 (⟨"com/example/stubwright/stubwright/Document$Import", "simpleName", "()Ljava/lang/String;"⟩ : MethodName) prog_36_method_2_code 1 (some (.object "java/lang/String")) ({ frames := 6, cells := 2, slots := 7, locals := 93 } : Room) #[(.ref y)] h0 (fun v h' => Keep h0 h' [] ∧ ∃ a, v = some (.ref a) ∧ LStr Z h' a (cs.drop (own_sN cs))) := by
  refine CtrS.of (plainFor_of_name pn_7) hO ?_
  intro p e s m below meth cD_ T0 X0 hsh hby hml hret hlk hnm
  refine Goes.cast (ef_own_sn m y) ?_
  show Goes _ _ _ _ T0 (mkF m 0 #[.val (.ref y)] [])
  have KK : Keep h0 h0 [] := Keep.refl _ _
  refine Goes.go (fun _ kS_ => XS.aloadN X0.here X0.ex rfl (hb hby d_prog_36_method_2_0) rfl rfl kS_) ?_
  show Goes _ _ _ _ T0 (mkF m 1 #[.val (.ref y)] [(.ref y)])
  refine Wk.getF X0 (host := "") (Or.inl (w_44 hw)) Via.refl F rfl rfl (hb hby d_prog_36_method_2_1) ?_
  intro T243 X243
  show Goes _ _ _ _ T243 (mkF m 4 #[.val (.ref y)] [(.ref x)])
  refine Goes.go (fun _ kS_ => XS.aloadN X243.here X243.ex rfl (hb hby d_prog_36_method_2_4) rfl rfl kS_) ?_
  show Goes _ _ _ _ T243 (mkF m 5 #[.val (.ref y)] [(.ref y), (.ref x)])
  refine Wk.getF X243 (host := "") (Or.inl (w_44 hw)) Via.refl F rfl rfl (hb hby d_prog_36_method_2_5) ?_
  intro T244 X244
  show Goes _ _ _ _ T244 (mkF m 8 #[.val (.ref y)] [(.ref x), (.ref x)])
  refine Goes.go (fun _ kS_ => XS.bipush X244.here X244.ex rfl (hb hby d_prog_36_method_2_8) kS_) ?_
  show Goes _ _ _ _ T244 (mkF m 10 #[.val (.ref y)] [(.int (46 : Int32)), (.ref x), (.ref x)])
  refine Wk.virtual (hm' := fun _ => h0) (C := "java/lang/String") (y := (⟨"java/lang/String", "lastIndexOf", "(I)I"⟩ : MethodName)) (z := (⟨"java/lang/String", "lastIndexOf", "(I)I"⟩ : MethodName)) (W := 1) (kc := 0) (ks := 0) (argsL := [(.int (46 : Int32))]) (rest := [(.ref x)]) (as' := #[(.ref x), (.int (46 : Int32))]) (ws := []) X244 (w_51 hw) (w_52 hw) (w_54 hw) (w_53 hw) (by decide) S_x.1 (nf_sel (w_54 hw)) (CtrN.pays (own_lio l Z a0 hw h0 X244.old x G1 cs O2 P5 S_x h4) (w_55 hw) (w_10 hw) (by decide) (by decide)) (fun v h' L q => ⟨q.2, q.1.1⟩) all0 (fun _ => Mark.stay all0) rfl (by rw [hml]; rfl) (lenOf pd_14 rfl) rfl rfl (by show 2 * 0 + _ ≤ _; exact Nat.le_of_eq rfl) (hb hby d_prog_36_method_2_10) (by decide) (by decide) ?_
  intro T245 h245 v245 L245 X245 q245 K245
  obtain ⟨⟨-, rfl⟩, -⟩ := q245
  replace F := F.ext K245.oExt
  replace S_x := S_x.ext K245.oExt
  replace KK := KK.ext K245.oExt
  show Goes _ _ _ _ T245 (mkF m 13 #[.val (.ref y)] [(.int (own_last cs)), (.ref x)])
  refine Goes.go (fun _ kS_ => XS.iconst X245.here X245.ex rfl (hb hby d_prog_36_method_2_13) (XS.iadd X245.here X245.ex rfl (hb hby d_prog_36_method_2_14) rfl kS_)) ?_
  show Goes _ _ _ _ T245 (mkF m 15 #[.val (.ref y)] [(.int ((own_last cs) + (1 : Int32))), (.ref x)])
  refine Wk.virtualS (C := "java/lang/String") (y := (⟨"java/lang/String", "substring", "(I)Ljava/lang/String;"⟩ : MethodName)) (z := (⟨"java/lang/String", "substring", "(I)Ljava/lang/String;"⟩ : MethodName)) (W := 0) (kc := 2) (ks := 7) (argsL := [(.int ((own_last cs) + (1 : Int32)))]) (rest := []) (as' := #[(.ref x), (.int ((own_last cs) + (1 : Int32)))]) (ws := []) X245 (w_90 hw) (w_91 hw) (w_93 hw) (w_92 hw) (by decide) S_x.1 (nf_sel (w_93 hw)) (CtrS.pays (own_sb l Z a0 hw hEL h245 X245.old x G1 G3 cs (own_sN cs) ((own_last cs) + (1 : Int32)) O2 P5 O4 r_G3 S_x h4 (own_last_s cs h4).2 (own_last_s cs h4).1) (w_94 hw) (w_10 hw) (by decide) (by decide) hEL) (fun v h' L q => ⟨q.2, q.1.1⟩) all0 rfl (by rw [hml]; rfl) (lenOf pd_15 rfl) rfl rfl (by show 2 * 0 + _ ≤ _; exact Nat.le_of_eq rfl) (hb hby d_prog_36_method_2_15) (by decide) (by decide) ?_
  intro T246 h246 v246 L246 X246 q246 K246
  obtain ⟨⟨-, a246, rfl, Sa246⟩, -⟩ := q246
  replace F := F.ext K246.oExt
  replace S_x := S_x.ext K246.oExt
  replace KK := KK.ext K246.oExt
  show Goes _ _ _ _ T246 (mkF m 18 #[.val (.ref y)] [(.ref a246)])
  refine Goes.outS X246 hEL (fun q => by rw [hret] at q; cases q) hlk (X246.rA hret rfl rfl (hb hby d_prog_36_method_2_18)) ?_ (by decide) (by decide)
  exact ⟨KK, a246, rfl, Sa246⟩
set_option maxRecDepth 65536 in
set_option maxHeartbeats 40000000 in
theorem own_at (l : Launch) (Z : State) (a0 : Array Value) (hw : ∀ d ∈ tables_1, d.before a0 Z = true) (h0 : Heap) (hO : Ext Z.heap h0) (a : Addr) (j : Int32) (mm : Int32) (b : Addr) (o : Int32) (G1 : Int32) (G3 : Value) (cs : List Int32) (jn : Nat) (kC : ClassId) (d0 : Int32) (d1 : Int32) (d2 : Int32) (d3 : Int32) (O2 : Sta Z Z.heap "java/lang/String" "COMPACT_STRINGS" "Z" (.int G1)) (P5 : ¬ (G1 = (0 : Int32))) (O4 : Sta Z Z.heap "jdk/internal/util/Preconditions" "SIOOBE_FORMATTER" "Ljava/util/function/BiFunction;" G3) (rG3 : G3.isRef = true) (S : LStr Z h0 a cs) (hm : mm = Int32.ofNat cs.length) (h4 : cs.length ≤ 4) (hj : j = Int32.ofNat jn) (hj4 : jn < 4) (VB : Arv Z h0 b kC .char (4 : Int32) [(.int d0), (.int d1), (.int d2), (.int d3)] (.int (0 : Int32))) (H : jn < cs.length → (¬ (o + j) < 0 ∧ (o + j) < (4 : Int32)) ∧ ([(.int d0), (.int d1), (.int d2), (.int d3)] : List Value).getD (o + j).toNatClampNeg (.int (0 : Int32)) = .int (cs.getD jn 0)) :
    CtrN l Z (⟨"com/example/stubwright/stubwright/ImportSimpleNamePinLaw", "at", "(Ljava/lang/String;II[CI)Z"⟩ : MethodName) method_4_code 5 (some .boolean) ({ frames := 4, cells := 0, slots := 0, locals := 53 } : Room) #[(.ref a), (.int j), (.int mm), (.ref b), (.int o)] h0 (fun v h' => Keep h0 h' [] ∧ v = some (.int (1 : Int32))) := by
  refine CtrN.of (plainFor_of_name pn_4) hO ?_
  intro p e s m below meth cD_ T0 X0 hsh hby hml hret hlk hnm
  refine Goes.cast (ef_own_at m a j mm b o) ?_
  show Goes _ _ _ _ T0 (mkF m 0 #[.val (.ref a), .val (.int j), .val (.int mm), .val (.ref b), .val (.int o)] [])
  refine Goes.go (fun _ kS_ => XS.iloadN X0.here X0.ex rfl (hb hby d_method_4_0) rfl (XS.iloadN X0.here X0.ex rfl (hb hby d_method_4_1) rfl kS_)) ?_
  show Goes _ _ _ _ T0 (mkF m 2 #[.val (.ref a), .val (.int j), .val (.int mm), .val (.ref b), .val (.int o)] [(.int mm), (.int j)])
  refine Goes.icmp (pc' := 7) X0.here X0.ex (hb hby d_method_4_2) (by decide) (by decide) (fun hc2 => ?_) (fun hc2 => ?_)
  · have hc2 : j < mm := hc2
    show Goes _ _ _ _ T0 (mkF m 7 #[.val (.ref a), .val (.int j), .val (.int mm), .val (.ref b), .val (.int o)] [])
    obtain ⟨g2, g3⟩ := H (own_f4 (Nat.le_of_lt hj4) h4 (by rw [← hj, ← hm]; exact hc2))
    refine Goes.go (fun _ kS_ => XS.aloadN X0.here X0.ex rfl (hb hby d_method_4_7) rfl rfl (XS.iloadN X0.here X0.ex rfl (hb hby d_method_4_8) rfl kS_)) ?_
    show Goes _ _ _ _ T0 (mkF m 9 #[.val (.ref a), .val (.int j), .val (.int mm), .val (.ref b), .val (.int o)] [(.int j), (.ref a)])
    refine Wk.virtual (hm' := fun _ => h0) (C := "java/lang/String") (y := (⟨"java/lang/String", "charAt", "(I)C"⟩ : MethodName)) (z := (⟨"java/lang/String", "charAt", "(I)C"⟩ : MethodName)) (W := 0) (kc := 0) (ks := 0) (argsL := [(.int j)]) (rest := []) (as' := #[(.ref a), (.int j)]) (ws := []) X0 (w_135 hw) (w_136 hw) (w_138 hw) (w_137 hw) (by decide) S.1 (nf_sel (w_138 hw)) (own_chP (own_wsCh hw) (kI := 4) (w_11 hw) S O2 P5 X0.old O4 rG3 (i := jn) (own_f4 (Nat.le_of_lt hj4) h4 (by rw [← hj, ← hm]; exact hc2)) hj (by decide) (by decide)) (fun v h' L q => ⟨by rw [q.2.1]; exact Fr.nil _, by rw [q.2.2]; exact Keep.refl _ _⟩) all0 (fun _ => Mark.stay all0) rfl (by rw [hml]; rfl) (lenOf pd_16 rfl) rfl rfl (by show 2 * 0 + _ ≤ _; exact Nat.le_of_eq rfl) (hb hby d_method_4_9) (by decide) (by decide) ?_
    intro T248 h248 v248 L248 X248 q248 K248
    obtain ⟨rfl, -, -⟩ := q248
    replace S := S.ext K248.oExt
    replace VB := VB.ext K248.oExt
    show Goes _ _ _ _ T248 (mkF m 12 #[.val (.ref a), .val (.int j), .val (.int mm), .val (.ref b), .val (.int o)] [(.int (cs.getD jn 0))])
    refine Goes.go (fun _ kS_ => XS.aloadN X248.here X248.ex rfl (hb hby d_method_4_12) rfl rfl (XS.iload X248.here X248.ex rfl (hb hby d_method_4_13) rfl (XS.iloadN X248.here X248.ex rfl (hb hby d_method_4_15) rfl (XS.iadd X248.here X248.ex rfl (hb hby d_method_4_16) rfl kS_)))) ?_
    show Goes _ _ _ _ T248 (mkF m 17 #[.val (.ref a), .val (.int j), .val (.int mm), .val (.ref b), .val (.int o)] [(.int (o + j)), (.ref b), (.int (cs.getD jn 0))])
    refine Goes.go (X248.caload VB g2 (v := .int (cs.getD jn 0)) g3 rfl rfl (hb hby d_method_4_17)) ?_
    show Goes _ _ _ _ T248 (mkF m 18 #[.val (.ref a), .val (.int j), .val (.int mm), .val (.ref b), .val (.int o)] [(.int (cs.getD jn 0)), (.int (cs.getD jn 0))])
    refine Goes.go (fun _ kS_ => XS.icmpNo X248.here X248.ex rfl (hb hby d_method_4_18) rfl (cd_f (cd := .ne) (x := (cs.getD jn 0)) (y := (cs.getD jn 0)) ((fun q => absurd (rfl) q))) kS_) ?_
    show Goes _ _ _ _ T248 (mkF m 21 #[.val (.ref a), .val (.int j), .val (.int mm), .val (.ref b), .val (.int o)] [])
    refine Goes.go (fun _ kS_ => XS.iconst X248.here X248.ex rfl (hb hby d_method_4_21) (XS.goto X248.here X248.ex rfl (pc0 := 22) (pc' := 26) rfl (hb hby d_method_4_22) (by decide) (by decide) kS_)) ?_
    show Goes _ _ _ _ T248 (mkF m 26 #[.val (.ref a), .val (.int j), .val (.int mm), .val (.ref b), .val (.int o)] [(.int (1 : Int32))])
    refine Goes.outN X248 (fun q => by rw [hret] at q; cases q) hlk (X248.rB hret (by simp) (hb hby d_method_4_26)) ?_ (by decide) (by decide)
    exact ⟨Ext.oKeepOf X248.ext [], rfl⟩
  · have hc2 : ¬ (j < mm) := hc2
    show Goes _ _ _ _ T0 (mkF m 5 #[.val (.ref a), .val (.int j), .val (.int mm), .val (.ref b), .val (.int o)] [])
    refine Goes.go (fun _ kS_ => XS.iconst X0.here X0.ex rfl (hb hby d_method_4_5) kS_) ?_
    show Goes _ _ _ _ T0 (mkF m 6 #[.val (.ref a), .val (.int j), .val (.int mm), .val (.ref b), .val (.int o)] [(.int (1 : Int32))])
    refine Goes.outN X0 (fun q => by rw [hret] at q; cases q) hlk (X0.rB hret (by simp) (hb hby d_method_4_6)) ?_ (by decide) (by decide)
    exact ⟨Ext.oKeepOf X0.ext [], rfl⟩
set_option maxRecDepth 65536 in
set_option maxHeartbeats 40000000 in
theorem own_law (l : Launch) (Z : State) (a0 : Array Value) (hw : ∀ d ∈ tables_1, d.before a0 Z = true) (hEL : EW Z a0 consts_1) (h0 : Heap) (hO : Ext Z.heap h0) (i0 : Int32) (i1 : Int32) (i2 : Int32) (i3 : Int32) (i4 : Int32) (i5 : Int32) (G1 : Int32) (G3 : Value) (O2 : Sta Z Z.heap "java/lang/String" "COMPACT_STRINGS" "Z" (.int G1)) (P5 : ¬ (G1 = (0 : Int32))) (O4 : Sta Z Z.heap "jdk/internal/util/Preconditions" "SIOOBE_FORMATTER" "Ljava/util/function/BiFunction;" G3) (rG3 : G3.isRef = true) :
    CtrS l Z consts_1 x code maxLocals ret room_1 #[(.int i0), (.int i1), (.int i2), (.int i3), (.int i4), (.int i5)] h0 (fun v h' => v = some (.int (1 : Int32))) := by
  refine CtrS.of (plainFor_of_name pn_4) hO ?_
  intro p e s m below meth cD_ T0 X0 hsh hby hml hret hlk hnm
  refine Goes.cast (ef_own_law m i0 i1 i2 i3 i4 i5) ?_
  show Goes _ _ _ _ T0 (mkF m 0 #[.val (.int i0), .val (.int i1), .val (.int i2), .val (.int i3), .val (.int i4), .val (.int i5), .unset, .unset, .unset, .unset, .unset, .unset, .unset, .unset] [])
  refine Goes.go (fun _ kS_ => XS.iloadN X0.here X0.ex rfl (hb hby at_0) rfl kS_) ?_
  show Goes _ _ _ _ T0 (mkF m 1 #[.val (.int i0), .val (.int i1), .val (.int i2), .val (.int i3), .val (.int i4), .val (.int i5), .unset, .unset, .unset, .unset, .unset, .unset, .unset, .unset] [(.int i0)])
  refine Goes.go (X0.ldcI (w_0 hw) rfl (hb hby at_1)) ?_
  show Goes _ _ _ _ T0 (mkF m 3 #[.val (.int i0), .val (.int i1), .val (.int i2), .val (.int i3), .val (.int i4), .val (.int i5), .unset, .unset, .unset, .unset, .unset, .unset, .unset, .unset] [(.int (2147483647 : Int32)), (.int i0)])
  refine Goes.go (fun _ kS_ => XS.iand X0.here X0.ex rfl (hb hby at_3) rfl (XS.iconst X0.here X0.ex rfl (hb hby at_4) (XS.irem X0.here X0.ex rfl (hb hby at_5) rfl (by decide) (XS.istore X0.here X0.ex rfl (hb hby at_6) rfl (l' := #[.val (.int i0), .val (.int i1), .val (.int i2), .val (.int i3), .val (.int i4), .val (.int i5), .val (.int ((i0 &&& (2147483647 : Int32)) - ((i0 &&& (2147483647 : Int32)) / (5 : Int32)) * (5 : Int32))), .unset, .unset, .unset, .unset, .unset, .unset, .unset]) rfl kS_)))) ?_
  show Goes _ _ _ _ T0 (mkF m 8 #[.val (.int i0), .val (.int i1), .val (.int i2), .val (.int i3), .val (.int i4), .val (.int i5), .val (.int ((i0 &&& (2147483647 : Int32)) - ((i0 &&& (2147483647 : Int32)) / (5 : Int32)) * (5 : Int32))), .unset, .unset, .unset, .unset, .unset, .unset, .unset] [])
  obtain ⟨nn, hnn⟩ : ∃ z : Int32, z = ((i0 &&& (2147483647 : Int32)) - ((i0 &&& (2147483647 : Int32)) / (5 : Int32)) * (5 : Int32)) := ⟨_, rfl⟩
  refine Goes.cast (show (mkF m 8 #[.val (.int i0), .val (.int i1), .val (.int i2), .val (.int i3), .val (.int i4), .val (.int i5), .val (.int ((i0 &&& (2147483647 : Int32)) - ((i0 &&& (2147483647 : Int32)) / (5 : Int32)) * (5 : Int32))), .unset, .unset, .unset, .unset, .unset, .unset, .unset] []) = (mkF m 8 #[.val (.int i0), .val (.int i1), .val (.int i2), .val (.int i3), .val (.int i4), .val (.int i5), .val (.int nn), .unset, .unset, .unset, .unset, .unset, .unset, .unset] []) from by rw [hnn]) ?_
  show Goes _ _ _ _ T0 (mkF m 8 #[.val (.int i0), .val (.int i1), .val (.int i2), .val (.int i3), .val (.int i4), .val (.int i5), .val (.int nn), .unset, .unset, .unset, .unset, .unset, .unset, .unset] [])
  refine Goes.go (fun _ kS_ => XS.iconst X0.here X0.ex rfl (hb hby at_8) kS_) ?_
  show Goes _ _ _ _ T0 (mkF m 9 #[.val (.int i0), .val (.int i1), .val (.int i2), .val (.int i3), .val (.int i4), .val (.int i5), .val (.int nn), .unset, .unset, .unset, .unset, .unset, .unset, .unset] [(.int (4 : Int32))])
  refine Wk.newA (aty := .char) X0 (w_1 hw) rfl (hb hby at_9) rfl (by decide) (cap := 4) (by decide) (by decide) (by decide) (by decide) ?_
  intro T249 h249 b249 k249 g249 X249 E249 A249 B_b249
  have V_b249 : Arv Z h249 b249 k249 .char (4 : Int32) [(.int (0 : Int32)), (.int (0 : Int32)), (.int (0 : Int32)), (.int (0 : Int32))] (.int (0 : Int32)) := A249.pad (pad_rep [] (.int (0 : Int32)) 4)
  have gz_b249 : Z.heap.size ≤ b249 := g249 ▸ X0.old.1
  have gm_b249 : h0.size ≤ b249 := g249 ▸ X0.ext.1
  show Goes _ _ _ _ T249 (mkF m 11 #[.val (.int i0), .val (.int i1), .val (.int i2), .val (.int i3), .val (.int i4), .val (.int i5), .val (.int nn), .unset, .unset, .unset, .unset, .unset, .unset, .unset] [(.ref b249)])
  refine Goes.go (fun _ kS_ => XS.dup X249.here X249.ex rfl (hb hby at_11) rfl rfl (XS.iconst X249.here X249.ex rfl (hb hby at_12) (XS.iloadN X249.here X249.ex rfl (hb hby at_13) rfl kS_))) ?_
  show Goes _ _ _ _ T249 (mkF m 14 #[.val (.int i0), .val (.int i1), .val (.int i2), .val (.int i3), .val (.int i4), .val (.int i5), .val (.int nn), .unset, .unset, .unset, .unset, .unset, .unset, .unset] [(.int i1), (.int (0 : Int32)), (.ref b249), (.ref b249)])
  refine Wk.static (hm' := fun _ => h0) (y := (⟨"com/example/stubwright/stubwright/ImportSimpleNamePinLaw", "draw", "(I)C"⟩ : MethodName)) (W := 3) (kc := 0) (ks := 0) (argsL := [(.int i1)]) (rest := [(.int (0 : Int32)), (.ref b249), (.ref b249)]) (as' := #[(.int i1)]) (ws := []) X249 (w_2 hw) (w_3 hw) (w_4 hw) (w_5 hw) (by decide) (CtrN.pays (own_draw l Z a0 hw h249 X249.old i1) (w_5 hw) (w_4 hw) (by decide) (by decide)) (fun v h' L q => ⟨q.2, q.1.1⟩) all0 (fun _ => Mark.stay all0) rfl (by rw [hml]; rfl) (lenOf pd_16 rfl) rfl rfl (by show 2 * 0 + _ ≤ _; exact Nat.le_of_eq rfl) (hb hby at_14) (by decide) (by decide) ?_
  intro T250 h250 v250 L250 X250 q250 K250
  obtain ⟨⟨-, d0, rfl, b0⟩, -⟩ := q250
  replace V_b249 := V_b249.ext K250.oExt
  show Goes _ _ _ _ T250 (mkF m 17 #[.val (.int i0), .val (.int i1), .val (.int i2), .val (.int i3), .val (.int i4), .val (.int i5), .val (.int nn), .unset, .unset, .unset, .unset, .unset, .unset, .unset] [(.int d0), (.int (0 : Int32)), (.ref b249), (.ref b249)])
  refine Wk.castore (hm' := fun _ => h0) X250 V_b249 ⟨by decide, by decide⟩ (i := 0) rfl (Nat.le_of_ble_eq_true rfl) gz_b249 (fun _ => Mark.stay (allS gm_b249 all0)) rfl rfl (hb hby at_17) ?_
  intro T251 h251 X251 W251 V251
  clear V_b249; have V_b249 : Arv Z h251 b249 _ .char (4 : Int32) [(.int (nar .char d0)), (.int (0 : Int32)), (.int (0 : Int32)), (.int (0 : Int32))] (.int (0 : Int32)) := V251
  rw [own_narc b0] at V_b249
  show Goes _ _ _ _ T251 (mkF m 18 #[.val (.int i0), .val (.int i1), .val (.int i2), .val (.int i3), .val (.int i4), .val (.int i5), .val (.int nn), .unset, .unset, .unset, .unset, .unset, .unset, .unset] [(.ref b249)])
  refine Goes.go (fun _ kS_ => XS.dup X251.here X251.ex rfl (hb hby at_18) rfl rfl (XS.iconst X251.here X251.ex rfl (hb hby at_19) (XS.iloadN X251.here X251.ex rfl (hb hby at_20) rfl kS_))) ?_
  show Goes _ _ _ _ T251 (mkF m 21 #[.val (.int i0), .val (.int i1), .val (.int i2), .val (.int i3), .val (.int i4), .val (.int i5), .val (.int nn), .unset, .unset, .unset, .unset, .unset, .unset, .unset] [(.int i2), (.int (1 : Int32)), (.ref b249), (.ref b249)])
  refine Wk.static (hm' := fun _ => h0) (y := (⟨"com/example/stubwright/stubwright/ImportSimpleNamePinLaw", "draw", "(I)C"⟩ : MethodName)) (W := 3) (kc := 0) (ks := 0) (argsL := [(.int i2)]) (rest := [(.int (1 : Int32)), (.ref b249), (.ref b249)]) (as' := #[(.int i2)]) (ws := []) X251 (w_2 hw) (w_3 hw) (w_4 hw) (w_5 hw) (by decide) (CtrN.pays (own_draw l Z a0 hw h251 X251.old i2) (w_5 hw) (w_4 hw) (by decide) (by decide)) (fun v h' L q => ⟨q.2, q.1.1⟩) all0 (fun _ => Mark.stay all0) rfl (by rw [hml]; rfl) (lenOf pd_16 rfl) rfl rfl (by show 2 * 0 + _ ≤ _; exact Nat.le_of_eq rfl) (hb hby at_21) (by decide) (by decide) ?_
  intro T252 h252 v252 L252 X252 q252 K252
  obtain ⟨⟨-, d1, rfl, b1⟩, -⟩ := q252
  replace V_b249 := V_b249.ext K252.oExt
  show Goes _ _ _ _ T252 (mkF m 24 #[.val (.int i0), .val (.int i1), .val (.int i2), .val (.int i3), .val (.int i4), .val (.int i5), .val (.int nn), .unset, .unset, .unset, .unset, .unset, .unset, .unset] [(.int d1), (.int (1 : Int32)), (.ref b249), (.ref b249)])
  refine Wk.castore (hm' := fun _ => h0) X252 V_b249 ⟨by decide, by decide⟩ (i := 1) rfl (Nat.le_of_ble_eq_true rfl) gz_b249 (fun _ => Mark.stay (allS gm_b249 all0)) rfl rfl (hb hby at_24) ?_
  intro T253 h253 X253 W253 V253
  clear V_b249; have V_b249 : Arv Z h253 b249 _ .char (4 : Int32) [(.int d0), (.int (nar .char d1)), (.int (0 : Int32)), (.int (0 : Int32))] (.int (0 : Int32)) := V253
  rw [own_narc b1] at V_b249
  show Goes _ _ _ _ T253 (mkF m 25 #[.val (.int i0), .val (.int i1), .val (.int i2), .val (.int i3), .val (.int i4), .val (.int i5), .val (.int nn), .unset, .unset, .unset, .unset, .unset, .unset, .unset] [(.ref b249)])
  refine Goes.go (fun _ kS_ => XS.dup X253.here X253.ex rfl (hb hby at_25) rfl rfl (XS.iconst X253.here X253.ex rfl (hb hby at_26) (XS.iloadN X253.here X253.ex rfl (hb hby at_27) rfl kS_))) ?_
  show Goes _ _ _ _ T253 (mkF m 28 #[.val (.int i0), .val (.int i1), .val (.int i2), .val (.int i3), .val (.int i4), .val (.int i5), .val (.int nn), .unset, .unset, .unset, .unset, .unset, .unset, .unset] [(.int i3), (.int (2 : Int32)), (.ref b249), (.ref b249)])
  refine Wk.static (hm' := fun _ => h0) (y := (⟨"com/example/stubwright/stubwright/ImportSimpleNamePinLaw", "draw", "(I)C"⟩ : MethodName)) (W := 3) (kc := 0) (ks := 0) (argsL := [(.int i3)]) (rest := [(.int (2 : Int32)), (.ref b249), (.ref b249)]) (as' := #[(.int i3)]) (ws := []) X253 (w_2 hw) (w_3 hw) (w_4 hw) (w_5 hw) (by decide) (CtrN.pays (own_draw l Z a0 hw h253 X253.old i3) (w_5 hw) (w_4 hw) (by decide) (by decide)) (fun v h' L q => ⟨q.2, q.1.1⟩) all0 (fun _ => Mark.stay all0) rfl (by rw [hml]; rfl) (lenOf pd_16 rfl) rfl rfl (by show 2 * 0 + _ ≤ _; exact Nat.le_of_eq rfl) (hb hby at_28) (by decide) (by decide) ?_
  intro T254 h254 v254 L254 X254 q254 K254
  obtain ⟨⟨-, d2, rfl, b2⟩, -⟩ := q254
  replace V_b249 := V_b249.ext K254.oExt
  show Goes _ _ _ _ T254 (mkF m 31 #[.val (.int i0), .val (.int i1), .val (.int i2), .val (.int i3), .val (.int i4), .val (.int i5), .val (.int nn), .unset, .unset, .unset, .unset, .unset, .unset, .unset] [(.int d2), (.int (2 : Int32)), (.ref b249), (.ref b249)])
  refine Wk.castore (hm' := fun _ => h0) X254 V_b249 ⟨by decide, by decide⟩ (i := 2) rfl (Nat.le_of_ble_eq_true rfl) gz_b249 (fun _ => Mark.stay (allS gm_b249 all0)) rfl rfl (hb hby at_31) ?_
  intro T255 h255 X255 W255 V255
  clear V_b249; have V_b249 : Arv Z h255 b249 _ .char (4 : Int32) [(.int d0), (.int d1), (.int (nar .char d2)), (.int (0 : Int32))] (.int (0 : Int32)) := V255
  rw [own_narc b2] at V_b249
  show Goes _ _ _ _ T255 (mkF m 32 #[.val (.int i0), .val (.int i1), .val (.int i2), .val (.int i3), .val (.int i4), .val (.int i5), .val (.int nn), .unset, .unset, .unset, .unset, .unset, .unset, .unset] [(.ref b249)])
  refine Goes.go (fun _ kS_ => XS.dup X255.here X255.ex rfl (hb hby at_32) rfl rfl (XS.iconst X255.here X255.ex rfl (hb hby at_33) (XS.iload X255.here X255.ex rfl (hb hby at_34) rfl kS_))) ?_
  show Goes _ _ _ _ T255 (mkF m 36 #[.val (.int i0), .val (.int i1), .val (.int i2), .val (.int i3), .val (.int i4), .val (.int i5), .val (.int nn), .unset, .unset, .unset, .unset, .unset, .unset, .unset] [(.int i4), (.int (3 : Int32)), (.ref b249), (.ref b249)])
  refine Wk.static (hm' := fun _ => h0) (y := (⟨"com/example/stubwright/stubwright/ImportSimpleNamePinLaw", "draw", "(I)C"⟩ : MethodName)) (W := 3) (kc := 0) (ks := 0) (argsL := [(.int i4)]) (rest := [(.int (3 : Int32)), (.ref b249), (.ref b249)]) (as' := #[(.int i4)]) (ws := []) X255 (w_2 hw) (w_3 hw) (w_4 hw) (w_5 hw) (by decide) (CtrN.pays (own_draw l Z a0 hw h255 X255.old i4) (w_5 hw) (w_4 hw) (by decide) (by decide)) (fun v h' L q => ⟨q.2, q.1.1⟩) all0 (fun _ => Mark.stay all0) rfl (by rw [hml]; rfl) (lenOf pd_16 rfl) rfl rfl (by show 2 * 0 + _ ≤ _; exact Nat.le_of_eq rfl) (hb hby at_36) (by decide) (by decide) ?_
  intro T256 h256 v256 L256 X256 q256 K256
  obtain ⟨⟨-, d3, rfl, b3⟩, -⟩ := q256
  replace V_b249 := V_b249.ext K256.oExt
  show Goes _ _ _ _ T256 (mkF m 39 #[.val (.int i0), .val (.int i1), .val (.int i2), .val (.int i3), .val (.int i4), .val (.int i5), .val (.int nn), .unset, .unset, .unset, .unset, .unset, .unset, .unset] [(.int d3), (.int (3 : Int32)), (.ref b249), (.ref b249)])
  refine Wk.castore (hm' := fun _ => h0) X256 V_b249 ⟨by decide, by decide⟩ (i := 3) rfl (Nat.le_of_ble_eq_true rfl) gz_b249 (fun _ => Mark.stay (allS gm_b249 all0)) rfl rfl (hb hby at_39) ?_
  intro T257 h257 X257 W257 V257
  clear V_b249; have V_b249 : Arv Z h257 b249 _ .char (4 : Int32) [(.int d0), (.int d1), (.int d2), (.int (nar .char d3))] (.int (0 : Int32)) := V257
  rw [own_narc b3] at V_b249
  show Goes _ _ _ _ T257 (mkF m 40 #[.val (.int i0), .val (.int i1), .val (.int i2), .val (.int i3), .val (.int i4), .val (.int i5), .val (.int nn), .unset, .unset, .unset, .unset, .unset, .unset, .unset] [(.ref b249)])
  refine Goes.go (fun _ kS_ => XS.astore X257.here X257.ex rfl (hb hby at_40) rfl rfl (l' := #[.val (.int i0), .val (.int i1), .val (.int i2), .val (.int i3), .val (.int i4), .val (.int i5), .val (.int nn), .val (.ref b249), .unset, .unset, .unset, .unset, .unset, .unset]) rfl kS_) ?_
  show Goes _ _ _ _ T257 (mkF m 42 #[.val (.int i0), .val (.int i1), .val (.int i2), .val (.int i3), .val (.int i4), .val (.int i5), .val (.int nn), .val (.ref b249), .unset, .unset, .unset, .unset, .unset, .unset] [])
  have hr := own_rem i0 (2147483647 : Int32) (5 : Int32) (by decide) (by decide)
  rw [← hnn] at hr
  obtain ⟨k, hk4, hk⟩ := own_k5 (own_enum5 hr)
  refine Goes.go (fun _ kS_ => XS.iload X257.here X257.ex rfl (hb hby at_42) rfl (XS.aload X257.here X257.ex rfl (hb hby at_44) rfl rfl kS_)) ?_
  show Goes _ _ _ _ T257 (mkF m 46 #[.val (.int i0), .val (.int i1), .val (.int i2), .val (.int i3), .val (.int i4), .val (.int i5), .val (.int nn), .val (.ref b249), .unset, .unset, .unset, .unset, .unset, .unset] [(.ref b249), (.int nn)])
  refine Wk.staticS (y := (⟨"com/example/stubwright/stubwright/ImportSimpleNamePinLaw", "make", "(I[C)Ljava/lang/String;"⟩ : MethodName)) (W := 0) (kc := 3) (ks := 12) (argsL := [(.int nn), (.ref b249)]) (rest := []) (as' := #[(.int nn), (.ref b249)]) (ws := []) X257 (w_6 hw) (w_7 hw) (w_4 hw) (w_8 hw) (by decide) (CtrS.pays (own_make l Z a0 hw hEL h257 X257.old b249 _ d0 d1 d2 d3 G1 k nn hk hk4 O2 P5 V_b249 b0 b1 b2 b3) (w_8 hw) (w_4 hw) (by decide) (by decide) hEL) (fun v h' L q => ⟨q.2, q.1.1⟩) all0 rfl (by rw [hml]; rfl) (lenOf pd_17 rfl) rfl rfl (by show 2 * 0 + _ ≤ _; exact Nat.le_of_eq rfl) (hb hby at_46) (by decide) (by decide) ?_
  intro T258 h258 v258 L258 X258 q258 K258
  obtain ⟨⟨-, a258, rfl, Sa258⟩, -⟩ := q258
  replace V_b249 := V_b249.ext K258.oExt
  show Goes _ _ _ _ T258 (mkF m 49 #[.val (.int i0), .val (.int i1), .val (.int i2), .val (.int i3), .val (.int i4), .val (.int i5), .val (.int nn), .val (.ref b249), .unset, .unset, .unset, .unset, .unset, .unset] [(.ref a258)])
  refine Goes.go (fun _ kS_ => XS.astore X258.here X258.ex rfl (hb hby at_49) rfl rfl (l' := #[.val (.int i0), .val (.int i1), .val (.int i2), .val (.int i3), .val (.int i4), .val (.int i5), .val (.int nn), .val (.ref b249), .val (.ref a258), .unset, .unset, .unset, .unset, .unset]) rfl (XS.iconst X258.here X258.ex rfl (hb hby at_51) (XS.istore X258.here X258.ex rfl (hb hby at_52) rfl (l' := #[.val (.int i0), .val (.int i1), .val (.int i2), .val (.int i3), .val (.int i4), .val (.int i5), .val (.int nn), .val (.ref b249), .val (.ref a258), .val (.int (-1 : Int32)), .unset, .unset, .unset, .unset]) rfl (XS.iload X258.here X258.ex rfl (hb hby at_54) rfl kS_)))) ?_
  show Goes _ _ _ _ T258 (mkF m 56 #[.val (.int i0), .val (.int i1), .val (.int i2), .val (.int i3), .val (.int i4), .val (.int i5), .val (.int nn), .val (.ref b249), .val (.ref a258), .val (.int (-1 : Int32)), .unset, .unset, .unset, .unset] [(.int nn)])
  suffices hJ56 : Goes p.tables e below (EndS Z s consts_1 room_1.cells room_1.slots (fun v h' => v = some (.int (1 : Int32)))) T258 (mkF m 71 #[.val (.int i0), .val (.int i1), .val (.int i2), .val (.int i3), .val (.int i4), .val (.int i5), .val (.int nn), .val (.ref b249), .val (.ref a258), .val (.int (if (0 : Int32) < nn then (if d0 = (46 : Int32) then (0 : Int32) else (-1 : Int32)) else (-1 : Int32))), .unset, .unset, .unset, .unset] []) by
    refine Goes.ifc (pc' := 71) X258.here X258.ex (hb hby at_56) (by decide) (by decide) (fun hr1 => ?_) (fun hr1 => ?_)
    · have hr1 : ¬ ((0 : Int32) < nn) := hr1
      show Goes _ _ _ _ T258 (mkF m 71 #[.val (.int i0), .val (.int i1), .val (.int i2), .val (.int i3), .val (.int i4), .val (.int i5), .val (.int nn), .val (.ref b249), .val (.ref a258), .val (.int (-1 : Int32)), .unset, .unset, .unset, .unset] [])
      (try simp only [if_neg hr1] at hJ56 ⊢)
      exact hJ56
    · have hr1 : (0 : Int32) < nn := Classical.not_not.mp hr1
      show Goes _ _ _ _ T258 (mkF m 59 #[.val (.int i0), .val (.int i1), .val (.int i2), .val (.int i3), .val (.int i4), .val (.int i5), .val (.int nn), .val (.ref b249), .val (.ref a258), .val (.int (-1 : Int32)), .unset, .unset, .unset, .unset] [])
      refine Goes.go (fun _ kS_ => XS.aload X258.here X258.ex rfl (hb hby at_59) rfl rfl (XS.iconst X258.here X258.ex rfl (hb hby at_61) kS_)) ?_
      show Goes _ _ _ _ T258 (mkF m 62 #[.val (.int i0), .val (.int i1), .val (.int i2), .val (.int i3), .val (.int i4), .val (.int i5), .val (.int nn), .val (.ref b249), .val (.ref a258), .val (.int (-1 : Int32)), .unset, .unset, .unset, .unset] [(.int (0 : Int32)), (.ref b249)])
      refine Goes.go (X258.caload V_b249 (j := (0 : Int32)) ⟨by decide, by decide⟩ (v := .int d0) rfl rfl rfl (hb hby at_62)) ?_
      show Goes _ _ _ _ T258 (mkF m 63 #[.val (.int i0), .val (.int i1), .val (.int i2), .val (.int i3), .val (.int i4), .val (.int i5), .val (.int nn), .val (.ref b249), .val (.ref a258), .val (.int (-1 : Int32)), .unset, .unset, .unset, .unset] [(.int d0)])
      refine Goes.go (fun _ kS_ => XS.bipush X258.here X258.ex rfl (hb hby at_63) kS_) ?_
      show Goes _ _ _ _ T258 (mkF m 65 #[.val (.int i0), .val (.int i1), .val (.int i2), .val (.int i3), .val (.int i4), .val (.int i5), .val (.int nn), .val (.ref b249), .val (.ref a258), .val (.int (-1 : Int32)), .unset, .unset, .unset, .unset] [(.int (46 : Int32)), (.int d0)])
      refine Goes.icmp (pc' := 71) X258.here X258.ex (hb hby at_65) (by decide) (by decide) (fun hr2 => ?_) (fun hr2 => ?_)
      · have hr2 : ¬ (d0 = (46 : Int32)) := hr2
        show Goes _ _ _ _ T258 (mkF m 71 #[.val (.int i0), .val (.int i1), .val (.int i2), .val (.int i3), .val (.int i4), .val (.int i5), .val (.int nn), .val (.ref b249), .val (.ref a258), .val (.int (-1 : Int32)), .unset, .unset, .unset, .unset] [])
        (try simp only [if_pos hr1, if_neg hr2] at hJ56 ⊢)
        exact hJ56
      · have hr2 : d0 = (46 : Int32) := Classical.not_not.mp hr2
        show Goes _ _ _ _ T258 (mkF m 68 #[.val (.int i0), .val (.int i1), .val (.int i2), .val (.int i3), .val (.int i4), .val (.int i5), .val (.int nn), .val (.ref b249), .val (.ref a258), .val (.int (-1 : Int32)), .unset, .unset, .unset, .unset] [])
        refine Goes.go (fun _ kS_ => XS.iconst X258.here X258.ex rfl (hb hby at_68) (XS.istore X258.here X258.ex rfl (hb hby at_69) rfl (l' := #[.val (.int i0), .val (.int i1), .val (.int i2), .val (.int i3), .val (.int i4), .val (.int i5), .val (.int nn), .val (.ref b249), .val (.ref a258), .val (.int (0 : Int32)), .unset, .unset, .unset, .unset]) rfl kS_)) ?_
        show Goes _ _ _ _ T258 (mkF m 71 #[.val (.int i0), .val (.int i1), .val (.int i2), .val (.int i3), .val (.int i4), .val (.int i5), .val (.int nn), .val (.ref b249), .val (.ref a258), .val (.int (0 : Int32)), .unset, .unset, .unset, .unset] [])
        (try simp only [if_pos hr1, if_pos hr2] at hJ56 ⊢)
        exact hJ56
  obtain ⟨e1, he1⟩ : ∃ z : Int32, z = (if (0 : Int32) < nn then (if d0 = (46 : Int32) then (0 : Int32) else (-1 : Int32)) else (-1 : Int32)) := ⟨_, rfl⟩
  refine Goes.cast (show (mkF m 71 #[.val (.int i0), .val (.int i1), .val (.int i2), .val (.int i3), .val (.int i4), .val (.int i5), .val (.int nn), .val (.ref b249), .val (.ref a258), .val (.int (if (0 : Int32) < nn then (if d0 = (46 : Int32) then (0 : Int32) else (-1 : Int32)) else (-1 : Int32))), .unset, .unset, .unset, .unset] []) = (mkF m 71 #[.val (.int i0), .val (.int i1), .val (.int i2), .val (.int i3), .val (.int i4), .val (.int i5), .val (.int nn), .val (.ref b249), .val (.ref a258), .val (.int e1), .unset, .unset, .unset, .unset] []) from by rw [he1]) ?_
  show Goes _ _ _ _ T258 (mkF m 71 #[.val (.int i0), .val (.int i1), .val (.int i2), .val (.int i3), .val (.int i4), .val (.int i5), .val (.int nn), .val (.ref b249), .val (.ref a258), .val (.int e1), .unset, .unset, .unset, .unset] [])
  refine Goes.go (fun _ kS_ => XS.iload X258.here X258.ex rfl (hb hby at_71) rfl (XS.iconst X258.here X258.ex rfl (hb hby at_73) kS_)) ?_
  show Goes _ _ _ _ T258 (mkF m 74 #[.val (.int i0), .val (.int i1), .val (.int i2), .val (.int i3), .val (.int i4), .val (.int i5), .val (.int nn), .val (.ref b249), .val (.ref a258), .val (.int e1), .unset, .unset, .unset, .unset] [(.int (1 : Int32)), (.int nn)])
  suffices hJ74 : Goes p.tables e below (EndS Z s consts_1 room_1.cells room_1.slots (fun v h' => v = some (.int (1 : Int32)))) T258 (mkF m 89 #[.val (.int i0), .val (.int i1), .val (.int i2), .val (.int i3), .val (.int i4), .val (.int i5), .val (.int nn), .val (.ref b249), .val (.ref a258), .val (.int (if (1 : Int32) < nn then (if d1 = (46 : Int32) then (1 : Int32) else e1) else e1)), .unset, .unset, .unset, .unset] []) by
    refine Goes.icmp (pc' := 89) X258.here X258.ex (hb hby at_74) (by decide) (by decide) (fun hr1 => ?_) (fun hr1 => ?_)
    · have hr1 : ¬ ((1 : Int32) < nn) := hr1
      show Goes _ _ _ _ T258 (mkF m 89 #[.val (.int i0), .val (.int i1), .val (.int i2), .val (.int i3), .val (.int i4), .val (.int i5), .val (.int nn), .val (.ref b249), .val (.ref a258), .val (.int e1), .unset, .unset, .unset, .unset] [])
      (try simp only [if_neg hr1] at hJ74 ⊢)
      exact hJ74
    · have hr1 : (1 : Int32) < nn := Classical.not_not.mp hr1
      show Goes _ _ _ _ T258 (mkF m 77 #[.val (.int i0), .val (.int i1), .val (.int i2), .val (.int i3), .val (.int i4), .val (.int i5), .val (.int nn), .val (.ref b249), .val (.ref a258), .val (.int e1), .unset, .unset, .unset, .unset] [])
      refine Goes.go (fun _ kS_ => XS.aload X258.here X258.ex rfl (hb hby at_77) rfl rfl (XS.iconst X258.here X258.ex rfl (hb hby at_79) kS_)) ?_
      show Goes _ _ _ _ T258 (mkF m 80 #[.val (.int i0), .val (.int i1), .val (.int i2), .val (.int i3), .val (.int i4), .val (.int i5), .val (.int nn), .val (.ref b249), .val (.ref a258), .val (.int e1), .unset, .unset, .unset, .unset] [(.int (1 : Int32)), (.ref b249)])
      refine Goes.go (X258.caload V_b249 (j := (1 : Int32)) ⟨by decide, by decide⟩ (v := .int d1) rfl rfl rfl (hb hby at_80)) ?_
      show Goes _ _ _ _ T258 (mkF m 81 #[.val (.int i0), .val (.int i1), .val (.int i2), .val (.int i3), .val (.int i4), .val (.int i5), .val (.int nn), .val (.ref b249), .val (.ref a258), .val (.int e1), .unset, .unset, .unset, .unset] [(.int d1)])
      refine Goes.go (fun _ kS_ => XS.bipush X258.here X258.ex rfl (hb hby at_81) kS_) ?_
      show Goes _ _ _ _ T258 (mkF m 83 #[.val (.int i0), .val (.int i1), .val (.int i2), .val (.int i3), .val (.int i4), .val (.int i5), .val (.int nn), .val (.ref b249), .val (.ref a258), .val (.int e1), .unset, .unset, .unset, .unset] [(.int (46 : Int32)), (.int d1)])
      refine Goes.icmp (pc' := 89) X258.here X258.ex (hb hby at_83) (by decide) (by decide) (fun hr2 => ?_) (fun hr2 => ?_)
      · have hr2 : ¬ (d1 = (46 : Int32)) := hr2
        show Goes _ _ _ _ T258 (mkF m 89 #[.val (.int i0), .val (.int i1), .val (.int i2), .val (.int i3), .val (.int i4), .val (.int i5), .val (.int nn), .val (.ref b249), .val (.ref a258), .val (.int e1), .unset, .unset, .unset, .unset] [])
        (try simp only [if_pos hr1, if_neg hr2] at hJ74 ⊢)
        exact hJ74
      · have hr2 : d1 = (46 : Int32) := Classical.not_not.mp hr2
        show Goes _ _ _ _ T258 (mkF m 86 #[.val (.int i0), .val (.int i1), .val (.int i2), .val (.int i3), .val (.int i4), .val (.int i5), .val (.int nn), .val (.ref b249), .val (.ref a258), .val (.int e1), .unset, .unset, .unset, .unset] [])
        refine Goes.go (fun _ kS_ => XS.iconst X258.here X258.ex rfl (hb hby at_86) (XS.istore X258.here X258.ex rfl (hb hby at_87) rfl (l' := #[.val (.int i0), .val (.int i1), .val (.int i2), .val (.int i3), .val (.int i4), .val (.int i5), .val (.int nn), .val (.ref b249), .val (.ref a258), .val (.int (1 : Int32)), .unset, .unset, .unset, .unset]) rfl kS_)) ?_
        show Goes _ _ _ _ T258 (mkF m 89 #[.val (.int i0), .val (.int i1), .val (.int i2), .val (.int i3), .val (.int i4), .val (.int i5), .val (.int nn), .val (.ref b249), .val (.ref a258), .val (.int (1 : Int32)), .unset, .unset, .unset, .unset] [])
        (try simp only [if_pos hr1, if_pos hr2] at hJ74 ⊢)
        exact hJ74
  obtain ⟨e2, he2⟩ : ∃ z : Int32, z = (if (1 : Int32) < nn then (if d1 = (46 : Int32) then (1 : Int32) else e1) else e1) := ⟨_, rfl⟩
  refine Goes.cast (show (mkF m 89 #[.val (.int i0), .val (.int i1), .val (.int i2), .val (.int i3), .val (.int i4), .val (.int i5), .val (.int nn), .val (.ref b249), .val (.ref a258), .val (.int (if (1 : Int32) < nn then (if d1 = (46 : Int32) then (1 : Int32) else e1) else e1)), .unset, .unset, .unset, .unset] []) = (mkF m 89 #[.val (.int i0), .val (.int i1), .val (.int i2), .val (.int i3), .val (.int i4), .val (.int i5), .val (.int nn), .val (.ref b249), .val (.ref a258), .val (.int e2), .unset, .unset, .unset, .unset] []) from by rw [he2]) ?_
  show Goes _ _ _ _ T258 (mkF m 89 #[.val (.int i0), .val (.int i1), .val (.int i2), .val (.int i3), .val (.int i4), .val (.int i5), .val (.int nn), .val (.ref b249), .val (.ref a258), .val (.int e2), .unset, .unset, .unset, .unset] [])
  refine Goes.go (fun _ kS_ => XS.iload X258.here X258.ex rfl (hb hby at_89) rfl (XS.iconst X258.here X258.ex rfl (hb hby at_91) kS_)) ?_
  show Goes _ _ _ _ T258 (mkF m 92 #[.val (.int i0), .val (.int i1), .val (.int i2), .val (.int i3), .val (.int i4), .val (.int i5), .val (.int nn), .val (.ref b249), .val (.ref a258), .val (.int e2), .unset, .unset, .unset, .unset] [(.int (2 : Int32)), (.int nn)])
  suffices hJ92 : Goes p.tables e below (EndS Z s consts_1 room_1.cells room_1.slots (fun v h' => v = some (.int (1 : Int32)))) T258 (mkF m 107 #[.val (.int i0), .val (.int i1), .val (.int i2), .val (.int i3), .val (.int i4), .val (.int i5), .val (.int nn), .val (.ref b249), .val (.ref a258), .val (.int (if (2 : Int32) < nn then (if d2 = (46 : Int32) then (2 : Int32) else e2) else e2)), .unset, .unset, .unset, .unset] []) by
    refine Goes.icmp (pc' := 107) X258.here X258.ex (hb hby at_92) (by decide) (by decide) (fun hr1 => ?_) (fun hr1 => ?_)
    · have hr1 : ¬ ((2 : Int32) < nn) := hr1
      show Goes _ _ _ _ T258 (mkF m 107 #[.val (.int i0), .val (.int i1), .val (.int i2), .val (.int i3), .val (.int i4), .val (.int i5), .val (.int nn), .val (.ref b249), .val (.ref a258), .val (.int e2), .unset, .unset, .unset, .unset] [])
      (try simp only [if_neg hr1] at hJ92 ⊢)
      exact hJ92
    · have hr1 : (2 : Int32) < nn := Classical.not_not.mp hr1
      show Goes _ _ _ _ T258 (mkF m 95 #[.val (.int i0), .val (.int i1), .val (.int i2), .val (.int i3), .val (.int i4), .val (.int i5), .val (.int nn), .val (.ref b249), .val (.ref a258), .val (.int e2), .unset, .unset, .unset, .unset] [])
      refine Goes.go (fun _ kS_ => XS.aload X258.here X258.ex rfl (hb hby at_95) rfl rfl (XS.iconst X258.here X258.ex rfl (hb hby at_97) kS_)) ?_
      show Goes _ _ _ _ T258 (mkF m 98 #[.val (.int i0), .val (.int i1), .val (.int i2), .val (.int i3), .val (.int i4), .val (.int i5), .val (.int nn), .val (.ref b249), .val (.ref a258), .val (.int e2), .unset, .unset, .unset, .unset] [(.int (2 : Int32)), (.ref b249)])
      refine Goes.go (X258.caload V_b249 (j := (2 : Int32)) ⟨by decide, by decide⟩ (v := .int d2) rfl rfl rfl (hb hby at_98)) ?_
      show Goes _ _ _ _ T258 (mkF m 99 #[.val (.int i0), .val (.int i1), .val (.int i2), .val (.int i3), .val (.int i4), .val (.int i5), .val (.int nn), .val (.ref b249), .val (.ref a258), .val (.int e2), .unset, .unset, .unset, .unset] [(.int d2)])
      refine Goes.go (fun _ kS_ => XS.bipush X258.here X258.ex rfl (hb hby at_99) kS_) ?_
      show Goes _ _ _ _ T258 (mkF m 101 #[.val (.int i0), .val (.int i1), .val (.int i2), .val (.int i3), .val (.int i4), .val (.int i5), .val (.int nn), .val (.ref b249), .val (.ref a258), .val (.int e2), .unset, .unset, .unset, .unset] [(.int (46 : Int32)), (.int d2)])
      refine Goes.icmp (pc' := 107) X258.here X258.ex (hb hby at_101) (by decide) (by decide) (fun hr2 => ?_) (fun hr2 => ?_)
      · have hr2 : ¬ (d2 = (46 : Int32)) := hr2
        show Goes _ _ _ _ T258 (mkF m 107 #[.val (.int i0), .val (.int i1), .val (.int i2), .val (.int i3), .val (.int i4), .val (.int i5), .val (.int nn), .val (.ref b249), .val (.ref a258), .val (.int e2), .unset, .unset, .unset, .unset] [])
        (try simp only [if_pos hr1, if_neg hr2] at hJ92 ⊢)
        exact hJ92
      · have hr2 : d2 = (46 : Int32) := Classical.not_not.mp hr2
        show Goes _ _ _ _ T258 (mkF m 104 #[.val (.int i0), .val (.int i1), .val (.int i2), .val (.int i3), .val (.int i4), .val (.int i5), .val (.int nn), .val (.ref b249), .val (.ref a258), .val (.int e2), .unset, .unset, .unset, .unset] [])
        refine Goes.go (fun _ kS_ => XS.iconst X258.here X258.ex rfl (hb hby at_104) (XS.istore X258.here X258.ex rfl (hb hby at_105) rfl (l' := #[.val (.int i0), .val (.int i1), .val (.int i2), .val (.int i3), .val (.int i4), .val (.int i5), .val (.int nn), .val (.ref b249), .val (.ref a258), .val (.int (2 : Int32)), .unset, .unset, .unset, .unset]) rfl kS_)) ?_
        show Goes _ _ _ _ T258 (mkF m 107 #[.val (.int i0), .val (.int i1), .val (.int i2), .val (.int i3), .val (.int i4), .val (.int i5), .val (.int nn), .val (.ref b249), .val (.ref a258), .val (.int (2 : Int32)), .unset, .unset, .unset, .unset] [])
        (try simp only [if_pos hr1, if_pos hr2] at hJ92 ⊢)
        exact hJ92
  obtain ⟨e3, he3⟩ : ∃ z : Int32, z = (if (2 : Int32) < nn then (if d2 = (46 : Int32) then (2 : Int32) else e2) else e2) := ⟨_, rfl⟩
  refine Goes.cast (show (mkF m 107 #[.val (.int i0), .val (.int i1), .val (.int i2), .val (.int i3), .val (.int i4), .val (.int i5), .val (.int nn), .val (.ref b249), .val (.ref a258), .val (.int (if (2 : Int32) < nn then (if d2 = (46 : Int32) then (2 : Int32) else e2) else e2)), .unset, .unset, .unset, .unset] []) = (mkF m 107 #[.val (.int i0), .val (.int i1), .val (.int i2), .val (.int i3), .val (.int i4), .val (.int i5), .val (.int nn), .val (.ref b249), .val (.ref a258), .val (.int e3), .unset, .unset, .unset, .unset] []) from by rw [he3]) ?_
  show Goes _ _ _ _ T258 (mkF m 107 #[.val (.int i0), .val (.int i1), .val (.int i2), .val (.int i3), .val (.int i4), .val (.int i5), .val (.int nn), .val (.ref b249), .val (.ref a258), .val (.int e3), .unset, .unset, .unset, .unset] [])
  refine Goes.go (fun _ kS_ => XS.iload X258.here X258.ex rfl (hb hby at_107) rfl (XS.iconst X258.here X258.ex rfl (hb hby at_109) kS_)) ?_
  show Goes _ _ _ _ T258 (mkF m 110 #[.val (.int i0), .val (.int i1), .val (.int i2), .val (.int i3), .val (.int i4), .val (.int i5), .val (.int nn), .val (.ref b249), .val (.ref a258), .val (.int e3), .unset, .unset, .unset, .unset] [(.int (3 : Int32)), (.int nn)])
  suffices hJ110 : Goes p.tables e below (EndS Z s consts_1 room_1.cells room_1.slots (fun v h' => v = some (.int (1 : Int32)))) T258 (mkF m 125 #[.val (.int i0), .val (.int i1), .val (.int i2), .val (.int i3), .val (.int i4), .val (.int i5), .val (.int nn), .val (.ref b249), .val (.ref a258), .val (.int (if (3 : Int32) < nn then (if d3 = (46 : Int32) then (3 : Int32) else e3) else e3)), .unset, .unset, .unset, .unset] []) by
    refine Goes.icmp (pc' := 125) X258.here X258.ex (hb hby at_110) (by decide) (by decide) (fun hr1 => ?_) (fun hr1 => ?_)
    · have hr1 : ¬ ((3 : Int32) < nn) := hr1
      show Goes _ _ _ _ T258 (mkF m 125 #[.val (.int i0), .val (.int i1), .val (.int i2), .val (.int i3), .val (.int i4), .val (.int i5), .val (.int nn), .val (.ref b249), .val (.ref a258), .val (.int e3), .unset, .unset, .unset, .unset] [])
      (try simp only [if_neg hr1] at hJ110 ⊢)
      exact hJ110
    · have hr1 : (3 : Int32) < nn := Classical.not_not.mp hr1
      show Goes _ _ _ _ T258 (mkF m 113 #[.val (.int i0), .val (.int i1), .val (.int i2), .val (.int i3), .val (.int i4), .val (.int i5), .val (.int nn), .val (.ref b249), .val (.ref a258), .val (.int e3), .unset, .unset, .unset, .unset] [])
      refine Goes.go (fun _ kS_ => XS.aload X258.here X258.ex rfl (hb hby at_113) rfl rfl (XS.iconst X258.here X258.ex rfl (hb hby at_115) kS_)) ?_
      show Goes _ _ _ _ T258 (mkF m 116 #[.val (.int i0), .val (.int i1), .val (.int i2), .val (.int i3), .val (.int i4), .val (.int i5), .val (.int nn), .val (.ref b249), .val (.ref a258), .val (.int e3), .unset, .unset, .unset, .unset] [(.int (3 : Int32)), (.ref b249)])
      refine Goes.go (X258.caload V_b249 (j := (3 : Int32)) ⟨by decide, by decide⟩ (v := .int d3) rfl rfl rfl (hb hby at_116)) ?_
      show Goes _ _ _ _ T258 (mkF m 117 #[.val (.int i0), .val (.int i1), .val (.int i2), .val (.int i3), .val (.int i4), .val (.int i5), .val (.int nn), .val (.ref b249), .val (.ref a258), .val (.int e3), .unset, .unset, .unset, .unset] [(.int d3)])
      refine Goes.go (fun _ kS_ => XS.bipush X258.here X258.ex rfl (hb hby at_117) kS_) ?_
      show Goes _ _ _ _ T258 (mkF m 119 #[.val (.int i0), .val (.int i1), .val (.int i2), .val (.int i3), .val (.int i4), .val (.int i5), .val (.int nn), .val (.ref b249), .val (.ref a258), .val (.int e3), .unset, .unset, .unset, .unset] [(.int (46 : Int32)), (.int d3)])
      refine Goes.icmp (pc' := 125) X258.here X258.ex (hb hby at_119) (by decide) (by decide) (fun hr2 => ?_) (fun hr2 => ?_)
      · have hr2 : ¬ (d3 = (46 : Int32)) := hr2
        show Goes _ _ _ _ T258 (mkF m 125 #[.val (.int i0), .val (.int i1), .val (.int i2), .val (.int i3), .val (.int i4), .val (.int i5), .val (.int nn), .val (.ref b249), .val (.ref a258), .val (.int e3), .unset, .unset, .unset, .unset] [])
        (try simp only [if_pos hr1, if_neg hr2] at hJ110 ⊢)
        exact hJ110
      · have hr2 : d3 = (46 : Int32) := Classical.not_not.mp hr2
        show Goes _ _ _ _ T258 (mkF m 122 #[.val (.int i0), .val (.int i1), .val (.int i2), .val (.int i3), .val (.int i4), .val (.int i5), .val (.int nn), .val (.ref b249), .val (.ref a258), .val (.int e3), .unset, .unset, .unset, .unset] [])
        refine Goes.go (fun _ kS_ => XS.iconst X258.here X258.ex rfl (hb hby at_122) (XS.istore X258.here X258.ex rfl (hb hby at_123) rfl (l' := #[.val (.int i0), .val (.int i1), .val (.int i2), .val (.int i3), .val (.int i4), .val (.int i5), .val (.int nn), .val (.ref b249), .val (.ref a258), .val (.int (3 : Int32)), .unset, .unset, .unset, .unset]) rfl kS_)) ?_
        show Goes _ _ _ _ T258 (mkF m 125 #[.val (.int i0), .val (.int i1), .val (.int i2), .val (.int i3), .val (.int i4), .val (.int i5), .val (.int nn), .val (.ref b249), .val (.ref a258), .val (.int (3 : Int32)), .unset, .unset, .unset, .unset] [])
        (try simp only [if_pos hr1, if_pos hr2] at hJ110 ⊢)
        exact hJ110
  obtain ⟨e4, he4⟩ : ∃ z : Int32, z = (if (3 : Int32) < nn then (if d3 = (46 : Int32) then (3 : Int32) else e3) else e3) := ⟨_, rfl⟩
  refine Goes.cast (show (mkF m 125 #[.val (.int i0), .val (.int i1), .val (.int i2), .val (.int i3), .val (.int i4), .val (.int i5), .val (.int nn), .val (.ref b249), .val (.ref a258), .val (.int (if (3 : Int32) < nn then (if d3 = (46 : Int32) then (3 : Int32) else e3) else e3)), .unset, .unset, .unset, .unset] []) = (mkF m 125 #[.val (.int i0), .val (.int i1), .val (.int i2), .val (.int i3), .val (.int i4), .val (.int i5), .val (.int nn), .val (.ref b249), .val (.ref a258), .val (.int e4), .unset, .unset, .unset, .unset] []) from by rw [he4]) ?_
  show Goes _ _ _ _ T258 (mkF m 125 #[.val (.int i0), .val (.int i1), .val (.int i2), .val (.int i3), .val (.int i4), .val (.int i5), .val (.int nn), .val (.ref b249), .val (.ref a258), .val (.int e4), .unset, .unset, .unset, .unset] [])
  have hl : e4 = own_last (([d0, d1, d2, d3] : List Int32).take k) := own_e4 hk4 hk he1 he2 he3 he4
  have hl4 : (([d0, d1, d2, d3] : List Int32).take k).length ≤ 4 := by rw [own_tk hk4]; exact hk4
  obtain ⟨s1, hs⟩ : ∃ z : Nat, z = own_sN (([d0, d1, d2, d3] : List Int32).take k) := ⟨_, rfl⟩
  have hss := own_last_s (([d0, d1, d2, d3] : List Int32).take k) hl4
  rw [← hs, ← hl] at hss
  refine Goes.go (fun _ kS_ => XS.iload X258.here X258.ex rfl (hb hby at_125) rfl (XS.iconst X258.here X258.ex rfl (hb hby at_127) (XS.iadd X258.here X258.ex rfl (hb hby at_128) rfl (XS.istore X258.here X258.ex rfl (hb hby at_129) rfl (l' := #[.val (.int i0), .val (.int i1), .val (.int i2), .val (.int i3), .val (.int i4), .val (.int i5), .val (.int nn), .val (.ref b249), .val (.ref a258), .val (.int e4), .val (.int (e4 + (1 : Int32))), .unset, .unset, .unset]) rfl kS_)))) ?_
  show Goes _ _ _ _ T258 (mkF m 131 #[.val (.int i0), .val (.int i1), .val (.int i2), .val (.int i3), .val (.int i4), .val (.int i5), .val (.int nn), .val (.ref b249), .val (.ref a258), .val (.int e4), .val (.int (e4 + (1 : Int32))), .unset, .unset, .unset] [])
  obtain ⟨o1, ho1⟩ : ∃ z : Int32, z = (e4 + (1 : Int32)) := ⟨_, rfl⟩
  refine Goes.cast (show (mkF m 131 #[.val (.int i0), .val (.int i1), .val (.int i2), .val (.int i3), .val (.int i4), .val (.int i5), .val (.int nn), .val (.ref b249), .val (.ref a258), .val (.int e4), .val (.int (e4 + (1 : Int32))), .unset, .unset, .unset] []) = (mkF m 131 #[.val (.int i0), .val (.int i1), .val (.int i2), .val (.int i3), .val (.int i4), .val (.int i5), .val (.int nn), .val (.ref b249), .val (.ref a258), .val (.int e4), .val (.int o1), .unset, .unset, .unset] []) from by rw [ho1]) ?_
  show Goes _ _ _ _ T258 (mkF m 131 #[.val (.int i0), .val (.int i1), .val (.int i2), .val (.int i3), .val (.int i4), .val (.int i5), .val (.int nn), .val (.ref b249), .val (.ref a258), .val (.int e4), .val (.int o1), .unset, .unset, .unset] [])
  refine Goes.go (fun _ kS_ => XS.iload X258.here X258.ex rfl (hb hby at_131) rfl (XS.iload X258.here X258.ex rfl (hb hby at_133) rfl (XS.isub X258.here X258.ex rfl (hb hby at_135) rfl (XS.istore X258.here X258.ex rfl (hb hby at_136) rfl (l' := #[.val (.int i0), .val (.int i1), .val (.int i2), .val (.int i3), .val (.int i4), .val (.int i5), .val (.int nn), .val (.ref b249), .val (.ref a258), .val (.int e4), .val (.int o1), .val (.int (nn - o1)), .unset, .unset]) rfl kS_)))) ?_
  show Goes _ _ _ _ T258 (mkF m 138 #[.val (.int i0), .val (.int i1), .val (.int i2), .val (.int i3), .val (.int i4), .val (.int i5), .val (.int nn), .val (.ref b249), .val (.ref a258), .val (.int e4), .val (.int o1), .val (.int (nn - o1)), .unset, .unset] [])
  obtain ⟨mm, hmm⟩ : ∃ z : Int32, z = (nn - o1) := ⟨_, rfl⟩
  refine Goes.cast (show (mkF m 138 #[.val (.int i0), .val (.int i1), .val (.int i2), .val (.int i3), .val (.int i4), .val (.int i5), .val (.int nn), .val (.ref b249), .val (.ref a258), .val (.int e4), .val (.int o1), .val (.int (nn - o1)), .unset, .unset] []) = (mkF m 138 #[.val (.int i0), .val (.int i1), .val (.int i2), .val (.int i3), .val (.int i4), .val (.int i5), .val (.int nn), .val (.ref b249), .val (.ref a258), .val (.int e4), .val (.int o1), .val (.int mm), .unset, .unset] []) from by rw [hmm]) ?_
  show Goes _ _ _ _ T258 (mkF m 138 #[.val (.int i0), .val (.int i1), .val (.int i2), .val (.int i3), .val (.int i4), .val (.int i5), .val (.int nn), .val (.ref b249), .val (.ref a258), .val (.int e4), .val (.int o1), .val (.int mm), .unset, .unset] [])
  have ho : o1 = Int32.ofNat s1 := ho1.trans hss.1
  have hsk : s1 ≤ k := by have q := hss.2; rw [own_tk hk4] at q; exact q
  have hlen : ((([d0, d1, d2, d3] : List Int32).take k).drop s1).length = k - s1 := by rw [List.length_drop, own_tk hk4]
  have hm : mm = Int32.ofNat ((([d0, d1, d2, d3] : List Int32).take k).drop s1).length := by rw [hlen, ← own_f5 hsk hk4, ← hk, ← ho]; exact hmm
  have X259 := X258.mark
  refine Wk.new X259 (w_17 hw) (w_18 hw) (w_19 hw) rfl (hb hby at_138) (by decide) (by decide) ?_
  intro T260 h260 a260 g260 X260 E260 A260 D260
  have gz_a260 : Z.heap.size ≤ a260 := g260 ▸ X259.old.1
  have gm_a260 : h258.size ≤ a260 := g260 ▸ X259.ext.1
  have F_a260_position : Fld Z h260 a260 "com/example/stubwright/stubwright/Document$Import" "position" "Lcom/example/stubwright/stubwright/Position;" .null := D260 (Or.inr (w_43 hw)) (ty := (.object "com/example/stubwright/stubwright/Position")) (by decide)
  have F_a260_name : Fld Z h260 a260 "com/example/stubwright/stubwright/Document$Import" "name" "Ljava/lang/String;" .null := D260 (Or.inr (w_45 hw)) (ty := (.object "java/lang/String")) (by decide)
  clear D260
  show Goes _ _ _ _ T260 (mkF m 141 #[.val (.int i0), .val (.int i1), .val (.int i2), .val (.int i3), .val (.int i4), .val (.int i5), .val (.int nn), .val (.ref b249), .val (.ref a258), .val (.int e4), .val (.int o1), .val (.int mm), .unset, .unset] [(.ref a260)])
  refine Goes.go (fun _ kS_ => XS.dup X260.here X260.ex rfl (hb hby at_141) rfl rfl kS_) ?_
  show Goes _ _ _ _ T260 (mkF m 142 #[.val (.int i0), .val (.int i1), .val (.int i2), .val (.int i3), .val (.int i4), .val (.int i5), .val (.int nn), .val (.ref b249), .val (.ref a258), .val (.int e4), .val (.int o1), .val (.int mm), .unset, .unset] [(.ref a260), (.ref a260)])
  refine Wk.new X260 (w_20 hw) (w_21 hw) (w_22 hw) rfl (hb hby at_142) (by decide) (by decide) ?_
  intro T261 h261 a261 g261 X261 E261 A261 D261
  have lt_a260_a261 : a260 < a261 := by rw [g261]; exact A260.lt
  replace A260 := A260.ext E261
  replace F_a260_position := F_a260_position.ext E261
  replace F_a260_name := F_a260_name.ext E261
  have gz_a261 : Z.heap.size ≤ a261 := g261 ▸ X260.old.1
  have gm_a261 : h258.size ≤ a261 := g261 ▸ X260.ext.1
  have F_a261_line : Fld Z h261 a261 "com/example/stubwright/stubwright/Position" "line" "I" (.int (0 : Int32)) := D261 (Or.inr (w_35 hw)) (ty := .int) (by decide)
  have F_a261_column : Fld Z h261 a261 "com/example/stubwright/stubwright/Position" "column" "I" (.int (0 : Int32)) := D261 (Or.inr (w_37 hw)) (ty := .int) (by decide)
  clear D261
  show Goes _ _ _ _ T261 (mkF m 145 #[.val (.int i0), .val (.int i1), .val (.int i2), .val (.int i3), .val (.int i4), .val (.int i5), .val (.int nn), .val (.ref b249), .val (.ref a258), .val (.int e4), .val (.int o1), .val (.int mm), .unset, .unset] [(.ref a261), (.ref a260), (.ref a260)])
  refine Goes.go (fun _ kS_ => XS.dup X261.here X261.ex rfl (hb hby at_145) rfl rfl (XS.iload X261.here X261.ex rfl (hb hby at_146) rfl (XS.iload X261.here X261.ex rfl (hb hby at_148) rfl (XS.iloadN X261.here X261.ex rfl (hb hby at_150) rfl (XS.ixor X261.here X261.ex rfl (hb hby at_151) rfl kS_))))) ?_
  show Goes _ _ _ _ T261 (mkF m 152 #[.val (.int i0), .val (.int i1), .val (.int i2), .val (.int i3), .val (.int i4), .val (.int i5), .val (.int nn), .val (.ref b249), .val (.ref a258), .val (.int e4), .val (.int o1), .val (.int mm), .unset, .unset] [(.int (i5 ^^^ i0)), (.int i5), (.ref a261), (.ref a261), (.ref a260), (.ref a260)])
  refine Wk.special (hm' := fun _ => h258) (y := (⟨"com/example/stubwright/stubwright/Position", "<init>", "(II)V"⟩ : MethodName)) (W := 3) (kc := 0) (ks := 0) (argsL := [(.int i5), (.int (i5 ^^^ i0))]) (rest := [(.ref a261), (.ref a260), (.ref a260)]) (as' := #[(.ref a261), (.int i5), (.int (i5 ^^^ i0))]) (ws := [a261]) X261 rfl (w_23 hw) (w_24 hw) (w_25 hw) (by decide) (CtrN.pays (own_pos l Z a0 hw h261 X261.old a261 i5 (i5 ^^^ i0) A261 F_a261_line F_a261_column gz_a261) (w_25 hw) (w_22 hw) (by decide) (by decide)) (fun v h' L q => ⟨q.2, q.1.1⟩) (allS gz_a261 all0) (fun _ => Mark.stay (allS gm_a261 all0)) rfl (by rw [hml]; rfl) (lenOf pd_6 rfl) rfl rfl (by show 2 * 0 + _ ≤ _; exact Nat.le_of_eq rfl) (hb hby at_152) (by decide) (by decide) ?_
  intro T262 h262 v262 L262 X262 q262 K262
  obtain ⟨⟨-, rfl, -, -⟩, -⟩ := q262
  replace A260 := A260.keep K262
  replace F_a260_position := F_a260_position.keep K262 (ninS (Nat.ne_of_lt lt_a260_a261) nin0)
  replace F_a260_name := F_a260_name.keep K262 (ninS (Nat.ne_of_lt lt_a260_a261) nin0)
  show Goes _ _ _ _ T262 (mkF m 155 #[.val (.int i0), .val (.int i1), .val (.int i2), .val (.int i3), .val (.int i4), .val (.int i5), .val (.int nn), .val (.ref b249), .val (.ref a258), .val (.int e4), .val (.int o1), .val (.int mm), .unset, .unset] [(.ref a261), (.ref a260), (.ref a260)])
  refine Goes.go (fun _ kS_ => XS.aload X262.here X262.ex rfl (hb hby at_155) rfl rfl kS_) ?_
  show Goes _ _ _ _ T262 (mkF m 157 #[.val (.int i0), .val (.int i1), .val (.int i2), .val (.int i3), .val (.int i4), .val (.int i5), .val (.int nn), .val (.ref b249), .val (.ref a258), .val (.int e4), .val (.int o1), .val (.int mm), .unset, .unset] [(.ref a258), (.ref a261), (.ref a260), (.ref a260)])
  refine Wk.special (hm' := fun _ => h258) (y := (⟨"com/example/stubwright/stubwright/Document$Import", "<init>", "(Lcom/example/stubwright/stubwright/Position;Ljava/lang/String;)V"⟩ : MethodName)) (W := 1) (kc := 0) (ks := 0) (argsL := [(.ref a261), (.ref a258)]) (rest := [(.ref a260)]) (as' := #[(.ref a260), (.ref a261), (.ref a258)]) (ws := [a260]) X262 rfl (w_38 hw) (w_39 hw) (w_40 hw) (by decide) (CtrN.pays (own_imp l Z a0 hw h262 X262.old a260 a261 a258 A260 F_a260_position F_a260_name gz_a260) (w_40 hw) (w_19 hw) (by decide) (by decide)) (fun v h' L q => ⟨q.2, q.1.1⟩) (allS gz_a260 all0) (fun _ => Mark.stay (allS gm_a260 all0)) rfl (by rw [hml]; rfl) (lenOf pd_18 rfl) rfl rfl (by show 2 * 0 + _ ≤ _; exact Nat.le_of_eq rfl) (hb hby at_157) (by decide) (by decide) ?_
  intro T263 h263 v263 L263 X263 q263 K263
  obtain ⟨⟨-, rfl, Ex263, Fn263⟩, -⟩ := q263
  show Goes _ _ _ _ T263 (mkF m 160 #[.val (.int i0), .val (.int i1), .val (.int i2), .val (.int i3), .val (.int i4), .val (.int i5), .val (.int nn), .val (.ref b249), .val (.ref a258), .val (.int e4), .val (.int o1), .val (.int mm), .unset, .unset] [(.ref a260)])
  replace V_b249 := V_b249.ext X263.ext
  replace Sa258 := Sa258.ext X263.ext
  refine Goes.go (fun _ kS_ => XS.astore X263.here X263.ex rfl (hb hby at_160) rfl rfl (l' := #[.val (.int i0), .val (.int i1), .val (.int i2), .val (.int i3), .val (.int i4), .val (.int i5), .val (.int nn), .val (.ref b249), .val (.ref a258), .val (.int e4), .val (.int o1), .val (.int mm), .val (.ref a260), .unset]) rfl (XS.aload X263.here X263.ex rfl (hb hby at_162) rfl rfl kS_)) ?_
  show Goes _ _ _ _ T263 (mkF m 164 #[.val (.int i0), .val (.int i1), .val (.int i2), .val (.int i3), .val (.int i4), .val (.int i5), .val (.int nn), .val (.ref b249), .val (.ref a258), .val (.int e4), .val (.int o1), .val (.int mm), .val (.ref a260), .unset] [(.ref a260)])
  refine Wk.virtualS (C := "com/example/stubwright/stubwright/Document$Import") (y := (⟨"com/example/stubwright/stubwright/Document$Import", "simpleName", "()Ljava/lang/String;"⟩ : MethodName)) (z := (⟨"com/example/stubwright/stubwright/Document$Import", "simpleName", "()Ljava/lang/String;"⟩ : MethodName)) (W := 0) (kc := 2) (ks := 7) (argsL := []) (rest := []) (as' := #[(.ref a260)]) (ws := []) X263 (w_46 hw) (w_47 hw) (w_49 hw) (w_48 hw) (by decide) Ex263 (nf_sel (w_49 hw)) (CtrS.pays (own_sn l Z a0 hw hEL h263 X263.old a260 a258 G1 G3 (([d0, d1, d2, d3] : List Int32).take k) O2 P5 O4 rG3 Fn263 Sa258 hl4) (w_50 hw) (w_19 hw) (by decide) (by decide) hEL) (fun v h' L q => ⟨q.2, q.1.1⟩) all0 rfl (by rw [hml]; rfl) (lenOf pd_19 rfl) rfl rfl (by show 2 * 0 + _ ≤ _; exact Nat.le_of_eq rfl) (hb hby at_164) (by decide) (by decide) ?_
  intro T264 h264 v264 L264 X264 q264 K264
  obtain ⟨⟨-, r264, rfl, Sr264⟩, -⟩ := q264
  replace V_b249 := V_b249.ext K264.oExt
  replace Sa258 := Sa258.ext K264.oExt
  replace Ex263 := Ex263.ext K264.oExt
  replace Fn263 := Fn263.ext K264.oExt
  show Goes _ _ _ _ T264 (mkF m 167 #[.val (.int i0), .val (.int i1), .val (.int i2), .val (.int i3), .val (.int i4), .val (.int i5), .val (.int nn), .val (.ref b249), .val (.ref a258), .val (.int e4), .val (.int o1), .val (.int mm), .val (.ref a260), .unset] [(.ref r264)])
  rw [← hs] at Sr264
  refine Goes.go (fun _ kS_ => XS.astore X264.here X264.ex rfl (hb hby at_167) rfl rfl (l' := #[.val (.int i0), .val (.int i1), .val (.int i2), .val (.int i3), .val (.int i4), .val (.int i5), .val (.int nn), .val (.ref b249), .val (.ref a258), .val (.int e4), .val (.int o1), .val (.int mm), .val (.ref a260), .val (.ref r264)]) rfl (XS.aload X264.here X264.ex rfl (hb hby at_169) rfl rfl kS_)) ?_
  show Goes _ _ _ _ T264 (mkF m 171 #[.val (.int i0), .val (.int i1), .val (.int i2), .val (.int i3), .val (.int i4), .val (.int i5), .val (.int nn), .val (.ref b249), .val (.ref a258), .val (.int e4), .val (.int o1), .val (.int mm), .val (.ref a260), .val (.ref r264)] [(.ref r264)])
  refine Wk.virtual (hm' := fun _ => h264) (C := "java/lang/String") (y := (⟨"java/lang/String", "length", "()I"⟩ : MethodName)) (z := (⟨"java/lang/String", "length", "()I"⟩ : MethodName)) (W := 0) (kc := 0) (ks := 0) (argsL := []) (rest := []) (as' := #[(.ref r264)]) (ws := []) X264 (w_108 hw) (w_57 hw) (w_59 hw) (w_58 hw) (by decide) Sr264.1 (nf_sel (w_59 hw)) (own_lenP (own_wsLen hw) (kI := 4) (w_11 hw) Sr264 O2 P5 X264.old (by decide) (by decide)) (fun v h' L q => ⟨by rw [q.2.1]; exact Fr.nil _, by rw [q.2.2]; exact Keep.refl _ _⟩) all0 (fun _ => Mark.stay all0) rfl (by rw [hml]; rfl) (lenOf pd_4 rfl) rfl rfl (by show 2 * 0 + _ ≤ _; exact Nat.le_of_eq rfl) (hb hby at_171) (by decide) (by decide) ?_
  intro T265 h265 v265 L265 X265 q265 K265
  obtain ⟨rfl, -, -⟩ := q265
  replace V_b249 := V_b249.ext K265.oExt
  replace Sa258 := Sa258.ext K265.oExt
  replace Ex263 := Ex263.ext K265.oExt
  replace Fn263 := Fn263.ext K265.oExt
  replace Sr264 := Sr264.ext K265.oExt
  show Goes _ _ _ _ T265 (mkF m 174 #[.val (.int i0), .val (.int i1), .val (.int i2), .val (.int i3), .val (.int i4), .val (.int i5), .val (.int nn), .val (.ref b249), .val (.ref a258), .val (.int e4), .val (.int o1), .val (.int mm), .val (.ref a260), .val (.ref r264)] [(.int (Int32.ofNat ((([d0, d1, d2, d3] : List Int32).take k).drop s1).length))])
  refine Goes.go (fun _ kS_ => XS.iload X265.here X265.ex rfl (hb hby at_174) rfl kS_) ?_
  show Goes _ _ _ _ T265 (mkF m 176 #[.val (.int i0), .val (.int i1), .val (.int i2), .val (.int i3), .val (.int i4), .val (.int i5), .val (.int nn), .val (.ref b249), .val (.ref a258), .val (.int e4), .val (.int o1), .val (.int mm), .val (.ref a260), .val (.ref r264)] [(.int mm), (.int (Int32.ofNat ((([d0, d1, d2, d3] : List Int32).take k).drop s1).length))])
  refine Goes.go (fun _ kS_ => XS.icmpYes X265.here X265.ex rfl (pc0 := 176) (pc' := 181) rfl (hb hby at_176) rfl (cd_t (cd := .eq) (x := (Int32.ofNat ((([d0, d1, d2, d3] : List Int32).take k).drop s1).length)) (y := mm) (hm.symm)) (by decide) (by decide) kS_) ?_
  show Goes _ _ _ _ T265 (mkF m 181 #[.val (.int i0), .val (.int i1), .val (.int i2), .val (.int i3), .val (.int i4), .val (.int i5), .val (.int nn), .val (.ref b249), .val (.ref a258), .val (.int e4), .val (.int o1), .val (.int mm), .val (.ref a260), .val (.ref r264)] [])
  refine Goes.go (fun _ kS_ => XS.aload X265.here X265.ex rfl (hb hby at_181) rfl rfl (XS.iconst X265.here X265.ex rfl (hb hby at_183) (XS.iload X265.here X265.ex rfl (hb hby at_184) rfl (XS.aload X265.here X265.ex rfl (hb hby at_186) rfl rfl (XS.iload X265.here X265.ex rfl (hb hby at_188) rfl kS_))))) ?_
  show Goes _ _ _ _ T265 (mkF m 190 #[.val (.int i0), .val (.int i1), .val (.int i2), .val (.int i3), .val (.int i4), .val (.int i5), .val (.int nn), .val (.ref b249), .val (.ref a258), .val (.int e4), .val (.int o1), .val (.int mm), .val (.ref a260), .val (.ref r264)] [(.int o1), (.ref b249), (.int mm), (.int (0 : Int32)), (.ref r264)])
  refine Wk.static (hm' := fun _ => h264) (y := (⟨"com/example/stubwright/stubwright/ImportSimpleNamePinLaw", "at", "(Ljava/lang/String;II[CI)Z"⟩ : MethodName)) (W := 0) (kc := 0) (ks := 0) (argsL := [(.ref r264), (.int (0 : Int32)), (.int mm), (.ref b249), (.int o1)]) (rest := []) (as' := #[(.ref r264), (.int (0 : Int32)), (.int mm), (.ref b249), (.int o1)]) (ws := []) X265 (w_109 hw) (w_110 hw) (w_4 hw) (w_111 hw) (by decide) (CtrN.pays (own_at l Z a0 hw h265 X265.old r264 (0 : Int32) mm b249 o1 G1 G3 ((([d0, d1, d2, d3] : List Int32).take k).drop s1) 0 _ d0 d1 d2 d3 O2 P5 O4 rG3 Sr264 hm (by rw [hlen]; omega) rfl (by decide) V_b249 (own_H hk4 ho rfl)) (w_111 hw) (w_4 hw) (by decide) (by decide)) (fun v h' L q => ⟨q.2, q.1.1⟩) all0 (fun _ => Mark.stay all0) rfl (by rw [hml]; rfl) (lenOf pd_20 rfl) rfl rfl (by show 2 * 0 + _ ≤ _; exact Nat.le_of_eq rfl) (hb hby at_190) (by decide) (by decide) ?_
  intro T266 h266 v266 L266 X266 q266 K266
  obtain ⟨⟨-, rfl⟩, -⟩ := q266
  replace V_b249 := V_b249.ext K266.oExt
  replace Sa258 := Sa258.ext K266.oExt
  replace Ex263 := Ex263.ext K266.oExt
  replace Fn263 := Fn263.ext K266.oExt
  replace Sr264 := Sr264.ext K266.oExt
  show Goes _ _ _ _ T266 (mkF m 193 #[.val (.int i0), .val (.int i1), .val (.int i2), .val (.int i3), .val (.int i4), .val (.int i5), .val (.int nn), .val (.ref b249), .val (.ref a258), .val (.int e4), .val (.int o1), .val (.int mm), .val (.ref a260), .val (.ref r264)] [(.int (1 : Int32))])
  refine Goes.go (fun _ kS_ => XS.ifNo X266.here X266.ex rfl (hb hby at_193) rfl ((if0 _ _).trans (cd_f (cd := .eq) (x := (1 : Int32)) (y := (0 : Int32)) (by decide))) (XS.aload X266.here X266.ex rfl (hb hby at_196) rfl rfl (XS.iconst X266.here X266.ex rfl (hb hby at_198) (XS.iload X266.here X266.ex rfl (hb hby at_199) rfl (XS.aload X266.here X266.ex rfl (hb hby at_201) rfl rfl (XS.iload X266.here X266.ex rfl (hb hby at_203) rfl kS_)))))) ?_
  show Goes _ _ _ _ T266 (mkF m 205 #[.val (.int i0), .val (.int i1), .val (.int i2), .val (.int i3), .val (.int i4), .val (.int i5), .val (.int nn), .val (.ref b249), .val (.ref a258), .val (.int e4), .val (.int o1), .val (.int mm), .val (.ref a260), .val (.ref r264)] [(.int o1), (.ref b249), (.int mm), (.int (1 : Int32)), (.ref r264)])
  refine Wk.static (hm' := fun _ => h264) (y := (⟨"com/example/stubwright/stubwright/ImportSimpleNamePinLaw", "at", "(Ljava/lang/String;II[CI)Z"⟩ : MethodName)) (W := 0) (kc := 0) (ks := 0) (argsL := [(.ref r264), (.int (1 : Int32)), (.int mm), (.ref b249), (.int o1)]) (rest := []) (as' := #[(.ref r264), (.int (1 : Int32)), (.int mm), (.ref b249), (.int o1)]) (ws := []) X266 (w_109 hw) (w_110 hw) (w_4 hw) (w_111 hw) (by decide) (CtrN.pays (own_at l Z a0 hw h266 X266.old r264 (1 : Int32) mm b249 o1 G1 G3 ((([d0, d1, d2, d3] : List Int32).take k).drop s1) 1 _ d0 d1 d2 d3 O2 P5 O4 rG3 Sr264 hm (by rw [hlen]; omega) rfl (by decide) V_b249 (own_H hk4 ho rfl)) (w_111 hw) (w_4 hw) (by decide) (by decide)) (fun v h' L q => ⟨q.2, q.1.1⟩) all0 (fun _ => Mark.stay all0) rfl (by rw [hml]; rfl) (lenOf pd_20 rfl) rfl rfl (by show 2 * 0 + _ ≤ _; exact Nat.le_of_eq rfl) (hb hby at_205) (by decide) (by decide) ?_
  intro T267 h267 v267 L267 X267 q267 K267
  obtain ⟨⟨-, rfl⟩, -⟩ := q267
  replace V_b249 := V_b249.ext K267.oExt
  replace Sa258 := Sa258.ext K267.oExt
  replace Ex263 := Ex263.ext K267.oExt
  replace Fn263 := Fn263.ext K267.oExt
  replace Sr264 := Sr264.ext K267.oExt
  show Goes _ _ _ _ T267 (mkF m 208 #[.val (.int i0), .val (.int i1), .val (.int i2), .val (.int i3), .val (.int i4), .val (.int i5), .val (.int nn), .val (.ref b249), .val (.ref a258), .val (.int e4), .val (.int o1), .val (.int mm), .val (.ref a260), .val (.ref r264)] [(.int (1 : Int32))])
  refine Goes.go (fun _ kS_ => XS.ifNo X267.here X267.ex rfl (hb hby at_208) rfl ((if0 _ _).trans (cd_f (cd := .eq) (x := (1 : Int32)) (y := (0 : Int32)) (by decide))) (XS.aload X267.here X267.ex rfl (hb hby at_211) rfl rfl (XS.iconst X267.here X267.ex rfl (hb hby at_213) (XS.iload X267.here X267.ex rfl (hb hby at_214) rfl (XS.aload X267.here X267.ex rfl (hb hby at_216) rfl rfl (XS.iload X267.here X267.ex rfl (hb hby at_218) rfl kS_)))))) ?_
  show Goes _ _ _ _ T267 (mkF m 220 #[.val (.int i0), .val (.int i1), .val (.int i2), .val (.int i3), .val (.int i4), .val (.int i5), .val (.int nn), .val (.ref b249), .val (.ref a258), .val (.int e4), .val (.int o1), .val (.int mm), .val (.ref a260), .val (.ref r264)] [(.int o1), (.ref b249), (.int mm), (.int (2 : Int32)), (.ref r264)])
  refine Wk.static (hm' := fun _ => h264) (y := (⟨"com/example/stubwright/stubwright/ImportSimpleNamePinLaw", "at", "(Ljava/lang/String;II[CI)Z"⟩ : MethodName)) (W := 0) (kc := 0) (ks := 0) (argsL := [(.ref r264), (.int (2 : Int32)), (.int mm), (.ref b249), (.int o1)]) (rest := []) (as' := #[(.ref r264), (.int (2 : Int32)), (.int mm), (.ref b249), (.int o1)]) (ws := []) X267 (w_109 hw) (w_110 hw) (w_4 hw) (w_111 hw) (by decide) (CtrN.pays (own_at l Z a0 hw h267 X267.old r264 (2 : Int32) mm b249 o1 G1 G3 ((([d0, d1, d2, d3] : List Int32).take k).drop s1) 2 _ d0 d1 d2 d3 O2 P5 O4 rG3 Sr264 hm (by rw [hlen]; omega) rfl (by decide) V_b249 (own_H hk4 ho rfl)) (w_111 hw) (w_4 hw) (by decide) (by decide)) (fun v h' L q => ⟨q.2, q.1.1⟩) all0 (fun _ => Mark.stay all0) rfl (by rw [hml]; rfl) (lenOf pd_20 rfl) rfl rfl (by show 2 * 0 + _ ≤ _; exact Nat.le_of_eq rfl) (hb hby at_220) (by decide) (by decide) ?_
  intro T268 h268 v268 L268 X268 q268 K268
  obtain ⟨⟨-, rfl⟩, -⟩ := q268
  replace V_b249 := V_b249.ext K268.oExt
  replace Sa258 := Sa258.ext K268.oExt
  replace Ex263 := Ex263.ext K268.oExt
  replace Fn263 := Fn263.ext K268.oExt
  replace Sr264 := Sr264.ext K268.oExt
  show Goes _ _ _ _ T268 (mkF m 223 #[.val (.int i0), .val (.int i1), .val (.int i2), .val (.int i3), .val (.int i4), .val (.int i5), .val (.int nn), .val (.ref b249), .val (.ref a258), .val (.int e4), .val (.int o1), .val (.int mm), .val (.ref a260), .val (.ref r264)] [(.int (1 : Int32))])
  refine Goes.go (fun _ kS_ => XS.ifNo X268.here X268.ex rfl (hb hby at_223) rfl ((if0 _ _).trans (cd_f (cd := .eq) (x := (1 : Int32)) (y := (0 : Int32)) (by decide))) (XS.aload X268.here X268.ex rfl (hb hby at_226) rfl rfl (XS.iconst X268.here X268.ex rfl (hb hby at_228) (XS.iload X268.here X268.ex rfl (hb hby at_229) rfl (XS.aload X268.here X268.ex rfl (hb hby at_231) rfl rfl (XS.iload X268.here X268.ex rfl (hb hby at_233) rfl kS_)))))) ?_
  show Goes _ _ _ _ T268 (mkF m 235 #[.val (.int i0), .val (.int i1), .val (.int i2), .val (.int i3), .val (.int i4), .val (.int i5), .val (.int nn), .val (.ref b249), .val (.ref a258), .val (.int e4), .val (.int o1), .val (.int mm), .val (.ref a260), .val (.ref r264)] [(.int o1), (.ref b249), (.int mm), (.int (3 : Int32)), (.ref r264)])
  refine Wk.static (hm' := fun _ => h264) (y := (⟨"com/example/stubwright/stubwright/ImportSimpleNamePinLaw", "at", "(Ljava/lang/String;II[CI)Z"⟩ : MethodName)) (W := 0) (kc := 0) (ks := 0) (argsL := [(.ref r264), (.int (3 : Int32)), (.int mm), (.ref b249), (.int o1)]) (rest := []) (as' := #[(.ref r264), (.int (3 : Int32)), (.int mm), (.ref b249), (.int o1)]) (ws := []) X268 (w_109 hw) (w_110 hw) (w_4 hw) (w_111 hw) (by decide) (CtrN.pays (own_at l Z a0 hw h268 X268.old r264 (3 : Int32) mm b249 o1 G1 G3 ((([d0, d1, d2, d3] : List Int32).take k).drop s1) 3 _ d0 d1 d2 d3 O2 P5 O4 rG3 Sr264 hm (by rw [hlen]; omega) rfl (by decide) V_b249 (own_H hk4 ho rfl)) (w_111 hw) (w_4 hw) (by decide) (by decide)) (fun v h' L q => ⟨q.2, q.1.1⟩) all0 (fun _ => Mark.stay all0) rfl (by rw [hml]; rfl) (lenOf pd_20 rfl) rfl rfl (by show 2 * 0 + _ ≤ _; exact Nat.le_of_eq rfl) (hb hby at_235) (by decide) (by decide) ?_
  intro T269 h269 v269 L269 X269 q269 K269
  obtain ⟨⟨-, rfl⟩, -⟩ := q269
  replace V_b249 := V_b249.ext K269.oExt
  replace Sa258 := Sa258.ext K269.oExt
  replace Ex263 := Ex263.ext K269.oExt
  replace Fn263 := Fn263.ext K269.oExt
  replace Sr264 := Sr264.ext K269.oExt
  show Goes _ _ _ _ T269 (mkF m 238 #[.val (.int i0), .val (.int i1), .val (.int i2), .val (.int i3), .val (.int i4), .val (.int i5), .val (.int nn), .val (.ref b249), .val (.ref a258), .val (.int e4), .val (.int o1), .val (.int mm), .val (.ref a260), .val (.ref r264)] [(.int (1 : Int32))])
  refine Goes.go (fun _ kS_ => XS.ifNo X269.here X269.ex rfl (hb hby at_238) rfl ((if0 _ _).trans (cd_f (cd := .eq) (x := (1 : Int32)) (y := (0 : Int32)) (by decide))) (XS.iconst X269.here X269.ex rfl (hb hby at_241) (XS.goto X269.here X269.ex rfl (pc0 := 242) (pc' := 246) rfl (hb hby at_242) (by decide) (by decide) kS_))) ?_
  show Goes _ _ _ _ T269 (mkF m 246 #[.val (.int i0), .val (.int i1), .val (.int i2), .val (.int i3), .val (.int i4), .val (.int i5), .val (.int nn), .val (.ref b249), .val (.ref a258), .val (.int e4), .val (.int o1), .val (.int mm), .val (.ref a260), .val (.ref r264)] [(.int (1 : Int32))])
  refine Goes.outS X269 hEL (fun q => by rw [hret] at q; cases q) hlk (X269.rB hret (by simp) (hb hby at_246)) ?_ (by decide) (by decide)
  exact rfl
set_option maxRecDepth 65536 in
set_option maxHeartbeats 40000000 in
theorem comes_1 {Post : Tables → Env → Array Value → State → Outcome → State → Prop} (hpost : ∀ tb e args s v u, (limb_1_1.after args s (.returned v) u = true ∧ limb_1_2.after args s (.returned v) u = true ∧ True) → FramedW s (.returned v) u (Jvm.fieldLocs frame_1_writes args s ++ Jvm.arrayLocs frame_1_arrays args s ++ Jvm.staticLocs frame_1_statics s) 32 2176 → Post tb e args s (.returned v) u) :
    ArmFor flags0 classFile x code maxLocals ret World_1 tables_1 room_1 Calls_1 rest_1 Pre_1 Post := by
  intro l hfl _ _ p e ha hc hk s m args below hf hA hF happ hP
  obtain ⟨hcalls, hrest, hpre⟩ := hP
  obtain ⟨-, -, -, hnamed, -, -, -, hat⟩ := (Spec.applies_iff hf).mp happ
  obtain ⟨hg, hn⟩ := and_e (Cond.before_iff.mp (show (Jvm.Cond.and given_1 narrow_1).before args s = true from hpre))
  obtain ⟨h1, r0⟩ := and_e hg
  obtain ⟨w0, w1, w2, w3, w4, w5, rfl⟩ : ∃ w0 w1 w2 w3 w4 w5 : Value, args = #[w0, w1, w2, w3, w4, w5] := by
    have hs : args.size = 6 := by simpa [Cond.value, given_1] using h1
    obtain ⟨L⟩ := args
    match L, hs with
    | [w0, w1, w2, w3, w4, w5], _ => exact ⟨w0, w1, w2, w3, w4, w5, rfl⟩
  have hw := fun d (hd : d ∈ tables_1) => atoms_spec (ws := Jvm.Cond.code x code maxLocals ret :: tables_1) hat d (List.mem_cons_of_mem _ hd)
  obtain ⟨hsets, hown0⟩ := atoms_of _ (rest_1_c_eq ▸ (show rest_1_c.before _ s = true from hrest))
  have hfit : Fit s := fun {y c} hc i hi => by
    obtain ⟨ha, rfl⟩ := Array.getElem?_eq_some_iff.mp hc
    have q := List.all_eq_true.mp ((Array.all_eq_true_iff_forall_mem.mp hF) _ (Array.getElem_mem ha)) i (List.mem_range.mpr hi)
    simpa [Array.getElem?_eq_getElem hi] using q
  obtain ⟨q0, r1⟩ := and_e r0
  obtain ⟨i0, e0⟩ := is_v q0
  obtain rfl : w0 = (.int i0) := Option.some.inj e0
  obtain ⟨q1, r2⟩ := and_e r1
  obtain ⟨i1, e1⟩ := is_v q1
  obtain rfl : w1 = (.int i1) := Option.some.inj e1
  obtain ⟨q2, r3⟩ := and_e r2
  obtain ⟨i2, e2⟩ := is_v q2
  obtain rfl : w2 = (.int i2) := Option.some.inj e2
  obtain ⟨q3, r4⟩ := and_e r3
  obtain ⟨i3, e3⟩ := is_v q3
  obtain rfl : w3 = (.int i3) := Option.some.inj e3
  obtain ⟨q4, r5⟩ := and_e r4
  obtain ⟨i4, e4⟩ := is_v q4
  obtain rfl : w4 = (.int i4) := Option.some.inj e4
  obtain ⟨i5, e5⟩ := is_v r5
  obtain rfl : w5 = (.int i5) := Option.some.inj e5
  have n3 := not_v (Cond.before_iff.mp (hsets _ (List.mem_of_getElem? (i := 2) rfl)))
  obtain ⟨G1, eG1⟩ := is_v (Cond.before_iff.mp (hsets _ (List.mem_of_getElem? (i := 1) rfl)))
  have O2 : Sta s s.heap "java/lang/String" "COMPACT_STRINGS" "Z" (.int G1) := Sta.start eG1 (Or.inl (hsets _ (List.mem_of_getElem? (i := 0) rfl)))
  have P5 : ¬ (G1 = (0 : Int32)) := gotF (Cond.eq_ints eG1 (Term.int_eval (0))) n3
  obtain ⟨G3, eG3, rG3⟩ := isR_v (Cond.before_iff.mp (hsets _ (List.mem_of_getElem? (i := 8) rfl)))
  have O4 : Sta s s.heap "jdk/internal/util/Preconditions" "SIOOBE_FORMATTER" "Ljava/util/function/BiFunction;" G3 := Sta.start eG3 (Or.inl (hsets _ (List.mem_of_getElem? (i := 7) rfl)))
  have hEL : EW s #[(.int i0), (.int i1), (.int i2), (.int i3), (.int i4), (.int i5)] consts_1 := EW.cons (w_9 hw) (by decide) (EW.cons (w_134 hw) (by decide) EW.nil)
  have hCH : CHv s consts_1 s.vm s.heap := CHv.start hEL hcalls.1 (hsets _ (List.mem_of_getElem? (i := 2) rfl)) (own_wS hw _ (by simp [Bundle.stringAtoms])) (own_wS hw _ (by simp [Bundle.stringAtoms, Bundle.sN]))
  obtain ⟨n, o, h1, h2, h3, _, L, rfl, ⟨rfl, N⟩, -, hq⟩ := own_law l s _ hw hEL s.heap (Ext.oRefl _) i0 i1 i2 i3 i4 i5 G1 G3 O2 P5 O4 rG3 tables_1 p e ha hc hk s m _ below hf ((Spec.applies_iff_loose hf).mp happ).1 ⟨rfl, State.Warmed39.refl s, rfl, hCH⟩ trivial
  exact ⟨n, _, h1, h2, h3, hpost _ _ _ _ _ _ ⟨Cond.after_iff.mpr rfl, Cond.after_iff.mpr (eq_i res_at (Term.int_eval (1)) rfl), trivial⟩ ⟨hq.1, hq.2.1, hq.2.2.1, (hq.2.2.2.sift fun y hy => Or.inr (N y hy)).mono (by decide) (by decide)⟩⟩
theorem main_1_1 : Claimed_1_1 := comes_1 fun _ _ _ _ _ _ h hF => ⟨h.1, hF⟩
theorem main_1_2 : Claimed_1_2 := comes_1 fun _ _ _ _ _ _ h hF => ⟨h.2.1, hF⟩
end Jvm.Pilot.@@N@@
namespace Jvm.Pilot.@@N@@
open Jvm Jvm.ClassFile Sem Op Lib Jvm.Free Jvm.Stand Jvm.Pilot.@@N@@.Jvm.D
/-! MADE BY PROGRAM (witnessworld.py) out of the Statement's table words and the real class files: 25 classes; the members and pool entries that the words name. The judged class is class 1, her method 4. -/
namespace start1
open Jvm.ClassFile
def u (s : String) : CpInfo := .utf8 (stringToUtf16 s)
/-- a pool by its gaps: so many unusable entries, then the entry; so many at the end -/
def gap : Nat → List CpInfo → List CpInfo
  | 0, r => r
  | n + 1, r => .unusable :: gap n r
def poolList (es : List (Nat × CpInfo)) (last : Nat) : List CpInfo := es.foldr (fun e r => gap e.1 (e.2 :: r)) (gap last [])
def pool (es : List (Nat × CpInfo)) (last : Nat) : Array CpInfo := ⟨poolList es last⟩
def fileOf (pool : Array CpInfo) (this : Nat) (attrs : Array Attribute := #[]) (ms : Array MethodInfo := #[]) (fl : Nat := 33) (sup : Nat := 0) (ifs : Array Nat := #[]) (fds : Array FieldInfo := #[]) : ClassFile where
  minorVersion := 0
  majorVersion := 65
  constantPool := pool
  accessFlags := fl
  thisClass := this
  superClass := sup
  interfaces := ifs
  fields := fds
  methods := ms
  attributes := attrs
def plain (name : String) (sup : Option ClassId) : Class where
  name := name
  kind := .ordinary
  loader := none
  accessFlags := 33
  super := sup
  interfaces := #[]
  cf := none
  fields := #[]
  methods := #[]
  instanceTypes := #[]
  staticTypes := #[]
  resolved := #[]
  callSites := []
  init := .initialized
  statics := none
  mirror := none

def pool0 : Array CpInfo := pool [(5, u "<init>"), (0, u "()V"), (1, .class_ 10), (1, u "java/lang/Object")] 113

def k0c0 : Code := { maxStack := 0, maxLocals := 1, code := object_method_1_code, exceptionTable := #[], attributes := #[] }
def k0m0 : Method := { name := "<init>", desc := "()V", sig := { parameters := [], returnType := none }, accessFlags := 1, code := some k0c0 }
/-- java/lang/Object -/
def k0 : Class := { plain "java/lang/Object" none with
  accessFlags := 33
  interfaces := #[]
  cf := some (fileOf pool0 8 #[] #[{ accessFlags := 1, nameIndex := 5, descriptorIndex := 6, attributes := #[] }] 33 0 #[] #[])
  fields := #[]
  methods := #[k0m0]
  instanceTypes := #[]
  staticTypes := #[]
  resolved := Array.replicate 124 none
  statics := none }

def pool1 : Array CpInfo := pool [(2, .class_ 4), (1, u "java/lang/Object"), (0, u "<init>"), (0, u "()V"), (0, .string 8), (0, u ""), (0, .class_ 10), (0, u "java/lang/String"), (0, .methodref 9 12), (0, .nameAndType 5 13), (0, u "([C)V"), (0, .methodref 9 15), (0, .nameAndType 16 17), (0, u "charAt"), (0, u "(I)C"), (0, .integer 2147483647), (0, .methodref 20 21), (0, .class_ 22), (0, .nameAndType 23 17), (0, u "com/example/stubwright/stubwright/ImportSimpleNamePinLaw"), (0, u "draw"), (0, .methodref 20 25), (0, .nameAndType 26 27), (0, u "make"), (0, u "(I[C)Ljava/lang/String;"), (0, .class_ 29), (0, u "com/example/stubwright/stubwright/Document$Import"), (0, .class_ 31), (0, u "com/example/stubwright/stubwright/Position"), (0, .methodref 30 33), (0, .nameAndType 5 34), (0, u "(II)V"), (0, .methodref 28 36), (0, .nameAndType 5 37), (0, u "(Lcom/example/stubwright/stubwright/Position;Ljava/lang/String;)V"), (0, .methodref 28 39), (0, .nameAndType 40 41), (0, u "simpleName"), (0, u "()Ljava/lang/String;"), (0, .methodref 9 43), (0, .nameAndType 44 45), (0, u "length"), (0, u "()I"), (0, .methodref 20 47), (0, .nameAndType 48 49), (0, u "at"), (0, u "(Ljava/lang/String;II[CI)Z"), (3, u "law"), (0, u "(IIIIII)Z")] 8

def k1m0 : Method := { name := "<init>", desc := "()V", sig := { parameters := [], returnType := none }, accessFlags := 2, code := none }
def k1c1 : Code := { maxStack := 2, maxLocals := 1, code := method_2_code, exceptionTable := #[], attributes := #[] }
def k1m1 : Method := { name := "draw", desc := "(I)C", sig := { parameters := [.int], returnType := some .char }, accessFlags := 10, code := some k1c1 }
def k1c2 : Code := { maxStack := 7, maxLocals := 2, code := method_3_code, exceptionTable := #[], attributes := #[] }
def k1m2 : Method := { name := "make", desc := "(I[C)Ljava/lang/String;", sig := { parameters := [.int, (.array .char)], returnType := some (.object "java/lang/String") }, accessFlags := 10, code := some k1c2 }
def k1c3 : Code := { maxStack := 4, maxLocals := 5, code := method_4_code, exceptionTable := #[], attributes := #[] }
def k1m3 : Method := { name := "at", desc := "(Ljava/lang/String;II[CI)Z", sig := { parameters := [(.object "java/lang/String"), .int, .int, (.array .char), .int], returnType := some .boolean }, accessFlags := 10, code := some k1c3 }
def k1c4 : Code := { maxStack := 7, maxLocals := 14, code := code, exceptionTable := #[], attributes := #[] }
def k1m4 : Method := { name := "law", desc := "(IIIIII)Z", sig := { parameters := [.int, .int, .int, .int, .int, .int], returnType := some .boolean }, accessFlags := 9, code := some k1c4 }
/-- com/example/stubwright/stubwright/ImportSimpleNamePinLaw -/
def k1 : Class := { plain "com/example/stubwright/stubwright/ImportSimpleNamePinLaw" (some 0) with
  accessFlags := 49
  interfaces := #[]
  cf := some (fileOf pool1 20 #[] #[{ accessFlags := 2, nameIndex := 5, descriptorIndex := 6, attributes := #[] }, { accessFlags := 10, nameIndex := 23, descriptorIndex := 17, attributes := #[] }, { accessFlags := 10, nameIndex := 26, descriptorIndex := 27, attributes := #[] }, { accessFlags := 10, nameIndex := 48, descriptorIndex := 49, attributes := #[] }, { accessFlags := 9, nameIndex := 53, descriptorIndex := 54, attributes := #[] }] 49 2 #[] #[])
  fields := #[]
  methods := #[k1m0, k1m1, k1m2, k1m3, k1m4]
  instanceTypes := #[]
  staticTypes := #[]
  resolved := Array.replicate 63 none
  statics := none }

def pool2 : Array CpInfo := pool [(1, .class_ 2), (0, u "java/io/Serializable"), (0, .class_ 4), (0, u "java/lang/Object")] 2

/-- java/io/Serializable -/
def k2 : Class := { plain "java/io/Serializable" (some 0) with
  accessFlags := 1537
  interfaces := #[]
  cf := some (fileOf pool2 1 #[] #[] 1537 3 #[] #[])
  fields := #[]
  methods := #[]
  instanceTypes := #[]
  staticTypes := #[]
  resolved := Array.replicate 7 none
  statics := none }

def pool3 : Array CpInfo := pool [(1, .class_ 2), (0, u "java/lang/Comparable"), (0, .class_ 4), (0, u "java/lang/Object")] 7

/-- java/lang/Comparable -/
def k3 : Class := { plain "java/lang/Comparable" (some 0) with
  accessFlags := 1537
  interfaces := #[]
  cf := some (fileOf pool3 1 #[] #[] 1537 3 #[] #[])
  fields := #[]
  methods := #[]
  instanceTypes := #[]
  staticTypes := #[]
  resolved := Array.replicate 12 none
  statics := none }

def pool4 : Array CpInfo := pool [(2, .class_ 4), (1, u "java/lang/CharSequence"), (42, .class_ 48), (0, u "java/lang/CharSequence$1CodePointIterator"), (10, .class_ 60), (0, u "java/lang/CharSequence$1CharIterator"), (5, .class_ 67), (0, u "java/lang/Object")] 63

/-- java/lang/CharSequence -/
def k4 : Class := { plain "java/lang/CharSequence" (some 0) with
  accessFlags := 1537
  interfaces := #[]
  cf := some (fileOf pool4 2 #[.nestMembers #[47, 59]] #[] 1537 66 #[] #[])
  fields := #[]
  methods := #[]
  instanceTypes := #[]
  staticTypes := #[]
  resolved := Array.replicate 131 none
  statics := none }

def pool5 : Array CpInfo := pool [(1, .class_ 2), (0, u "java/lang/constant/Constable"), (0, .class_ 4), (0, u "java/lang/Object")] 6

/-- java/lang/constant/Constable -/
def k5 : Class := { plain "java/lang/constant/Constable" (some 0) with
  accessFlags := 1537
  interfaces := #[]
  cf := some (fileOf pool5 1 #[] #[] 1537 3 #[] #[])
  fields := #[]
  methods := #[]
  instanceTypes := #[]
  staticTypes := #[]
  resolved := Array.replicate 11 none
  statics := none }

def pool6 : Array CpInfo := pool [(1, .class_ 2), (0, u "java/lang/constant/ConstantDesc"), (0, .class_ 4), (0, u "java/lang/Object")] 32

/-- java/lang/constant/ConstantDesc -/
def k6 : Class := { plain "java/lang/constant/ConstantDesc" (some 0) with
  accessFlags := 1537
  interfaces := #[]
  cf := some (fileOf pool6 1 #[] #[] 1537 3 #[] #[])
  fields := #[]
  methods := #[]
  instanceTypes := #[]
  staticTypes := #[]
  resolved := Array.replicate 37 none
  statics := none }

def pool7 : Array CpInfo := pool [(1, .methodref 2 3), (0, .class_ 4), (0, .nameAndType 5 6), (0, u "java/lang/Object"), (0, u "<init>"), (0, u "()V"), (2, .fieldref 10 11), (0, .class_ 12), (0, .nameAndType 13 14), (0, u "java/lang/String"), (0, u "value"), (0, u "[B"), (0, .fieldref 10 16), (0, .nameAndType 17 18), (0, u "coder"), (0, u "B"), (2, u "hash"), (0, u "I"), (2, u "hashIsZero"), (0, u "Z"), (0, .methodref 10 28), (0, .nameAndType 5 29), (0, u "([CIILjava/lang/Void;)V"), (8, .fieldref 10 39), (0, .nameAndType 40 26), (0, u "COMPACT_STRINGS"), (1, .class_ 44), (1, u "java/lang/StringUTF16"), (0, u "compress"), (1, .methodref 42 48), (0, .nameAndType 49 50), (0, u "coderFromArrayLen"), (0, u "([BI)B"), (46, u "([BII)I"), (9, .class_ 109), (1, u "java/lang/StringLatin1"), (32, u "()Z"), (34, .methodref 42 178), (0, .nameAndType 45 179), (0, u "([CII)[B"), (31, u "([BB)V"), (122, u "()I"), (0, .methodref 10 336), (0, .nameAndType 17 337), (0, u "()B"), (25, u "([BI)C"), (27, u "(II)V"), (35, u "(I)C"), (64, .methodref 10 493), (0, .nameAndType 494 142), (0, u "isLatin1"), (0, .methodref 107 496), (0, .nameAndType 497 363), (0, u "charAt"), (3, u "checkIndex"), (3, .methodref 10 506), (0, .nameAndType 507 334), (0, u "length"), (5, u "checkFromToIndex"), (7, .methodref 10 522), (0, .nameAndType 523 524), (0, u "checkBoundsBeginEnd"), (0, u "(III)V"), (50, .class_ 576), (0, u "java/lang/CharSequence"), (22, u "CASE_INSENSITIVE_ORDER"), (0, u "Ljava/util/Comparator;"), (35, u "(II)I"), (4, .methodref 10 642), (0, .nameAndType 643 636), (0, u "lastIndexOf"), (0, .methodref 107 645), (0, .nameAndType 643 97), (35, .methodref 10 682), (0, .nameAndType 683 684), (0, u "substring"), (0, u "(II)Ljava/lang/String;"), (0, .methodref 107 686), (0, .nameAndType 687 688), (0, u "newString"), (0, u "([BII)Ljava/lang/String;"), (76, u "(I)I"), (126, u "(I)Ljava/lang/String;"), (117, u "([C)V"), (42, .fieldref 1054 1055), (0, .class_ 1056), (0, .nameAndType 1057 1058), (0, u "jdk/internal/util/Preconditions"), (0, u "SIOOBE_FORMATTER"), (0, u "Ljava/util/function/BiFunction;"), (0, .methodref 1054 1060), (0, .nameAndType 501 1061), (0, u "(IILjava/util/function/BiFunction;)I"), (0, .methodref 1054 1063), (0, .nameAndType 513 1064), (0, u "(IIILjava/util/function/BiFunction;)I"), (36, u "serialPersistentFields"), (0, u "[Ljava/io/ObjectStreamField;"), (0, .class_ 1104), (0, u "java/lang/String$CaseInsensitiveComparator"), (1, .class_ 1107), (0, u "java/io/Serializable"), (0, .class_ 1109), (0, u "java/lang/Comparable"), (0, .class_ 1111), (0, u "java/lang/constant/Constable"), (0, .class_ 1113), (0, u "java/lang/constant/ConstantDesc"), (2, u "serialVersionUID"), (0, u "J"), (3, u "REPL"), (0, u "C"), (2, u "LATIN1"), (1, u "UTF16")] 323

def k7m0 : Method := { name := "<init>", desc := "()V", sig := { parameters := [], returnType := none }, accessFlags := 1, code := none }
def k7c1 : Code := { maxStack := 5, maxLocals := 2, code := jdk_42_method_3_code, exceptionTable := #[], attributes := #[] }
def k7m1 : Method := { name := "<init>", desc := "([C)V", sig := { parameters := [(.array .char)], returnType := none }, accessFlags := 1, code := some k7c1 }
def k7c2 : Code := { maxStack := 2, maxLocals := 1, code := jdk_42_method_54_code, exceptionTable := #[], attributes := #[] }
def k7m2 : Method := { name := "length", desc := "()I", sig := { parameters := [], returnType := some .int }, accessFlags := 1, code := some k7c2 }
def k7c3 : Code := { maxStack := 2, maxLocals := 2, code := jdk_42_method_56_code, exceptionTable := #[], attributes := #[] }
def k7m3 : Method := { name := "charAt", desc := "(I)C", sig := { parameters := [.int], returnType := some .char }, accessFlags := 1, code := some k7c3 }
def k7c4 : Code := { maxStack := 4, maxLocals := 2, code := jdk_42_method_82_code, exceptionTable := #[], attributes := #[] }
def k7m4 : Method := { name := "lastIndexOf", desc := "(I)I", sig := { parameters := [.int], returnType := some .int }, accessFlags := 1, code := some k7c4 }
def k7c5 : Code := { maxStack := 3, maxLocals := 3, code := jdk_42_method_83_code, exceptionTable := #[], attributes := #[] }
def k7m5 : Method := { name := "lastIndexOf", desc := "(II)I", sig := { parameters := [.int, .int], returnType := some .int }, accessFlags := 1, code := some k7c5 }
def k7c6 : Code := { maxStack := 3, maxLocals := 2, code := jdk_42_method_91_code, exceptionTable := #[], attributes := #[] }
def k7m6 : Method := { name := "substring", desc := "(I)Ljava/lang/String;", sig := { parameters := [.int], returnType := some (.object "java/lang/String") }, accessFlags := 1, code := some k7c6 }
def k7c7 : Code := { maxStack := 3, maxLocals := 5, code := jdk_42_method_92_code, exceptionTable := #[], attributes := #[] }
def k7m7 : Method := { name := "substring", desc := "(II)Ljava/lang/String;", sig := { parameters := [.int, .int], returnType := some (.object "java/lang/String") }, accessFlags := 1, code := some k7c7 }
def k7c8 : Code := { maxStack := 4, maxLocals := 6, code := jdk_42_method_149_code, exceptionTable := #[], attributes := #[] }
def k7m8 : Method := { name := "<init>", desc := "([CIILjava/lang/Void;)V", sig := { parameters := [(.array .char), .int, .int, (.object "java/lang/Void")], returnType := none }, accessFlags := 2, code := some k7c8 }
def k7c9 : Code := { maxStack := 2, maxLocals := 3, code := jdk_42_method_151_code, exceptionTable := #[], attributes := #[] }
def k7m9 : Method := { name := "<init>", desc := "([BB)V", sig := { parameters := [(.array .byte), .byte], returnType := none }, accessFlags := 0, code := some k7c9 }
def k7c10 : Code := { maxStack := 1, maxLocals := 1, code := jdk_42_method_152_code, exceptionTable := #[], attributes := #[] }
def k7m10 : Method := { name := "coder", desc := "()B", sig := { parameters := [], returnType := some .byte }, accessFlags := 0, code := some k7c10 }
def k7c11 : Code := { maxStack := 1, maxLocals := 1, code := jdk_42_method_154_code, exceptionTable := #[], attributes := #[] }
def k7m11 : Method := { name := "isLatin1", desc := "()Z", sig := { parameters := [], returnType := some .boolean }, accessFlags := 0, code := some k7c11 }
def k7c12 : Code := { maxStack := 3, maxLocals := 2, code := jdk_42_method_155_code, exceptionTable := #[], attributes := #[] }
def k7m12 : Method := { name := "checkIndex", desc := "(II)V", sig := { parameters := [.int, .int], returnType := none }, accessFlags := 8, code := some k7c12 }
def k7c13 : Code := { maxStack := 4, maxLocals := 3, code := jdk_42_method_158_code, exceptionTable := #[], attributes := #[] }
def k7m13 : Method := { name := "checkBoundsBeginEnd", desc := "(III)V", sig := { parameters := [.int, .int, .int], returnType := none }, accessFlags := 8, code := some k7c13 }
/-- java/lang/String -/
def k7 : Class := { plain "java/lang/String" (some 0) with
  accessFlags := 49
  interfaces := #[2, 3, 4, 5, 6]
  cf := some (fileOf pool7 10 #[.nestMembers #[1103]] #[{ accessFlags := 1, nameIndex := 5, descriptorIndex := 6, attributes := #[] }, { accessFlags := 1, nameIndex := 5, descriptorIndex := 1010, attributes := #[] }, { accessFlags := 1, nameIndex := 507, descriptorIndex := 334, attributes := #[] }, { accessFlags := 1, nameIndex := 497, descriptorIndex := 427, attributes := #[] }, { accessFlags := 1, nameIndex := 643, descriptorIndex := 765, attributes := #[] }, { accessFlags := 1, nameIndex := 643, descriptorIndex := 636, attributes := #[] }, { accessFlags := 1, nameIndex := 683, descriptorIndex := 892, attributes := #[] }, { accessFlags := 1, nameIndex := 683, descriptorIndex := 684, attributes := #[] }, { accessFlags := 2, nameIndex := 5, descriptorIndex := 29, attributes := #[] }, { accessFlags := 0, nameIndex := 5, descriptorIndex := 211, attributes := #[] }, { accessFlags := 0, nameIndex := 17, descriptorIndex := 337, attributes := #[] }, { accessFlags := 0, nameIndex := 494, descriptorIndex := 142, attributes := #[] }, { accessFlags := 8, nameIndex := 501, descriptorIndex := 391, attributes := #[] }, { accessFlags := 8, nameIndex := 523, descriptorIndex := 524, attributes := #[] }] 49 2 #[1106, 1108, 575, 1110, 1112] #[{ accessFlags := 18, nameIndex := 13, descriptorIndex := 14, attributes := #[] }, { accessFlags := 18, nameIndex := 17, descriptorIndex := 18, attributes := #[] }, { accessFlags := 2, nameIndex := 21, descriptorIndex := 22, attributes := #[] }, { accessFlags := 2, nameIndex := 25, descriptorIndex := 26, attributes := #[] }, { accessFlags := 26, nameIndex := 1116, descriptorIndex := 1117, attributes := #[] }, { accessFlags := 24, nameIndex := 40, descriptorIndex := 26, attributes := #[] }, { accessFlags := 26, nameIndex := 1101, descriptorIndex := 1102, attributes := #[] }, { accessFlags := 26, nameIndex := 1121, descriptorIndex := 1122, attributes := #[] }, { accessFlags := 25, nameIndex := 599, descriptorIndex := 600, attributes := #[] }, { accessFlags := 24, nameIndex := 1125, descriptorIndex := 18, attributes := #[] }, { accessFlags := 24, nameIndex := 1127, descriptorIndex := 18, attributes := #[] }])
  fields := #[{ name := "value", type := (.array .byte), accessFlags := 18, slot := 0, constantValue := 0 }, { name := "coder", type := .byte, accessFlags := 18, slot := 1, constantValue := 0 }, { name := "hash", type := .int, accessFlags := 2, slot := 2, constantValue := 0 }, { name := "hashIsZero", type := .boolean, accessFlags := 2, slot := 3, constantValue := 0 }, { name := "serialVersionUID", type := .long, accessFlags := 26, slot := 0, constantValue := 0 }, { name := "COMPACT_STRINGS", type := .boolean, accessFlags := 24, slot := 1, constantValue := 0 }, { name := "serialPersistentFields", type := (.array (.object "java/io/ObjectStreamField")), accessFlags := 26, slot := 2, constantValue := 0 }, { name := "REPL", type := .char, accessFlags := 26, slot := 3, constantValue := 0 }, { name := "CASE_INSENSITIVE_ORDER", type := (.object "java/util/Comparator"), accessFlags := 25, slot := 4, constantValue := 0 }, { name := "LATIN1", type := .byte, accessFlags := 24, slot := 5, constantValue := 0 }, { name := "UTF16", type := .byte, accessFlags := 24, slot := 6, constantValue := 0 }]
  methods := #[k7m0, k7m1, k7m2, k7m3, k7m4, k7m5, k7m6, k7m7, k7m8, k7m9, k7m10, k7m11, k7m12, k7m13]
  instanceTypes := #[(.array .byte), .byte, .int, .boolean]
  staticTypes := #[.long, .boolean, (.array (.object "java/io/ObjectStreamField")), .char, (.object "java/util/Comparator"), .byte, .byte]
  resolved := Array.replicate 1451 none
  statics := some 0 }

def pool8 : Array CpInfo := pool [(1, .methodref 2 3), (0, .class_ 4), (0, .nameAndType 5 6), (0, u "java/lang/Object"), (0, u "<init>"), (0, u "()V"), (0, .class_ 8), (0, u "java/lang/Record")] 13

def k8c0 : Code := { maxStack := 1, maxLocals := 1, code := jdk_30_method_1_code, exceptionTable := #[], attributes := #[] }
def k8m0 : Method := { name := "<init>", desc := "()V", sig := { parameters := [], returnType := none }, accessFlags := 4, code := some k8c0 }
/-- java/lang/Record -/
def k8 : Class := { plain "java/lang/Record" (some 0) with
  accessFlags := 1057
  interfaces := #[]
  cf := some (fileOf pool8 7 #[] #[{ accessFlags := 4, nameIndex := 5, descriptorIndex := 6, attributes := #[] }] 1057 2 #[] #[])
  fields := #[]
  methods := #[k8m0]
  instanceTypes := #[]
  staticTypes := #[]
  resolved := Array.replicate 22 none
  statics := none }

def pool9 : Array CpInfo := pool [(1, .methodref 2 3), (0, .class_ 4), (0, .nameAndType 5 6), (0, u "java/lang/Record"), (0, u "<init>"), (0, u "()V"), (0, .fieldref 8 9), (0, .class_ 10), (0, .nameAndType 11 12), (0, u "com/example/stubwright/stubwright/Document$Import"), (0, u "position"), (0, u "Lcom/example/stubwright/stubwright/Position;"), (0, .fieldref 8 14), (0, .nameAndType 15 16), (0, u "name"), (0, u "Ljava/lang/String;"), (0, .methodref 18 19), (0, .class_ 20), (0, .nameAndType 21 22), (0, u "java/lang/String"), (0, u "lastIndexOf"), (0, u "(I)I"), (0, .methodref 18 24), (0, .nameAndType 25 26), (0, u "substring"), (0, u "(I)Ljava/lang/String;"), (12, u "(Lcom/example/stubwright/stubwright/Position;Ljava/lang/String;)V"), (3, u "simpleName"), (0, u "()Ljava/lang/String;"), (6, .class_ 52), (0, u "com/example/stubwright/stubwright/Document")] 20

def k9c0 : Code := { maxStack := 2, maxLocals := 3, code := prog_36_method_1_code, exceptionTable := #[], attributes := #[] }
def k9m0 : Method := { name := "<init>", desc := "(Lcom/example/stubwright/stubwright/Position;Ljava/lang/String;)V", sig := { parameters := [(.object "com/example/stubwright/stubwright/Position"), (.object "java/lang/String")], returnType := none }, accessFlags := 0, code := some k9c0 }
def k9c1 : Code := { maxStack := 3, maxLocals := 1, code := prog_36_method_2_code, exceptionTable := #[], attributes := #[] }
def k9m1 : Method := { name := "simpleName", desc := "()Ljava/lang/String;", sig := { parameters := [], returnType := some (.object "java/lang/String") }, accessFlags := 0, code := some k9c1 }
/-- com/example/stubwright/stubwright/Document$Import -/
def k9 : Class := { plain "com/example/stubwright/stubwright/Document$Import" (some 8) with
  accessFlags := 48
  interfaces := #[]
  cf := some (fileOf pool9 8 #[.nestHost 51] #[{ accessFlags := 0, nameIndex := 5, descriptorIndex := 39, attributes := #[] }, { accessFlags := 0, nameIndex := 43, descriptorIndex := 44, attributes := #[] }] 48 2 #[] #[{ accessFlags := 18, nameIndex := 11, descriptorIndex := 12, attributes := #[] }, { accessFlags := 18, nameIndex := 15, descriptorIndex := 16, attributes := #[] }])
  fields := #[{ name := "position", type := (.object "com/example/stubwright/stubwright/Position"), accessFlags := 18, slot := 0, constantValue := 0 }, { name := "name", type := (.object "java/lang/String"), accessFlags := 18, slot := 1, constantValue := 0 }]
  methods := #[k9m0, k9m1]
  instanceTypes := #[(.object "com/example/stubwright/stubwright/Position"), (.object "java/lang/String")]
  staticTypes := #[]
  resolved := Array.replicate 73 none
  statics := none }

def pool10 : Array CpInfo := pool [(1, .methodref 2 3), (0, .class_ 4), (0, .nameAndType 5 6), (0, u "java/lang/Record"), (0, u "<init>"), (0, u "()V"), (0, .fieldref 8 9), (0, .class_ 10), (0, .nameAndType 11 12), (0, u "com/example/stubwright/stubwright/Position"), (0, u "line"), (0, u "I"), (0, .fieldref 8 14), (0, .nameAndType 15 12), (0, u "column"), (12, u "(II)V")] 27

def k10c0 : Code := { maxStack := 2, maxLocals := 3, code := prog_69_method_1_code, exceptionTable := #[], attributes := #[] }
def k10m0 : Method := { name := "<init>", desc := "(II)V", sig := { parameters := [.int, .int], returnType := none }, accessFlags := 0, code := some k10c0 }
/-- com/example/stubwright/stubwright/Position -/
def k10 : Class := { plain "com/example/stubwright/stubwright/Position" (some 8) with
  accessFlags := 48
  interfaces := #[]
  cf := some (fileOf pool10 8 #[] #[{ accessFlags := 0, nameIndex := 5, descriptorIndex := 28, attributes := #[] }] 48 2 #[] #[{ accessFlags := 18, nameIndex := 11, descriptorIndex := 12, attributes := #[] }, { accessFlags := 18, nameIndex := 15, descriptorIndex := 12, attributes := #[] }])
  fields := #[{ name := "line", type := .int, accessFlags := 18, slot := 0, constantValue := 0 }, { name := "column", type := .int, accessFlags := 18, slot := 1, constantValue := 0 }]
  methods := #[k10m0]
  instanceTypes := #[.int, .int]
  staticTypes := #[]
  resolved := Array.replicate 56 none
  statics := none }

def pool11 : Array CpInfo := pool [(1, .class_ 2), (0, u "java/lang/String"), (1, .class_ 6), (1, u "java/lang/Object"), (0, u "<init>"), (0, u "()V"), (0, .methodref 1 10), (0, .nameAndType 11 12), (0, u "checkIndex"), (0, u "(II)V"), (1, .class_ 16), (1, u "java/lang/StringLatin1"), (21, .methodref 39 40), (0, .class_ 41), (0, .nameAndType 42 43), (0, u "java/lang/Math"), (0, u "min"), (0, u "(II)I"), (9, u "([BI)C"), (34, .methodref 14 89), (0, .nameAndType 90 91), (0, u "canEncode"), (0, u "(I)Z"), (20, .methodref 1 113), (0, .nameAndType 7 114), (0, u "([BB)V"), (6, u "$assertionsDisabled"), (0, u "Z"), (8, .class_ 133), (1, u "java/util/Arrays"), (17, .string 152), (0, u ""), (43, u "newString"), (0, u "([BII)Ljava/lang/String;"), (23, .class_ 223), (1, u "java/lang/StringLatin1$LinesSpliterator"), (8, .methodref 131 233), (0, .nameAndType 234 235), (0, u "copyOfRange"), (0, u "([BII)[B"), (16, u "charAt"), (8, u "([BII)I"), (47, u "lastIndexOf"), (80, .class_ 391), (0, u "java/lang/StringLatin1$CharsSpliterator")] 3

def k11m0 : Method := { name := "<init>", desc := "()V", sig := { parameters := [], returnType := none }, accessFlags := 0, code := none }
def k11c1 : Code := { maxStack := 2, maxLocals := 2, code := jdk_43_method_2_code, exceptionTable := #[], attributes := #[] }
def k11m1 : Method := { name := "charAt", desc := "([BI)C", sig := { parameters := [(.array .byte), .int], returnType := some .char }, accessFlags := 9, code := some k11c1 }
def k11c2 : Code := { maxStack := 2, maxLocals := 1, code := jdk_43_method_4_code, exceptionTable := #[], attributes := #[] }
def k11m2 : Method := { name := "canEncode", desc := "(I)Z", sig := { parameters := [.int], returnType := some .boolean }, accessFlags := 9, code := some k11c2 }
def k11c3 : Code := { maxStack := 3, maxLocals := 4, code := jdk_43_method_27_code, exceptionTable := #[], attributes := #[] }
def k11m3 : Method := { name := "lastIndexOf", desc := "([BII)I", sig := { parameters := [(.array .byte), .int, .int], returnType := some .int }, accessFlags := 9, code := some k11c3 }
def k11c4 : Code := { maxStack := 6, maxLocals := 3, code := jdk_43_method_47_code, exceptionTable := #[], attributes := #[] }
def k11m4 : Method := { name := "newString", desc := "([BII)Ljava/lang/String;", sig := { parameters := [(.array .byte), .int, .int], returnType := some (.object "java/lang/String") }, accessFlags := 9, code := some k11c4 }
/-- java/lang/StringLatin1 -/
def k11 : Class := { plain "java/lang/StringLatin1" (some 0) with
  accessFlags := 48
  interfaces := #[]
  cf := some (fileOf pool11 14 #[.nestMembers #[390, 221]] #[{ accessFlags := 0, nameIndex := 7, descriptorIndex := 8, attributes := #[] }, { accessFlags := 9, nameIndex := 252, descriptorIndex := 53, attributes := #[] }, { accessFlags := 9, nameIndex := 90, descriptorIndex := 91, attributes := #[] }, { accessFlags := 9, nameIndex := 309, descriptorIndex := 261, attributes := #[] }, { accessFlags := 9, nameIndex := 196, descriptorIndex := 197, attributes := #[] }] 48 4 #[] #[{ accessFlags := 4120, nameIndex := 121, descriptorIndex := 122, attributes := #[] }])
  fields := #[{ name := "$assertionsDisabled", type := .boolean, accessFlags := 4120, slot := 0, constantValue := 0 }]
  methods := #[k11m0, k11m1, k11m2, k11m3, k11m4]
  instanceTypes := #[]
  staticTypes := #[.boolean]
  resolved := Array.replicate 395 none
  statics := none }

def pool12 : Array CpInfo := pool [(1, .class_ 2), (0, u "java/lang/Math"), (1, .class_ 6), (1, u "java/lang/Object"), (0, u "<init>"), (0, u "()V"), (89, .class_ 100), (1, u "java/lang/Math$RandomNumberGeneratorHolder"), (71, u "negativeZeroFloatBits"), (0, u "J"), (2, u "negativeZeroDoubleBits"), (24, u "min"), (43, u "$assertionsDisabled"), (0, u "Z"), (88, u "(II)I"), (2, u "twoToTheDoubleScaleDown"), (0, u "D"), (4, u "twoToTheDoubleScaleUp"), (9, u "E"), (3, u "PI"), (2, u "TAU"), (2, u "DEGREES_TO_RADIANS"), (0, u "RADIANS_TO_DEGREES")] 94

def k12m0 : Method := { name := "<init>", desc := "()V", sig := { parameters := [], returnType := none }, accessFlags := 2, code := none }
def k12c1 : Code := { maxStack := 2, maxLocals := 2, code := jdk_29_method_69_code, exceptionTable := #[], attributes := #[] }
def k12m1 : Method := { name := "min", desc := "(II)I", sig := { parameters := [.int, .int], returnType := some .int }, accessFlags := 9, code := some k12c1 }
/-- java/lang/Math -/
def k12 : Class := { plain "java/lang/Math" (some 0) with
  accessFlags := 49
  interfaces := #[]
  cf := some (fileOf pool12 1 #[.nestMembers #[98]] #[{ accessFlags := 2, nameIndex := 7, descriptorIndex := 8, attributes := #[] }, { accessFlags := 9, nameIndex := 201, descriptorIndex := 335, attributes := #[] }] 49 4 #[] #[{ accessFlags := 25, nameIndex := 354, descriptorIndex := 339, attributes := #[] }, { accessFlags := 25, nameIndex := 358, descriptorIndex := 339, attributes := #[] }, { accessFlags := 25, nameIndex := 361, descriptorIndex := 339, attributes := #[] }, { accessFlags := 26, nameIndex := 364, descriptorIndex := 339, attributes := #[] }, { accessFlags := 26, nameIndex := 365, descriptorIndex := 339, attributes := #[] }, { accessFlags := 26, nameIndex := 172, descriptorIndex := 173, attributes := #[] }, { accessFlags := 26, nameIndex := 176, descriptorIndex := 173, attributes := #[] }, { accessFlags := 8, nameIndex := 344, descriptorIndex := 339, attributes := #[] }, { accessFlags := 8, nameIndex := 338, descriptorIndex := 339, attributes := #[] }, { accessFlags := 4120, nameIndex := 245, descriptorIndex := 246, attributes := #[] }])
  fields := #[{ name := "E", type := .double, accessFlags := 25, slot := 0, constantValue := 0 }, { name := "PI", type := .double, accessFlags := 25, slot := 1, constantValue := 0 }, { name := "TAU", type := .double, accessFlags := 25, slot := 2, constantValue := 0 }, { name := "DEGREES_TO_RADIANS", type := .double, accessFlags := 26, slot := 3, constantValue := 0 }, { name := "RADIANS_TO_DEGREES", type := .double, accessFlags := 26, slot := 4, constantValue := 0 }, { name := "negativeZeroFloatBits", type := .long, accessFlags := 26, slot := 5, constantValue := 0 }, { name := "negativeZeroDoubleBits", type := .long, accessFlags := 26, slot := 6, constantValue := 0 }, { name := "twoToTheDoubleScaleUp", type := .double, accessFlags := 8, slot := 7, constantValue := 0 }, { name := "twoToTheDoubleScaleDown", type := .double, accessFlags := 8, slot := 8, constantValue := 0 }, { name := "$assertionsDisabled", type := .boolean, accessFlags := 4120, slot := 9, constantValue := 0 }]
  methods := #[k12m0, k12m1]
  instanceTypes := #[]
  staticTypes := #[.double, .double, .double, .double, .double, .long, .long, .double, .double, .boolean]
  resolved := Array.replicate 460 none
  statics := none }

def pool13 : Array CpInfo := pool [(2, .class_ 4), (1, u "java/lang/Object"), (0, u "<init>"), (0, u "()V"), (17, .class_ 26), (1, u "jdk/internal/util/Preconditions"), (6, u "checkIndex"), (13, u "checkFromToIndex"), (7, .class_ 56), (0, u "jdk/internal/util/Preconditions$4"), (57, .class_ 115), (0, u "jdk/internal/util/Preconditions$1"), (7, u "SIOOBE_FORMATTER"), (0, u "Ljava/util/function/BiFunction;"), (0, .class_ 126), (0, u "jdk/internal/util/Preconditions$2"), (3, u "AIOOBE_FORMATTER"), (0, .class_ 132), (0, u "jdk/internal/util/Preconditions$3"), (3, u "IOOBE_FORMATTER"), (41, u "(IILjava/util/function/BiFunction;)I"), (4, u "(IIILjava/util/function/BiFunction;)I")] 10

def k13m0 : Method := { name := "<init>", desc := "()V", sig := { parameters := [], returnType := none }, accessFlags := 1, code := none }
def k13c1 : Code := { maxStack := 3, maxLocals := 3, code := jdk_41_method_11_code, exceptionTable := #[], attributes := #[] }
def k13m1 : Method := { name := "checkIndex", desc := "(IILjava/util/function/BiFunction;)I", sig := { parameters := [.int, .int, (.object "java/util/function/BiFunction")], returnType := some .int }, accessFlags := 9, code := some k13c1 }
def k13c2 : Code := { maxStack := 4, maxLocals := 4, code := jdk_41_method_12_code, exceptionTable := #[], attributes := #[] }
def k13m2 : Method := { name := "checkFromToIndex", desc := "(IIILjava/util/function/BiFunction;)I", sig := { parameters := [.int, .int, .int, (.object "java/util/function/BiFunction")], returnType := some .int }, accessFlags := 9, code := some k13c2 }
/-- jdk/internal/util/Preconditions -/
def k13 : Class := { plain "jdk/internal/util/Preconditions" (some 0) with
  accessFlags := 33
  interfaces := #[]
  cf := some (fileOf pool13 24 #[.nestMembers #[55, 131, 125, 114]] #[{ accessFlags := 1, nameIndex := 5, descriptorIndex := 6, attributes := #[] }, { accessFlags := 9, nameIndex := 33, descriptorIndex := 178, attributes := #[] }, { accessFlags := 9, nameIndex := 47, descriptorIndex := 183, attributes := #[] }] 33 2 #[] #[{ accessFlags := 25, nameIndex := 123, descriptorIndex := 124, attributes := #[] }, { accessFlags := 25, nameIndex := 130, descriptorIndex := 124, attributes := #[] }, { accessFlags := 25, nameIndex := 136, descriptorIndex := 124, attributes := #[] }])
  fields := #[{ name := "SIOOBE_FORMATTER", type := (.object "java/util/function/BiFunction"), accessFlags := 25, slot := 0, constantValue := 0 }, { name := "AIOOBE_FORMATTER", type := (.object "java/util/function/BiFunction"), accessFlags := 25, slot := 1, constantValue := 0 }, { name := "IOOBE_FORMATTER", type := (.object "java/util/function/BiFunction"), accessFlags := 25, slot := 2, constantValue := 0 }]
  methods := #[k13m0, k13m1, k13m2]
  instanceTypes := #[]
  staticTypes := #[(.object "java/util/function/BiFunction"), (.object "java/util/function/BiFunction"), (.object "java/util/function/BiFunction")]
  resolved := Array.replicate 194 none
  statics := some 1 }

def pool14 : Array CpInfo := pool [(6, .class_ 8), (1, u "java/lang/Object"), (0, u "<init>"), (0, u "()V"), (1, .class_ 14), (1, u "java/lang/StringUTF16"), (31, u "$assertionsDisabled"), (0, u "Z"), (13, u "HI_BYTE_SHIFT"), (0, u "I"), (2, u "LO_BYTE_SHIFT"), (49, .methodref 12 116), (0, .nameAndType 117 118), (0, u "compress"), (0, u "([CI[BII)I"), (3, u "([CII)[B"), (138, u "coderFromArrayLen"), (0, u "([BI)B"), (106, .class_ 371), (1, u "java/lang/StringUTF16$LinesSpliterator"), (58, u "MAX_LENGTH"), (196, .class_ 628), (0, u "java/lang/StringUTF16$CodePointsSpliterator"), (0, .class_ 630), (0, u "java/lang/StringUTF16$CharsSpliterator")] 4

def k14m0 : Method := { name := "<init>", desc := "()V", sig := { parameters := [], returnType := none }, accessFlags := 0, code := none }
def k14c1 : Code := { maxStack := 2, maxLocals := 2, code := jdk_52_method_15_code, exceptionTable := #[], attributes := #[] }
def k14m1 : Method := { name := "coderFromArrayLen", desc := "([BI)B", sig := { parameters := [(.array .byte), .int], returnType := some .byte }, accessFlags := 8, code := some k14c1 }
def k14c2 : Code := { maxStack := 5, maxLocals := 6, code := jdk_52_method_16_code, exceptionTable := #[], attributes := #[] }
def k14m2 : Method := { name := "compress", desc := "([CII)[B", sig := { parameters := [(.array .char), .int, .int], returnType := some (.array .byte) }, accessFlags := 9, code := some k14c2 }
def k14c3 : Code := { maxStack := 3, maxLocals := 7, code := jdk_52_method_21_code, exceptionTable := #[], attributes := #[] }
def k14m3 : Method := { name := "compress", desc := "([CI[BII)I", sig := { parameters := [(.array .char), .int, (.array .byte), .int, .int], returnType := some .int }, accessFlags := 9, code := some k14c3 }
/-- java/lang/StringUTF16 -/
def k14 : Class := { plain "java/lang/StringUTF16" (some 0) with
  accessFlags := 48
  interfaces := #[]
  cf := some (fileOf pool14 12 #[.nestMembers #[627, 629, 369]] #[{ accessFlags := 0, nameIndex := 9, descriptorIndex := 10, attributes := #[] }, { accessFlags := 8, nameIndex := 261, descriptorIndex := 262, attributes := #[] }, { accessFlags := 9, nameIndex := 117, descriptorIndex := 122, attributes := #[] }, { accessFlags := 9, nameIndex := 117, descriptorIndex := 118, attributes := #[] }] 48 6 #[] #[{ accessFlags := 26, nameIndex := 61, descriptorIndex := 62, attributes := #[] }, { accessFlags := 26, nameIndex := 65, descriptorIndex := 62, attributes := #[] }, { accessFlags := 24, nameIndex := 430, descriptorIndex := 62, attributes := #[] }, { accessFlags := 4120, nameIndex := 46, descriptorIndex := 47, attributes := #[] }])
  fields := #[{ name := "HI_BYTE_SHIFT", type := .int, accessFlags := 26, slot := 0, constantValue := 0 }, { name := "LO_BYTE_SHIFT", type := .int, accessFlags := 26, slot := 1, constantValue := 0 }, { name := "MAX_LENGTH", type := .int, accessFlags := 24, slot := 2, constantValue := 0 }, { name := "$assertionsDisabled", type := .boolean, accessFlags := 4120, slot := 3, constantValue := 0 }]
  methods := #[k14m0, k14m1, k14m2, k14m3]
  instanceTypes := #[]
  staticTypes := #[.int, .int, .int, .boolean]
  resolved := Array.replicate 635 none
  statics := none }

def pool15 : Array CpInfo := pool [(2, .class_ 4), (1, u "java/lang/Object"), (0, u "<init>"), (0, u "()V"), (7, .class_ 16), (1, u "java/util/Arrays"), (57, .class_ 76), (1, u "java/util/Arrays$NaturalOrder"), (36, .class_ 115), (1, u "java/util/Arrays$LegacyMergeSort"), (1, u "Z"), (21, u "copyOfRange"), (10, .methodref 151 152), (0, .class_ 153), (0, .nameAndType 154 155), (0, u "java/lang/System"), (0, u "arraycopy"), (0, u "(Ljava/lang/Object;ILjava/lang/Object;II)V"), (148, .methodref 305 306), (0, .class_ 307), (0, .nameAndType 308 309), (0, u "java/lang/Math"), (0, u "min"), (0, u "(II)I"), (29, .methodref 14 340), (0, .nameAndType 341 342), (0, u "copyOfRangeByte"), (0, u "([BII)[B"), (0, .methodref 14 344), (0, .nameAndType 345 346), (0, u "checkLength"), (0, u "(II)V"), (28, .class_ 376), (0, u "java/util/Arrays$ArrayList"), (68, u "$assertionsDisabled"), (269, u "MIN_ARRAY_SORT_GRAN"), (0, u "I"), (2, u "INSERTIONSORT_THRESHOLD"), (255, .class_ 976), (0, u "java/util/Arrays$ArrayItr")] 52

def k15m0 : Method := { name := "<init>", desc := "()V", sig := { parameters := [], returnType := none }, accessFlags := 2, code := none }
def k15c1 : Code := { maxStack := 4, maxLocals := 2, code := jdk_65_method_131_code, exceptionTable := #[], attributes := #[] }
def k15m1 : Method := { name := "checkLength", desc := "(II)V", sig := { parameters := [.int, .int], returnType := none }, accessFlags := 10, code := some k15c1 }
def k15c2 : Code := { maxStack := 3, maxLocals := 3, code := jdk_65_method_132_code, exceptionTable := #[], attributes := #[] }
def k15m2 : Method := { name := "copyOfRange", desc := "([BII)[B", sig := { parameters := [(.array .byte), .int, .int], returnType := some (.array .byte) }, accessFlags := 9, code := some k15c2 }
def k15c3 : Code := { maxStack := 6, maxLocals := 5, code := jdk_65_method_133_code, exceptionTable := #[], attributes := #[] }
def k15m3 : Method := { name := "copyOfRangeByte", desc := "([BII)[B", sig := { parameters := [(.array .byte), .int, .int], returnType := some (.array .byte) }, accessFlags := 10, code := some k15c3 }
/-- java/util/Arrays -/
def k15 : Class := { plain "java/util/Arrays" (some 0) with
  accessFlags := 49
  interfaces := #[]
  cf := some (fileOf pool15 14 #[.nestMembers #[975, 375, 113, 74]] #[{ accessFlags := 2, nameIndex := 5, descriptorIndex := 6, attributes := #[] }, { accessFlags := 10, nameIndex := 345, descriptorIndex := 346, attributes := #[] }, { accessFlags := 9, nameIndex := 139, descriptorIndex := 342, attributes := #[] }, { accessFlags := 10, nameIndex := 341, descriptorIndex := 342, attributes := #[] }] 49 2 #[] #[{ accessFlags := 26, nameIndex := 715, descriptorIndex := 716, attributes := #[] }, { accessFlags := 26, nameIndex := 719, descriptorIndex := 716, attributes := #[] }, { accessFlags := 4120, nameIndex := 445, descriptorIndex := 117, attributes := #[] }])
  fields := #[{ name := "MIN_ARRAY_SORT_GRAN", type := .int, accessFlags := 26, slot := 0, constantValue := 0 }, { name := "INSERTIONSORT_THRESHOLD", type := .int, accessFlags := 26, slot := 1, constantValue := 0 }, { name := "$assertionsDisabled", type := .boolean, accessFlags := 4120, slot := 2, constantValue := 0 }]
  methods := #[k15m0, k15m1, k15m2, k15m3]
  instanceTypes := #[]
  staticTypes := #[.int, .int, .boolean]
  resolved := Array.replicate 1029 none
  statics := none }

def pool16 : Array CpInfo := pool [(2, .class_ 4), (1, u "java/lang/Object"), (0, u "<init>"), (0, u "()V"), (1, .class_ 10), (1, u "java/lang/System"), (0, u "allowSecurityManager"), (0, u "I"), (16, u "cons"), (0, u "Ljava/io/Console;"), (77, .class_ 110), (1, u "java/lang/System$CallersHolder"), (43, u "initialErrStream"), (0, u "Ljava/io/PrintStream;"), (19, u "security"), (0, u "Ljava/lang/SecurityManager;"), (31, .class_ 209), (0, u "java/lang/System$1"), (7, u "props"), (0, u "Ljava/util/Properties;"), (2, u "lineSeparator"), (0, u "Ljava/lang/String;"), (96, .class_ 321), (1, u "java/lang/System$LoggerFinder"), (5, .class_ 328), (0, u "java/lang/System$Logger"), (67, u "err"), (2, u "out"), (91, u "notSupportedJnuEncoding"), (15, u "in"), (17, u "initialIn"), (0, u "Ljava/io/InputStream;"), (35, u "bootLayer"), (0, u "Ljava/lang/ModuleLayer;"), (99, .class_ 664), (0, u "java/lang/System$2"), (9, u "NEVER"), (2, u "MAYBE"), (49, u "arraycopy"), (0, u "(Ljava/lang/Object;ILjava/lang/Object;II)V"), (72, .class_ 802), (0, u "java/lang/System$Logger$Level")] 31

def k16m0 : Method := { name := "<init>", desc := "()V", sig := { parameters := [], returnType := none }, accessFlags := 2, code := none }
def k16m1 : Method := { name := "arraycopy", desc := "(Ljava/lang/Object;ILjava/lang/Object;II)V", sig := { parameters := [(.object "java/lang/Object"), .int, (.object "java/lang/Object"), .int, .int], returnType := none }, accessFlags := 265, code := none }
/-- java/lang/System -/
def k16 : Class := { plain "java/lang/System" (some 0) with
  accessFlags := 49
  interfaces := #[]
  cf := some (fileOf pool16 8 #[.nestMembers #[319, 327, 801, 108, 663, 208]] #[{ accessFlags := 2, nameIndex := 5, descriptorIndex := 6, attributes := #[] }, { accessFlags := 265, nameIndex := 727, descriptorIndex := 728, attributes := #[] }] 49 2 #[] #[{ accessFlags := 25, nameIndex := 507, descriptorIndex := 526, attributes := #[] }, { accessFlags := 25, nameIndex := 399, descriptorIndex := 155, attributes := #[] }, { accessFlags := 25, nameIndex := 396, descriptorIndex := 155, attributes := #[] }, { accessFlags := 10, nameIndex := 525, descriptorIndex := 526, attributes := #[] }, { accessFlags := 26, nameIndex := 674, descriptorIndex := 12, attributes := #[] }, { accessFlags := 26, nameIndex := 677, descriptorIndex := 12, attributes := #[] }, { accessFlags := 10, nameIndex := 11, descriptorIndex := 12, attributes := #[] }, { accessFlags := 74, nameIndex := 175, descriptorIndex := 176, attributes := #[] }, { accessFlags := 10, nameIndex := 491, descriptorIndex := 222, attributes := #[] }, { accessFlags := 74, nameIndex := 29, descriptorIndex := 30, attributes := #[] }, { accessFlags := 74, nameIndex := 154, descriptorIndex := 155, attributes := #[] }, { accessFlags := 10, nameIndex := 217, descriptorIndex := 218, attributes := #[] }, { accessFlags := 10, nameIndex := 221, descriptorIndex := 222, attributes := #[] }, { accessFlags := 8, nameIndex := 562, descriptorIndex := 563, attributes := #[] }])
  fields := #[{ name := "in", type := (.object "java/io/InputStream"), accessFlags := 25, slot := 0, constantValue := 0 }, { name := "out", type := (.object "java/io/PrintStream"), accessFlags := 25, slot := 1, constantValue := 0 }, { name := "err", type := (.object "java/io/PrintStream"), accessFlags := 25, slot := 2, constantValue := 0 }, { name := "initialIn", type := (.object "java/io/InputStream"), accessFlags := 10, slot := 3, constantValue := 0 }, { name := "NEVER", type := .int, accessFlags := 26, slot := 4, constantValue := 0 }, { name := "MAYBE", type := .int, accessFlags := 26, slot := 5, constantValue := 0 }, { name := "allowSecurityManager", type := .int, accessFlags := 10, slot := 6, constantValue := 0 }, { name := "security", type := (.object "java/lang/SecurityManager"), accessFlags := 74, slot := 7, constantValue := 0 }, { name := "notSupportedJnuEncoding", type := (.object "java/lang/String"), accessFlags := 10, slot := 8, constantValue := 0 }, { name := "cons", type := (.object "java/io/Console"), accessFlags := 74, slot := 9, constantValue := 0 }, { name := "initialErrStream", type := (.object "java/io/PrintStream"), accessFlags := 74, slot := 10, constantValue := 0 }, { name := "props", type := (.object "java/util/Properties"), accessFlags := 10, slot := 11, constantValue := 0 }, { name := "lineSeparator", type := (.object "java/lang/String"), accessFlags := 10, slot := 12, constantValue := 0 }, { name := "bootLayer", type := (.object "java/lang/ModuleLayer"), accessFlags := 8, slot := 13, constantValue := 0 }]
  methods := #[k16m0, k16m1]
  instanceTypes := #[]
  staticTypes := #[(.object "java/io/InputStream"), (.object "java/io/PrintStream"), (.object "java/io/PrintStream"), (.object "java/io/InputStream"), .int, .int, .int, (.object "java/lang/SecurityManager"), (.object "java/lang/String"), (.object "java/io/Console"), (.object "java/io/PrintStream"), (.object "java/util/Properties"), (.object "java/lang/String"), (.object "java/lang/ModuleLayer")]
  resolved := Array.replicate 834 none
  statics := none }

def pool17 : Array CpInfo := pool [(9, u "<init>"), (6, .class_ 18), (1, u "java/lang/Object"), (0, u "()V"), (1, .class_ 23), (1, u "jdk/internal/util/ArraysSupport"), (0, u "LOG2_ARRAY_LONG_INDEX_SCALE"), (0, u "I"), (2, u "U"), (0, u "Ljdk/internal/misc/Unsafe;"), (8, u "BIG_ENDIAN"), (0, u "Z"), (8, u "LOG2_BYTE_BIT_SIZE"), (4, u "LOG2_ARRAY_INT_INDEX_SCALE"), (54, u "JLA"), (0, u "Ljdk/internal/access/JavaLangAccess;"), (11, u "LOG2_ARRAY_BOOLEAN_INDEX_SCALE"), (9, u "LOG2_ARRAY_BYTE_INDEX_SCALE"), (5, u "LOG2_ARRAY_CHAR_INDEX_SCALE"), (5, u "LOG2_ARRAY_SHORT_INDEX_SCALE"), (18, u "LOG2_ARRAY_FLOAT_INDEX_SCALE"), (24, u "LOG2_ARRAY_DOUBLE_INDEX_SCALE"), (89, u "T_BOOLEAN"), (2, u "T_CHAR"), (1, u "T_FLOAT"), (1, u "T_DOUBLE"), (1, u "T_BYTE"), (1, u "T_SHORT"), (1, u "T_INT"), (1, u "T_LONG"), (1, u "SOFT_MAX_ARRAY_LENGTH")] 83

def k17m0 : Method := { name := "<init>", desc := "()V", sig := { parameters := [], returnType := none }, accessFlags := 2, code := none }
/-- jdk/internal/util/ArraysSupport -/
def k17 : Class := { plain "jdk/internal/util/ArraysSupport" (some 0) with
  accessFlags := 33
  interfaces := #[]
  cf := some (fileOf pool17 21 #[] #[{ accessFlags := 2, nameIndex := 9, descriptorIndex := 19, attributes := #[] }] 33 16 #[] #[{ accessFlags := 24, nameIndex := 28, descriptorIndex := 29, attributes := #[] }, { accessFlags := 26, nameIndex := 38, descriptorIndex := 39, attributes := #[] }, { accessFlags := 25, nameIndex := 121, descriptorIndex := 25, attributes := #[] }, { accessFlags := 25, nameIndex := 131, descriptorIndex := 25, attributes := #[] }, { accessFlags := 25, nameIndex := 137, descriptorIndex := 25, attributes := #[] }, { accessFlags := 25, nameIndex := 143, descriptorIndex := 25, attributes := #[] }, { accessFlags := 25, nameIndex := 53, descriptorIndex := 25, attributes := #[] }, { accessFlags := 25, nameIndex := 24, descriptorIndex := 25, attributes := #[] }, { accessFlags := 25, nameIndex := 162, descriptorIndex := 25, attributes := #[] }, { accessFlags := 25, nameIndex := 187, descriptorIndex := 25, attributes := #[] }, { accessFlags := 26, nameIndex := 48, descriptorIndex := 25, attributes := #[] }, { accessFlags := 25, nameIndex := 277, descriptorIndex := 25, attributes := #[] }, { accessFlags := 25, nameIndex := 280, descriptorIndex := 25, attributes := #[] }, { accessFlags := 25, nameIndex := 282, descriptorIndex := 25, attributes := #[] }, { accessFlags := 25, nameIndex := 284, descriptorIndex := 25, attributes := #[] }, { accessFlags := 25, nameIndex := 286, descriptorIndex := 25, attributes := #[] }, { accessFlags := 25, nameIndex := 288, descriptorIndex := 25, attributes := #[] }, { accessFlags := 25, nameIndex := 290, descriptorIndex := 25, attributes := #[] }, { accessFlags := 25, nameIndex := 292, descriptorIndex := 25, attributes := #[] }, { accessFlags := 26, nameIndex := 108, descriptorIndex := 109, attributes := #[] }, { accessFlags := 25, nameIndex := 294, descriptorIndex := 25, attributes := #[] }])
  fields := #[{ name := "U", type := (.object "jdk/internal/misc/Unsafe"), accessFlags := 24, slot := 0, constantValue := 0 }, { name := "BIG_ENDIAN", type := .boolean, accessFlags := 26, slot := 1, constantValue := 0 }, { name := "LOG2_ARRAY_BOOLEAN_INDEX_SCALE", type := .int, accessFlags := 25, slot := 2, constantValue := 0 }, { name := "LOG2_ARRAY_BYTE_INDEX_SCALE", type := .int, accessFlags := 25, slot := 3, constantValue := 0 }, { name := "LOG2_ARRAY_CHAR_INDEX_SCALE", type := .int, accessFlags := 25, slot := 4, constantValue := 0 }, { name := "LOG2_ARRAY_SHORT_INDEX_SCALE", type := .int, accessFlags := 25, slot := 5, constantValue := 0 }, { name := "LOG2_ARRAY_INT_INDEX_SCALE", type := .int, accessFlags := 25, slot := 6, constantValue := 0 }, { name := "LOG2_ARRAY_LONG_INDEX_SCALE", type := .int, accessFlags := 25, slot := 7, constantValue := 0 }, { name := "LOG2_ARRAY_FLOAT_INDEX_SCALE", type := .int, accessFlags := 25, slot := 8, constantValue := 0 }, { name := "LOG2_ARRAY_DOUBLE_INDEX_SCALE", type := .int, accessFlags := 25, slot := 9, constantValue := 0 }, { name := "LOG2_BYTE_BIT_SIZE", type := .int, accessFlags := 26, slot := 10, constantValue := 0 }, { name := "T_BOOLEAN", type := .int, accessFlags := 25, slot := 11, constantValue := 0 }, { name := "T_CHAR", type := .int, accessFlags := 25, slot := 12, constantValue := 0 }, { name := "T_FLOAT", type := .int, accessFlags := 25, slot := 13, constantValue := 0 }, { name := "T_DOUBLE", type := .int, accessFlags := 25, slot := 14, constantValue := 0 }, { name := "T_BYTE", type := .int, accessFlags := 25, slot := 15, constantValue := 0 }, { name := "T_SHORT", type := .int, accessFlags := 25, slot := 16, constantValue := 0 }, { name := "T_INT", type := .int, accessFlags := 25, slot := 17, constantValue := 0 }, { name := "T_LONG", type := .int, accessFlags := 25, slot := 18, constantValue := 0 }, { name := "JLA", type := (.object "jdk/internal/access/JavaLangAccess"), accessFlags := 26, slot := 19, constantValue := 0 }, { name := "SOFT_MAX_ARRAY_LENGTH", type := .int, accessFlags := 25, slot := 20, constantValue := 0 }]
  methods := #[k17m0]
  instanceTypes := #[]
  staticTypes := #[(.object "jdk/internal/misc/Unsafe"), .boolean, .int, .int, .int, .int, .int, .int, .int, .int, .int, .int, .int, .int, .int, .int, .int, .int, .int, (.object "jdk/internal/access/JavaLangAccess"), .int]
  resolved := Array.replicate 378 none
  statics := none }

def pool18 : Array CpInfo := pool [(1, u "java/lang/Cloneable"), (0, .class_ 1), (0, u "java/lang/Object"), (0, .class_ 3)] 3

/-- java/lang/Cloneable -/
def k18 : Class := { plain "java/lang/Cloneable" (some 0) with
  accessFlags := 1537
  interfaces := #[]
  cf := some (fileOf pool18 2 #[] #[] 1537 4 #[] #[])
  fields := #[]
  methods := #[]
  instanceTypes := #[]
  staticTypes := #[]
  resolved := Array.replicate 8 none
  statics := none }

/-- the primitive byte -/
def k19 : Class := { plain "byte" none with kind := .primitive 'B', accessFlags := 0x411 }
/-- [B -/
def k20 : Class := { plain "[B" (some 0) with kind := .array 19 .byte, interfaces := #[18, 2], accessFlags := 1041 }

/-- the primitive char -/
def k21 : Class := { plain "char" none with kind := .primitive 'C', accessFlags := 0x411 }
/-- [C -/
def k22 : Class := { plain "[C" (some 0) with kind := .array 21 .char, interfaces := #[18, 2], accessFlags := 1041 }

/-- the primitive int -/
def k23 : Class := { plain "int" none with kind := .primitive 'I', accessFlags := 0x411 }
/-- [I -/
def k24 : Class := { plain "[I" (some 0) with kind := .array 23 .int, interfaces := #[18, 2], accessFlags := 1041 }

def heap : Heap := #[{ cls := 7, slots := #[.long 0, .int 1, .null, .int 0, .null, .int 0, .int 0], vm := .statics 7 },
  { cls := 13, slots := #[.null, .null, .null], vm := .statics 13 }]
def classes : Array Class := #[k0, k1, k2, k3, k4, k5, k6, k7, k8, k9, k10, k11, k12, k13, k14, k15, k16, k17, k18, k19, k20, k21, k22, k23, k24]
def interned : List (Array UInt16 × Addr) := []
def slotsUsed : Nat := 10
def theMethod : MethodId := ⟨1, 4⟩
def args0 : Array Value := #[.int 5, .int 5, .int 5, .int 5, .int 5, .int 5]
def aboutOver (below : List Frame) : State where
  vm := { classes := classes, interned := interned.toArray }
  heap := heap
  slotsUsed := slotsUsed
  threads := #[{ frames := .invoking theMethod args0 :: below }]
def below0 : List Frame := [.native { method := ⟨0, 0⟩, args := #[] }]
def about1 : State := aboutOver below0
def p0 : Program := .bare "" "" ""
def e0 : Env := launch0.env 0 0 0
theorem w_frames : about1.frames = Frame.invoking theMethod args0 :: below0 := rfl
set_option maxRecDepth 65536 in
theorem w_args : argsFit about1.vm theMethod args0 = true := by decide +kernel
set_option maxRecDepth 65536 in
theorem w_heap : heapFits about1 = true := by decide +kernel
set_option maxRecDepth 65536 in
theorem w_runnable : about1.curStatus? = some .runnable := by decide +kernel
set_option maxRecDepth 65536 in
theorem w_alone : about1.alone = true := by decide +kernel
set_option maxRecDepth 65536 in
theorem w_named : about1.methodNamed? x = some theMethod := by decide +kernel
set_option maxRecDepth 65536 in
theorem w_hears : about1.hears theMethod below0 = true := by decide +kernel
set_option maxRecDepth 65536 in
theorem w_ripe : about1.ripe theMethod args0 below0 = true := by decide +kernel
theorem w_running : about1.status = .running := rfl
set_option maxRecDepth 65536 in
theorem w_room : about1.hasRoom e0.platform room_1 = true :=
  launch0.hasRoom_least _ room_1 (by decide +kernel) (by decide +kernel) (by decide +kernel) (by decide +kernel) (by decide +kernel) (by decide +kernel)
theorem allAtoms_all (ts : List Jvm.Cond) (a : Array Jvm.Value) (st : Jvm.State) : (allAtoms ts).before a st = ts.all (fun c => c.before a st) := by
  induction ts with
  | nil => rfl
  | cons c t ih =>
    show (Jvm.Cond.and c (allAtoms t)).before a st = _
    rw [Jvm.Cond.before_and, ih, List.all_cons]
def words1 : List Jvm.Cond := Jvm.Cond.code x code maxLocals ret :: tables_1
/-- a 'code' word, met by the world's own term for the bytes: nothing is compared byte by byte -/
theorem code_word {y : MethodName} {bytes : ByteArray} {mx : Nat} {rt : Option FieldType} {a : Array Value} {s : State} {m : MethodId} {meth : Method} {c : Code} (h1 : s.methodNamed? y = some m) (h2 : s.vm.method? m = some meth) (h3 : meth.code = some c) (h4 : c.code = bytes)
    (h5 : (c.maxLocals == mx && c.exceptionTable.isEmpty && decide (c.maxStack ≤ mostOperands) && decide (meth.sig.returnType = rt) && !meth.locks && decide (parseMethodDescriptor y.desc = some meth.sig)) = true) : (Jvm.Cond.code y bytes mx rt).before a s = true := by
  simp only [Bool.and_eq_true, beq_iff_eq, Bool.not_eq_true', decide_eq_true_eq] at h5
  obtain ⟨⟨⟨⟨⟨g1, g2⟩, g3⟩, g4⟩, g5⟩, g6⟩ := h5
  simp [Cond.before, Cond.holds, Cond.value, h1, h2, h3, h4, g1, g2, g3, g4, g5, g6]
def isCode : Jvm.Cond → Bool
  | .code _ _ _ _ => true
  | _ => false
theorem all_split {L : List Jvm.Cond} {P : Jvm.Cond → Bool} (h1 : L.all (fun c => isCode c || P c) = true) (h2 : ∀ c ∈ L.filter isCode, P c = true) : L.all P = true := by
  refine List.all_eq_true.mpr fun c hc => ?_
  have h := List.all_eq_true.mp h1 c hc
  rcases Bool.eq_false_or_eq_true (isCode c) with hi | hi
  · exact h2 c (List.mem_filter.mpr ⟨hc, hi⟩)
  · simpa [hi] using h
set_option maxRecDepth 65536 in
theorem w_c0 : (Jvm.Cond.code x code maxLocals ret).before args0 about1 = true := code_word (m := ⟨1, 4⟩) (meth := k1m4) (c := k1c4) (by decide +kernel) rfl rfl rfl (by decide +kernel)
set_option maxRecDepth 65536 in
theorem w_c1 : (Jvm.Cond.code ({ cls := "com/example/stubwright/stubwright/ImportSimpleNamePinLaw", name := "draw", desc := "(I)C" } : Jvm.MethodName) method_2_code (1 : Nat) (Option.some Jvm.ClassFile.FieldType.char)).before args0 about1 = true := code_word (m := ⟨1, 1⟩) (meth := k1m1) (c := k1c1) (by decide +kernel) rfl rfl rfl (by decide +kernel)
set_option maxRecDepth 65536 in
theorem w_c2 : (Jvm.Cond.code ({ cls := "com/example/stubwright/stubwright/ImportSimpleNamePinLaw", name := "make", desc := "(I[C)Ljava/lang/String;" } : Jvm.MethodName) method_3_code (2 : Nat) (Option.some (Jvm.ClassFile.FieldType.object "java/lang/String"))).before args0 about1 = true := code_word (m := ⟨1, 2⟩) (meth := k1m2) (c := k1c2) (by decide +kernel) rfl rfl rfl (by decide +kernel)
set_option maxRecDepth 65536 in
theorem w_c3 : (Jvm.Cond.code ({ cls := "com/example/stubwright/stubwright/Position", name := "<init>", desc := "(II)V" } : Jvm.MethodName) prog_69_method_1_code (3 : Nat) (Option.none : Option Jvm.ClassFile.FieldType)).before args0 about1 = true := code_word (m := ⟨10, 0⟩) (meth := k10m0) (c := k10c0) (by decide +kernel) rfl rfl rfl (by decide +kernel)
set_option maxRecDepth 65536 in
theorem w_c4 : (Jvm.Cond.code ({ cls := "java/lang/Record", name := "<init>", desc := "()V" } : Jvm.MethodName) jdk_30_method_1_code (1 : Nat) (Option.none : Option Jvm.ClassFile.FieldType)).before args0 about1 = true := code_word (m := ⟨8, 0⟩) (meth := k8m0) (c := k8c0) (by decide +kernel) rfl rfl rfl (by decide +kernel)
set_option maxRecDepth 65536 in
theorem w_c5 : (Jvm.Cond.code ({ cls := "java/lang/Object", name := "<init>", desc := "()V" } : Jvm.MethodName) object_method_1_code (1 : Nat) (Option.none : Option Jvm.ClassFile.FieldType)).before args0 about1 = true := code_word (m := ⟨0, 0⟩) (meth := k0m0) (c := k0c0) (by decide +kernel) rfl rfl rfl (by decide +kernel)
set_option maxRecDepth 65536 in
theorem w_c6 : (Jvm.Cond.code ({ cls := "com/example/stubwright/stubwright/Document$Import", name := "<init>", desc := "(Lcom/example/stubwright/stubwright/Position;Ljava/lang/String;)V" } : Jvm.MethodName) prog_36_method_1_code (3 : Nat) (Option.none : Option Jvm.ClassFile.FieldType)).before args0 about1 = true := code_word (m := ⟨9, 0⟩) (meth := k9m0) (c := k9c0) (by decide +kernel) rfl rfl rfl (by decide +kernel)
set_option maxRecDepth 65536 in
theorem w_c7 : (Jvm.Cond.code ({ cls := "com/example/stubwright/stubwright/Document$Import", name := "simpleName", desc := "()Ljava/lang/String;" } : Jvm.MethodName) prog_36_method_2_code (1 : Nat) (Option.some (Jvm.ClassFile.FieldType.object "java/lang/String"))).before args0 about1 = true := code_word (m := ⟨9, 1⟩) (meth := k9m1) (c := k9c1) (by decide +kernel) rfl rfl rfl (by decide +kernel)
set_option maxRecDepth 65536 in
theorem w_c8 : (Jvm.Cond.code ({ cls := "java/lang/String", name := "lastIndexOf", desc := "(I)I" } : Jvm.MethodName) jdk_42_method_82_code (2 : Nat) (Option.some Jvm.ClassFile.FieldType.int)).before args0 about1 = true := code_word (m := ⟨7, 4⟩) (meth := k7m4) (c := k7c4) (by decide +kernel) rfl rfl rfl (by decide +kernel)
set_option maxRecDepth 65536 in
theorem w_c9 : (Jvm.Cond.code ({ cls := "java/lang/String", name := "length", desc := "()I" } : Jvm.MethodName) jdk_42_method_54_code (1 : Nat) (Option.some Jvm.ClassFile.FieldType.int)).before args0 about1 = true := code_word (m := ⟨7, 2⟩) (meth := k7m2) (c := k7c2) (by decide +kernel) rfl rfl rfl (by decide +kernel)
set_option maxRecDepth 65536 in
theorem w_c10 : (Jvm.Cond.code ({ cls := "java/lang/String", name := "coder", desc := "()B" } : Jvm.MethodName) jdk_42_method_152_code (1 : Nat) (Option.some Jvm.ClassFile.FieldType.byte)).before args0 about1 = true := code_word (m := ⟨7, 10⟩) (meth := k7m10) (c := k7c10) (by decide +kernel) rfl rfl rfl (by decide +kernel)
set_option maxRecDepth 65536 in
theorem w_c11 : (Jvm.Cond.code ({ cls := "java/lang/String", name := "lastIndexOf", desc := "(II)I" } : Jvm.MethodName) jdk_42_method_83_code (3 : Nat) (Option.some Jvm.ClassFile.FieldType.int)).before args0 about1 = true := code_word (m := ⟨7, 5⟩) (meth := k7m5) (c := k7c5) (by decide +kernel) rfl rfl rfl (by decide +kernel)
set_option maxRecDepth 65536 in
theorem w_c12 : (Jvm.Cond.code ({ cls := "java/lang/String", name := "isLatin1", desc := "()Z" } : Jvm.MethodName) jdk_42_method_154_code (1 : Nat) (Option.some Jvm.ClassFile.FieldType.boolean)).before args0 about1 = true := code_word (m := ⟨7, 11⟩) (meth := k7m11) (c := k7c11) (by decide +kernel) rfl rfl rfl (by decide +kernel)
set_option maxRecDepth 65536 in
theorem w_c13 : (Jvm.Cond.code ({ cls := "java/lang/StringLatin1", name := "lastIndexOf", desc := "([BII)I" } : Jvm.MethodName) jdk_43_method_27_code (4 : Nat) (Option.some Jvm.ClassFile.FieldType.int)).before args0 about1 = true := code_word (m := ⟨11, 3⟩) (meth := k11m3) (c := k11c3) (by decide +kernel) rfl rfl rfl (by decide +kernel)
set_option maxRecDepth 65536 in
theorem w_c14 : (Jvm.Cond.code ({ cls := "java/lang/StringLatin1", name := "canEncode", desc := "(I)Z" } : Jvm.MethodName) jdk_43_method_4_code (1 : Nat) (Option.some Jvm.ClassFile.FieldType.boolean)).before args0 about1 = true := code_word (m := ⟨11, 2⟩) (meth := k11m2) (c := k11c2) (by decide +kernel) rfl rfl rfl (by decide +kernel)
set_option maxRecDepth 65536 in
theorem w_c15 : (Jvm.Cond.code ({ cls := "java/lang/Math", name := "min", desc := "(II)I" } : Jvm.MethodName) jdk_29_method_69_code (2 : Nat) (Option.some Jvm.ClassFile.FieldType.int)).before args0 about1 = true := code_word (m := ⟨12, 1⟩) (meth := k12m1) (c := k12c1) (by decide +kernel) rfl rfl rfl (by decide +kernel)
set_option maxRecDepth 65536 in
theorem w_c16 : (Jvm.Cond.code ({ cls := "java/lang/String", name := "substring", desc := "(I)Ljava/lang/String;" } : Jvm.MethodName) jdk_42_method_91_code (2 : Nat) (Option.some (Jvm.ClassFile.FieldType.object "java/lang/String"))).before args0 about1 = true := code_word (m := ⟨7, 6⟩) (meth := k7m6) (c := k7c6) (by decide +kernel) rfl rfl rfl (by decide +kernel)
set_option maxRecDepth 65536 in
theorem w_c17 : (Jvm.Cond.code ({ cls := "java/lang/String", name := "substring", desc := "(II)Ljava/lang/String;" } : Jvm.MethodName) jdk_42_method_92_code (5 : Nat) (Option.some (Jvm.ClassFile.FieldType.object "java/lang/String"))).before args0 about1 = true := code_word (m := ⟨7, 7⟩) (meth := k7m7) (c := k7c7) (by decide +kernel) rfl rfl rfl (by decide +kernel)
set_option maxRecDepth 65536 in
theorem w_c18 : (Jvm.Cond.code ({ cls := "java/lang/String", name := "checkBoundsBeginEnd", desc := "(III)V" } : Jvm.MethodName) jdk_42_method_158_code (3 : Nat) (Option.none : Option Jvm.ClassFile.FieldType)).before args0 about1 = true := code_word (m := ⟨7, 13⟩) (meth := k7m13) (c := k7c13) (by decide +kernel) rfl rfl rfl (by decide +kernel)
set_option maxRecDepth 65536 in
theorem w_c19 : (Jvm.Cond.code ({ cls := "jdk/internal/util/Preconditions", name := "checkFromToIndex", desc := "(IIILjava/util/function/BiFunction;)I" } : Jvm.MethodName) jdk_41_method_12_code (4 : Nat) (Option.some Jvm.ClassFile.FieldType.int)).before args0 about1 = true := code_word (m := ⟨13, 2⟩) (meth := k13m2) (c := k13c2) (by decide +kernel) rfl rfl rfl (by decide +kernel)
set_option maxRecDepth 65536 in
theorem w_c20 : (Jvm.Cond.code ({ cls := "com/example/stubwright/stubwright/ImportSimpleNamePinLaw", name := "at", desc := "(Ljava/lang/String;II[CI)Z" } : Jvm.MethodName) method_4_code (5 : Nat) (Option.some Jvm.ClassFile.FieldType.boolean)).before args0 about1 = true := code_word (m := ⟨1, 3⟩) (meth := k1m3) (c := k1c3) (by decide +kernel) rfl rfl rfl (by decide +kernel)
set_option maxRecDepth 65536 in
theorem w_c21 : (Jvm.Cond.code ({ cls := "java/lang/String", name := "<init>", desc := "([C)V" } : Jvm.MethodName) jdk_42_method_3_code (2 : Nat) (Option.none : Option Jvm.ClassFile.FieldType)).before args0 about1 = true := code_word (m := ⟨7, 1⟩) (meth := k7m1) (c := k7c1) (by decide +kernel) rfl rfl rfl (by decide +kernel)
set_option maxRecDepth 65536 in
theorem w_c22 : (Jvm.Cond.code ({ cls := "java/lang/String", name := "<init>", desc := "([CIILjava/lang/Void;)V" } : Jvm.MethodName) jdk_42_method_149_code (6 : Nat) (Option.none : Option Jvm.ClassFile.FieldType)).before args0 about1 = true := code_word (m := ⟨7, 8⟩) (meth := k7m8) (c := k7c8) (by decide +kernel) rfl rfl rfl (by decide +kernel)
set_option maxRecDepth 65536 in
theorem w_c23 : (Jvm.Cond.code ({ cls := "java/lang/StringUTF16", name := "compress", desc := "([CII)[B" } : Jvm.MethodName) jdk_52_method_16_code (6 : Nat) (Option.some (Jvm.ClassFile.FieldType.array Jvm.ClassFile.FieldType.byte))).before args0 about1 = true := code_word (m := ⟨14, 2⟩) (meth := k14m2) (c := k14c2) (by decide +kernel) rfl rfl rfl (by decide +kernel)
set_option maxRecDepth 65536 in
theorem w_c24 : (Jvm.Cond.code ({ cls := "java/lang/StringUTF16", name := "compress", desc := "([CI[BII)I" } : Jvm.MethodName) jdk_52_method_21_code (7 : Nat) (Option.some Jvm.ClassFile.FieldType.int)).before args0 about1 = true := code_word (m := ⟨14, 3⟩) (meth := k14m3) (c := k14c3) (by decide +kernel) rfl rfl rfl (by decide +kernel)
set_option maxRecDepth 65536 in
theorem w_c25 : (Jvm.Cond.code ({ cls := "java/lang/StringUTF16", name := "coderFromArrayLen", desc := "([BI)B" } : Jvm.MethodName) jdk_52_method_15_code (2 : Nat) (Option.some Jvm.ClassFile.FieldType.byte)).before args0 about1 = true := code_word (m := ⟨14, 1⟩) (meth := k14m1) (c := k14c1) (by decide +kernel) rfl rfl rfl (by decide +kernel)
set_option maxRecDepth 65536 in
theorem w_c26 : (Jvm.Cond.code ({ cls := "java/lang/StringLatin1", name := "newString", desc := "([BII)Ljava/lang/String;" } : Jvm.MethodName) jdk_43_method_47_code (3 : Nat) (Option.some (Jvm.ClassFile.FieldType.object "java/lang/String"))).before args0 about1 = true := code_word (m := ⟨11, 4⟩) (meth := k11m4) (c := k11c4) (by decide +kernel) rfl rfl rfl (by decide +kernel)
set_option maxRecDepth 65536 in
theorem w_c27 : (Jvm.Cond.code ({ cls := "java/lang/String", name := "charAt", desc := "(I)C" } : Jvm.MethodName) jdk_42_method_56_code (2 : Nat) (Option.some Jvm.ClassFile.FieldType.char)).before args0 about1 = true := code_word (m := ⟨7, 3⟩) (meth := k7m3) (c := k7c3) (by decide +kernel) rfl rfl rfl (by decide +kernel)
set_option maxRecDepth 65536 in
theorem w_c28 : (Jvm.Cond.code ({ cls := "java/lang/StringLatin1", name := "charAt", desc := "([BI)C" } : Jvm.MethodName) jdk_43_method_2_code (2 : Nat) (Option.some Jvm.ClassFile.FieldType.char)).before args0 about1 = true := code_word (m := ⟨11, 1⟩) (meth := k11m1) (c := k11c1) (by decide +kernel) rfl rfl rfl (by decide +kernel)
set_option maxRecDepth 65536 in
theorem w_c29 : (Jvm.Cond.code ({ cls := "java/lang/String", name := "checkIndex", desc := "(II)V" } : Jvm.MethodName) jdk_42_method_155_code (2 : Nat) (Option.none : Option Jvm.ClassFile.FieldType)).before args0 about1 = true := code_word (m := ⟨7, 12⟩) (meth := k7m12) (c := k7c12) (by decide +kernel) rfl rfl rfl (by decide +kernel)
set_option maxRecDepth 65536 in
theorem w_c30 : (Jvm.Cond.code ({ cls := "jdk/internal/util/Preconditions", name := "checkIndex", desc := "(IILjava/util/function/BiFunction;)I" } : Jvm.MethodName) jdk_41_method_11_code (3 : Nat) (Option.some Jvm.ClassFile.FieldType.int)).before args0 about1 = true := code_word (m := ⟨13, 1⟩) (meth := k13m1) (c := k13c1) (by decide +kernel) rfl rfl rfl (by decide +kernel)
set_option maxRecDepth 65536 in
theorem w_c31 : (Jvm.Cond.code ({ cls := "java/util/Arrays", name := "copyOfRange", desc := "([BII)[B" } : Jvm.MethodName) jdk_65_method_132_code (3 : Nat) (Option.some (Jvm.ClassFile.FieldType.array Jvm.ClassFile.FieldType.byte))).before args0 about1 = true := code_word (m := ⟨15, 2⟩) (meth := k15m2) (c := k15c2) (by decide +kernel) rfl rfl rfl (by decide +kernel)
set_option maxRecDepth 65536 in
theorem w_c32 : (Jvm.Cond.code ({ cls := "java/util/Arrays", name := "copyOfRangeByte", desc := "([BII)[B" } : Jvm.MethodName) jdk_65_method_133_code (5 : Nat) (Option.some (Jvm.ClassFile.FieldType.array Jvm.ClassFile.FieldType.byte))).before args0 about1 = true := code_word (m := ⟨15, 3⟩) (meth := k15m3) (c := k15c3) (by decide +kernel) rfl rfl rfl (by decide +kernel)
set_option maxRecDepth 65536 in
theorem w_c33 : (Jvm.Cond.code ({ cls := "java/util/Arrays", name := "checkLength", desc := "(II)V" } : Jvm.MethodName) jdk_65_method_131_code (2 : Nat) (Option.none : Option Jvm.ClassFile.FieldType)).before args0 about1 = true := code_word (m := ⟨15, 1⟩) (meth := k15m1) (c := k15c1) (by decide +kernel) rfl rfl rfl (by decide +kernel)
set_option maxRecDepth 65536 in
theorem w_c34 : (Jvm.Cond.code ({ cls := "java/lang/String", name := "<init>", desc := "([BB)V" } : Jvm.MethodName) jdk_42_method_151_code (3 : Nat) (Option.none : Option Jvm.ClassFile.FieldType)).before args0 about1 = true := code_word (m := ⟨7, 9⟩) (meth := k7m9) (c := k7c9) (by decide +kernel) rfl rfl rfl (by decide +kernel)
def codes1 : List Jvm.Cond := [Jvm.Cond.code x code maxLocals ret, Jvm.Cond.code ({ cls := "com/example/stubwright/stubwright/ImportSimpleNamePinLaw", name := "draw", desc := "(I)C" } : Jvm.MethodName) method_2_code (1 : Nat) (Option.some Jvm.ClassFile.FieldType.char), Jvm.Cond.code ({ cls := "com/example/stubwright/stubwright/ImportSimpleNamePinLaw", name := "make", desc := "(I[C)Ljava/lang/String;" } : Jvm.MethodName) method_3_code (2 : Nat) (Option.some (Jvm.ClassFile.FieldType.object "java/lang/String")), Jvm.Cond.code ({ cls := "com/example/stubwright/stubwright/Position", name := "<init>", desc := "(II)V" } : Jvm.MethodName) prog_69_method_1_code (3 : Nat) (Option.none : Option Jvm.ClassFile.FieldType), Jvm.Cond.code ({ cls := "java/lang/Record", name := "<init>", desc := "()V" } : Jvm.MethodName) jdk_30_method_1_code (1 : Nat) (Option.none : Option Jvm.ClassFile.FieldType), Jvm.Cond.code ({ cls := "java/lang/Object", name := "<init>", desc := "()V" } : Jvm.MethodName) object_method_1_code (1 : Nat) (Option.none : Option Jvm.ClassFile.FieldType), Jvm.Cond.code ({ cls := "com/example/stubwright/stubwright/Document$Import", name := "<init>", desc := "(Lcom/example/stubwright/stubwright/Position;Ljava/lang/String;)V" } : Jvm.MethodName) prog_36_method_1_code (3 : Nat) (Option.none : Option Jvm.ClassFile.FieldType), Jvm.Cond.code ({ cls := "com/example/stubwright/stubwright/Document$Import", name := "simpleName", desc := "()Ljava/lang/String;" } : Jvm.MethodName) prog_36_method_2_code (1 : Nat) (Option.some (Jvm.ClassFile.FieldType.object "java/lang/String")), Jvm.Cond.code ({ cls := "java/lang/String", name := "lastIndexOf", desc := "(I)I" } : Jvm.MethodName) jdk_42_method_82_code (2 : Nat) (Option.some Jvm.ClassFile.FieldType.int), Jvm.Cond.code ({ cls := "java/lang/String", name := "length", desc := "()I" } : Jvm.MethodName) jdk_42_method_54_code (1 : Nat) (Option.some Jvm.ClassFile.FieldType.int), Jvm.Cond.code ({ cls := "java/lang/String", name := "coder", desc := "()B" } : Jvm.MethodName) jdk_42_method_152_code (1 : Nat) (Option.some Jvm.ClassFile.FieldType.byte), Jvm.Cond.code ({ cls := "java/lang/String", name := "lastIndexOf", desc := "(II)I" } : Jvm.MethodName) jdk_42_method_83_code (3 : Nat) (Option.some Jvm.ClassFile.FieldType.int), Jvm.Cond.code ({ cls := "java/lang/String", name := "isLatin1", desc := "()Z" } : Jvm.MethodName) jdk_42_method_154_code (1 : Nat) (Option.some Jvm.ClassFile.FieldType.boolean), Jvm.Cond.code ({ cls := "java/lang/StringLatin1", name := "lastIndexOf", desc := "([BII)I" } : Jvm.MethodName) jdk_43_method_27_code (4 : Nat) (Option.some Jvm.ClassFile.FieldType.int), Jvm.Cond.code ({ cls := "java/lang/StringLatin1", name := "canEncode", desc := "(I)Z" } : Jvm.MethodName) jdk_43_method_4_code (1 : Nat) (Option.some Jvm.ClassFile.FieldType.boolean), Jvm.Cond.code ({ cls := "java/lang/Math", name := "min", desc := "(II)I" } : Jvm.MethodName) jdk_29_method_69_code (2 : Nat) (Option.some Jvm.ClassFile.FieldType.int), Jvm.Cond.code ({ cls := "java/lang/String", name := "substring", desc := "(I)Ljava/lang/String;" } : Jvm.MethodName) jdk_42_method_91_code (2 : Nat) (Option.some (Jvm.ClassFile.FieldType.object "java/lang/String")), Jvm.Cond.code ({ cls := "java/lang/String", name := "substring", desc := "(II)Ljava/lang/String;" } : Jvm.MethodName) jdk_42_method_92_code (5 : Nat) (Option.some (Jvm.ClassFile.FieldType.object "java/lang/String")), Jvm.Cond.code ({ cls := "java/lang/String", name := "checkBoundsBeginEnd", desc := "(III)V" } : Jvm.MethodName) jdk_42_method_158_code (3 : Nat) (Option.none : Option Jvm.ClassFile.FieldType), Jvm.Cond.code ({ cls := "jdk/internal/util/Preconditions", name := "checkFromToIndex", desc := "(IIILjava/util/function/BiFunction;)I" } : Jvm.MethodName) jdk_41_method_12_code (4 : Nat) (Option.some Jvm.ClassFile.FieldType.int), Jvm.Cond.code ({ cls := "com/example/stubwright/stubwright/ImportSimpleNamePinLaw", name := "at", desc := "(Ljava/lang/String;II[CI)Z" } : Jvm.MethodName) method_4_code (5 : Nat) (Option.some Jvm.ClassFile.FieldType.boolean), Jvm.Cond.code ({ cls := "java/lang/String", name := "<init>", desc := "([C)V" } : Jvm.MethodName) jdk_42_method_3_code (2 : Nat) (Option.none : Option Jvm.ClassFile.FieldType), Jvm.Cond.code ({ cls := "java/lang/String", name := "<init>", desc := "([CIILjava/lang/Void;)V" } : Jvm.MethodName) jdk_42_method_149_code (6 : Nat) (Option.none : Option Jvm.ClassFile.FieldType), Jvm.Cond.code ({ cls := "java/lang/StringUTF16", name := "compress", desc := "([CII)[B" } : Jvm.MethodName) jdk_52_method_16_code (6 : Nat) (Option.some (Jvm.ClassFile.FieldType.array Jvm.ClassFile.FieldType.byte)), Jvm.Cond.code ({ cls := "java/lang/StringUTF16", name := "compress", desc := "([CI[BII)I" } : Jvm.MethodName) jdk_52_method_21_code (7 : Nat) (Option.some Jvm.ClassFile.FieldType.int), Jvm.Cond.code ({ cls := "java/lang/StringUTF16", name := "coderFromArrayLen", desc := "([BI)B" } : Jvm.MethodName) jdk_52_method_15_code (2 : Nat) (Option.some Jvm.ClassFile.FieldType.byte), Jvm.Cond.code ({ cls := "java/lang/StringLatin1", name := "newString", desc := "([BII)Ljava/lang/String;" } : Jvm.MethodName) jdk_43_method_47_code (3 : Nat) (Option.some (Jvm.ClassFile.FieldType.object "java/lang/String")), Jvm.Cond.code ({ cls := "java/lang/String", name := "charAt", desc := "(I)C" } : Jvm.MethodName) jdk_42_method_56_code (2 : Nat) (Option.some Jvm.ClassFile.FieldType.char), Jvm.Cond.code ({ cls := "java/lang/StringLatin1", name := "charAt", desc := "([BI)C" } : Jvm.MethodName) jdk_43_method_2_code (2 : Nat) (Option.some Jvm.ClassFile.FieldType.char), Jvm.Cond.code ({ cls := "java/lang/String", name := "checkIndex", desc := "(II)V" } : Jvm.MethodName) jdk_42_method_155_code (2 : Nat) (Option.none : Option Jvm.ClassFile.FieldType), Jvm.Cond.code ({ cls := "jdk/internal/util/Preconditions", name := "checkIndex", desc := "(IILjava/util/function/BiFunction;)I" } : Jvm.MethodName) jdk_41_method_11_code (3 : Nat) (Option.some Jvm.ClassFile.FieldType.int), Jvm.Cond.code ({ cls := "java/util/Arrays", name := "copyOfRange", desc := "([BII)[B" } : Jvm.MethodName) jdk_65_method_132_code (3 : Nat) (Option.some (Jvm.ClassFile.FieldType.array Jvm.ClassFile.FieldType.byte)), Jvm.Cond.code ({ cls := "java/util/Arrays", name := "copyOfRangeByte", desc := "([BII)[B" } : Jvm.MethodName) jdk_65_method_133_code (5 : Nat) (Option.some (Jvm.ClassFile.FieldType.array Jvm.ClassFile.FieldType.byte)), Jvm.Cond.code ({ cls := "java/util/Arrays", name := "checkLength", desc := "(II)V" } : Jvm.MethodName) jdk_65_method_131_code (2 : Nat) (Option.none : Option Jvm.ClassFile.FieldType), Jvm.Cond.code ({ cls := "java/lang/String", name := "<init>", desc := "([BB)V" } : Jvm.MethodName) jdk_42_method_151_code (3 : Nat) (Option.none : Option Jvm.ClassFile.FieldType)]
set_option maxRecDepth 65536 in
theorem codes_eq : words1.filter isCode = codes1 := rfl
theorem w_codes : ∀ c ∈ words1.filter isCode, c.before args0 about1 = true := by
  rw [codes_eq]
  intro c hc
  simp only [codes1, List.mem_cons, List.not_mem_nil, or_false] at hc
  rcases hc with rfl | rfl | rfl | rfl | rfl | rfl | rfl | rfl | rfl | rfl | rfl | rfl | rfl | rfl | rfl | rfl | rfl | rfl | rfl | rfl | rfl | rfl | rfl | rfl | rfl | rfl | rfl | rfl | rfl | rfl | rfl | rfl | rfl | rfl | rfl
  · exact w_c0
  · exact w_c1
  · exact w_c2
  · exact w_c3
  · exact w_c4
  · exact w_c5
  · exact w_c6
  · exact w_c7
  · exact w_c8
  · exact w_c9
  · exact w_c10
  · exact w_c11
  · exact w_c12
  · exact w_c13
  · exact w_c14
  · exact w_c15
  · exact w_c16
  · exact w_c17
  · exact w_c18
  · exact w_c19
  · exact w_c20
  · exact w_c21
  · exact w_c22
  · exact w_c23
  · exact w_c24
  · exact w_c25
  · exact w_c26
  · exact w_c27
  · exact w_c28
  · exact w_c29
  · exact w_c30
  · exact w_c31
  · exact w_c32
  · exact w_c33
  · exact w_c34
set_option maxRecDepth 65536 in
theorem w_t1 : (words1.take 24).all (fun c => isCode c || c.before args0 about1) = true := by decide +kernel
set_option maxRecDepth 65536 in
theorem w_t2 : ((words1.drop 24).take 24).all (fun c => isCode c || c.before args0 about1) = true := by decide +kernel
set_option maxRecDepth 65536 in
theorem w_t3 : (((words1.drop 24).drop 24).take 24).all (fun c => isCode c || c.before args0 about1) = true := by decide +kernel
set_option maxRecDepth 65536 in
theorem w_t4 : ((((words1.drop 24).drop 24).drop 24).take 24).all (fun c => isCode c || c.before args0 about1) = true := by decide +kernel
set_option maxRecDepth 65536 in
theorem w_t5 : (((((words1.drop 24).drop 24).drop 24).drop 24).take 24).all (fun c => isCode c || c.before args0 about1) = true := by decide +kernel
set_option maxRecDepth 65536 in
theorem w_t6 : ((((((words1.drop 24).drop 24).drop 24).drop 24).drop 24).take 24).all (fun c => isCode c || c.before args0 about1) = true := by decide +kernel
set_option maxRecDepth 65536 in
theorem w_t7 : (((((((words1.drop 24).drop 24).drop 24).drop 24).drop 24).drop 24).take 24).all (fun c => isCode c || c.before args0 about1) = true := by decide +kernel
set_option maxRecDepth 65536 in
theorem w_t8 : (((((((words1.drop 24).drop 24).drop 24).drop 24).drop 24).drop 24).drop 24).all (fun c => isCode c || c.before args0 about1) = true := by decide +kernel
theorem w_tables : (allAtoms (Jvm.Cond.code x code maxLocals ret :: tables_1)).before args0 about1 = true := by
  rw [allAtoms_all]
  show words1.all (fun c => c.before args0 about1) = true
  refine all_split ?_ w_codes
  rw [← List.take_append_drop 24 words1, List.all_append, w_t1, ← List.take_append_drop 24 (words1.drop 24), List.all_append, w_t2, ← List.take_append_drop 24 ((words1.drop 24).drop 24), List.all_append, w_t3, ← List.take_append_drop 24 (((words1.drop 24).drop 24).drop 24), List.all_append, w_t4, ← List.take_append_drop 24 ((((words1.drop 24).drop 24).drop 24).drop 24), List.all_append, w_t5, ← List.take_append_drop 24 (((((words1.drop 24).drop 24).drop 24).drop 24).drop 24), List.all_append, w_t6, ← List.take_append_drop 24 ((((((words1.drop 24).drop 24).drop 24).drop 24).drop 24).drop 24), List.all_append, w_t7, w_t8]
  rfl
set_option maxRecDepth 65536 in
theorem w_rest : rest_1_c.before args0 about1 = true := by decide +kernel
set_option maxRecDepth 65536 in
theorem w_case : (Jvm.Cond.and given_1 narrow_1).before args0 about1 = true := by decide +kernel
set_option maxRecDepth 65536 in
theorem w_consts : constsHeld consts_1 about1 := Jvm.Lit.constsHeldB_iff.mp (by decide +kernel)
theorem w_applies : (headSpec (Jvm.Cond.code x code maxLocals ret :: tables_1) room_1).applies x e0.platform about1 = true :=
  (Spec.applies_iff w_frames).mpr ⟨w_running, w_runnable, w_alone, w_named, w_hears, w_ripe, w_room, w_tables⟩
theorem atStart : AtStart classFile x code maxLocals ret World_1 tables_1 room_1 Calls_1 rest_1 Pre_1 launch0 p0 e0 about1 theMethod args0 below0 :=
  ⟨lists_1, trivial, launch0.admits_env _ _ _, launch0.least_env, fairChoices_fair.cas, fairChoices_fair.clock, w_frames, w_args, w_heap, w_applies, ⟨w_consts, trivial⟩, w_rest, w_case⟩
end start1
theorem witness_1 : WitnessClaimed_1 := ⟨start1.p0, start1.e0, start1.about1, start1.theMethod, start1.args0, start1.below0, start1.atStart⟩
end Jvm.Pilot.@@N@@
