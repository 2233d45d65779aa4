import JvmDerived
import JvmDerived.Pilot.@@N@@Statement
import JvmDerived.Pilot.@@N@@Code
set_option linter.unusedVariables false
set_option linter.unusedSimpArgs false
namespace Jvm.RoadKit
section OwnHeaps
variable {h h' h2 hm : Heap} {ws : List Addr}
theorem Ext.oRefl (h : Heap) : Ext h h := ⟨Nat.le_refl _, fun _ _ q => q⟩
theorem Ext.oTrans (A : Ext h h') (B : Ext h' h2) : Ext h h2 := ⟨Nat.le_trans A.1 B.1, fun x c q => B.2 x c (A.2 x c q)⟩
theorem Keep.oExt (K : Keep h h' []) : Ext h h' := ⟨K.1, fun x c q => K.2.1 x c q (fun z => nomatch z)⟩
theorem Ext.oKeepOf (E : Ext h h') (ws : List Addr) : Keep h h' ws := (Keep.refl h ws).ext E
theorem Ext.oKeep (A : Ext hm h) (K : Keep h h' ws) (q : ∀ x ∈ ws, hm.size ≤ x) : Ext hm h' :=
  ⟨Nat.le_trans A.1 K.1, fun x c hx => K.2.1 x c (A.2 x c hx) fun z => absurd (Array.getElem?_eq_some_iff.mp hx).1 (Nat.not_lt.mpr (q x z))⟩
end OwnHeaps
end Jvm.RoadKit
namespace Jvm.OwnKit
open Sem ClassFile Op Lib Jvm.Stand Jvm.Free Jvm.LawKit Jvm.RoadKit Bundle
/-! the author's own layer: a walk as a chain of goals 'from this frame the body ends right' -/
/-- from this frame on the body comes to an end of which Q holds -/
def Goes (tb : Tables) (e : Env) (below : List Frame) (Q : Outcome → State → Prop) (T : State) (g : JFrame) : Prop :=
  ∃ s₂ o, Steps tb e below (T.setTop g) s₂ ∧ s₂.status = .running ∧ Ended s₂ below o ∧ Q o s₂
section Core
variable {tb : Tables} {e : Env} {below : List Frame} {Q : Outcome → State → Prop} {T T' : State} {g g' : JFrame}
theorem Goes.go (st : ∀ t, Steps tb e below (T'.setTop g') t → Steps tb e below (T.setTop g) t) (k : Goes tb e below Q T' g') : Goes tb e below Q T g := by
  obtain ⟨s₂, o, h1, h2⟩ := k
  exact ⟨s₂, o, st _ h1, h2⟩
theorem Goes.via (st : Steps tb e below (T.setTop g) (T'.setTop g')) (k : Goes tb e below Q T' g') : Goes tb e below Q T g := Goes.go (fun _ h => st.trans h) k
theorem Goes.cast {g1 : JFrame} (q : g = g1) (k : Goes tb e below Q T g1) : Goes tb e below Q T g := q ▸ k
end Core
/-! heaps -/
section Heaps
variable {Z : State} {EL : List (String × Nat)} {vm vm0 : Vm} {h h' h0 h2 hm : Heap} {ws : List Addr} {a b : Addr}
/-- safe under whatever alike tables -/
def SafeA (Z : State) (EL : List (String × Nat)) (h : Heap) (x : Addr) : Prop := ∀ vm : Vm, Z.vm.Alike vm → Safe Z EL vm h x
theorem SafeA.exa {C : String} (E : Exa Z h a C) (h1 : C ≠ "java/lang/String") (h2 : C ≠ "[B") : SafeA Z EL h a := fun _ hal => Safe.exa hal E h1 h2
theorem SafeA.arv {k : ClassId} {ty : FieldType} {z : Int32} {vs : List Value} {dv : Value} (A : Arv Z h a k ty z vs dv) (ht : ty ≠ .byte) : SafeA Z EL h a := fun _ hal => Safe.arv hal A ht
theorem SafeA.nil : SafeA Z [] h a := fun _ _ B => by obtain ⟨p, hp, -⟩ := B; cases hp
/-- how the mark goes on: it stays where only younger cells were written; or it is set anew, where what was written is younger or safe -/
def Mark (Z : State) (EL : List (String × Nat)) (hm h : Heap) (ws : List Addr) (h' hm' : Heap) : Prop :=
  (hm' = hm ∧ ∀ x ∈ ws, hm.size ≤ x) ∨ (hm' = h' ∧ ∀ x ∈ ws, hm.size ≤ x ∨ SafeA Z EL h x)
theorem Mark.stay (q : ∀ x ∈ ws, hm.size ≤ x) : Mark Z EL hm h ws h' hm := Or.inl ⟨rfl, q⟩
theorem Mark.anew (q : ∀ x ∈ ws, hm.size ≤ x ∨ SafeA Z EL h x) : Mark Z EL hm h ws h' h' := Or.inr ⟨rfl, q⟩
theorem mark_go {vs : Vm} {hs hm' : Heap} (hal : Z.vm.Alike vm0) (C : CHr Z EL vs hs vm0 hm) (E : Ext hm h) (K : Keep h h' ws) (M : Mark Z EL hm h ws h' hm') : CHr Z EL vs hs vm0 hm' ∧ Ext hm' h' := by
  rcases M with ⟨rfl, q⟩ | ⟨rfl, q⟩
  · exact ⟨C, E.oKeep K q⟩
  · have C1 := C.trans (CHr.ext E C.1)
    exact ⟨C1.trans (CHr.keep K (fun x hx => (q x hx).elim (fun y => Safe.ext E C.1 (Safe.new y)) (fun y => y _ hal)) C1.1), Ext.oRefl _⟩
end Heaps
/-! the walk -/
/-- where a walk stands: N: it may not have interned; hm: the mark (literals that the tables book lie in it); h: the heap -/
def Wk (N : Prop) (p : Program) (l : Launch) (e : Env) (R : Room) (s : State) (m : MethodId) (args : Array Value) (below : List Frame) (meth : Method) (c : Code) (Z : State) (own : String) (EL : List (String × Nat)) (hm : Heap) (T : State) (h : Heap) (cells slots : Nat) : Prop :=
  ∃ (vm0 : Vm) (locs : List Loc) (k0 : Nat), (N → vm0 = s.vm) ∧ Stand p l e R (s.setVm vm0) m args below meth c T locs cells slots ∧ T.heap = h ∧ p.tables.exec = Jvm.exec ∧ Z.Warmed39 vm0 ∧ vm0.findClass own = some m.cls ∧ Fr Z.heap.size locs ∧ s.Since vm0 k0 ∧ k0 ≤ h.size ∧ CHr Z EL s.vm s.heap vm0 hm ∧ Ext hm h ∧ Ext Z.heap h
/-- the two kinds of end -/
def EndN (Z s : State) (C S : Nat) (Qv : Option Value → Heap → Prop) (o : Outcome) (U : State) : Prop := ∃ v L, o = .returned v ∧ (Qv v U.heap ∧ Fr Z.heap.size L) ∧ FrameEnd s o U L C S
def EndS (Z s : State) (EL : List (String × Nat)) (C S : Nat) (Qv : Option Value → Heap → Prop) (o : Outcome) (U : State) : Prop := ∃ v L, o = .returned v ∧ (Qv v U.heap ∧ Fr Z.heap.size L) ∧ CHr Z EL s.vm s.heap U.vm U.heap ∧ ReturnedEndW s o U L C S
/-- a callee's contract: it interns nothing -/
def CtrN (l : Launch) (Z : State) (y : MethodName) (bytes : ByteArray) (maxL : Nat) (ret : Option FieldType) (rm : Room) (as' : Array Value) (h0 : Heap) (Qv : Option Value → Heap → Prop) : Prop :=
  ∀ ws, MetFree l y (head1 (Cond.code y bytes maxL ret :: ws) rm) (fun a U => a = as' ∧ Z.Warmed39 U.vm ∧ U.heap = h0) (fun _ _ _ _ _ => True) (fun _ U o U' => EndN Z U rm.cells rm.slots Qv o U')
/-- a callee's contract: it may intern -/
def CtrS (l : Launch) (Z : State) (EL : List (String × Nat)) (y : MethodName) (bytes : ByteArray) (maxL : Nat) (ret : Option FieldType) (rm : Room) (as' : Array Value) (h0 : Heap) (Qv : Option Value → Heap → Prop) : Prop :=
  ∀ ws, MetFree l y (head1 (Cond.code y bytes maxL ret :: ws) rm) (fun a U => a = as' ∧ Z.Warmed39 U.vm ∧ U.heap = h0 ∧ CHv Z EL U.vm h0) (fun _ _ _ _ _ => True) (fun _ U o U' => EndS Z U EL rm.cells rm.slots Qv o U')
section Walk
variable {N : Prop} {p : Program} {l : Launch} {e : Env} {R : Room} {s : State} {m : MethodId} {args : Array Value} {below : List Frame} {meth : Method} {c : Code} {Z : State} {a0 : Array Value} {own : String} {EL : List (String × Nat)} {hm : Heap} {T : State} {h : Heap} {cells slots : Nat} {Q : Outcome → State → Prop} {g : JFrame}
theorem Wk.here (X : Wk N p l e R s m args below meth c Z own EL hm T h cells slots) : At T m c below := by obtain ⟨_, _, _, _, X, _⟩ := X; exact X.here
theorem Wk.ex (X : Wk N p l e R s m args below meth c Z own EL hm T h cells slots) : p.tables.exec = Jvm.exec := by obtain ⟨_, _, _, _, _, _, q, _⟩ := X; exact q
theorem Wk.ext (X : Wk N p l e R s m args below meth c Z own EL hm T h cells slots) : Ext hm h := by obtain ⟨_, _, _, _, _, _, _, _, _, _, _, _, _, q, _⟩ := X; exact q
theorem Wk.old (X : Wk N p l e R s m args below meth c Z own EL hm T h cells slots) : Ext Z.heap h := by obtain ⟨_, _, _, _, _, _, _, _, _, _, _, _, _, _, q⟩ := X; exact q
theorem Wk.free (X : Wk N p l e R s m args below meth c Z own EL hm T h cells slots) : Wk False p l e R s m args below meth c Z own EL hm T h cells slots := by
  obtain ⟨vm0, locs, k0, _, r⟩ := X; exact ⟨vm0, locs, k0, fun q => q.elim, r⟩
/-- the mark may be set anew at any time -/
theorem Wk.mark (X : Wk N p l e R s m args below meth c Z own EL hm T h cells slots) : Wk N p l e R s m args below meth c Z own EL h T h cells slots := by
  obtain ⟨vm0, locs, k0, h1, h2, h3, h4, h5, h6, h7, h8, h9, h10, h11, h12⟩ := X
  exact ⟨vm0, locs, k0, h1, h2, h3, h4, h5, h6, h7, h8, h9, h10.trans (CHr.ext h11 h10.1), Ext.oRefl _, h12⟩
theorem Wk.mono {c' n' : Nat} (X : Wk N p l e R s m args below meth c Z own EL hm T h cells slots) (hc : cells ≤ c') (hn : slots ≤ n') : Wk N p l e R s m args below meth c Z own EL hm T h c' n' := by
  obtain ⟨vm0, locs, k0, h1, h2, r⟩ := X
  exact ⟨vm0, locs, k0, h1, h2.mono hc hn, r⟩
theorem Wk.start {s₁ : State} {h0 : Heap} (X : Stand p l e R s m args below meth c s₁ [] 0 0) (e0 : s₁.heap = h0) (es : s.heap = h0) (hx : p.tables.exec = Jvm.exec) (hZ : Z.Warmed39 s.vm) (hown : s.vm.findClass own = some m.cls) (H : CHv Z EL s.vm h0) (hO : Ext Z.heap h0) :
    Wk N p l e R s m args below meth c Z own EL h0 s₁ h0 0 0 :=
  ⟨s.vm, [], s.heap.size, fun _ => rfl, X, e0, hx, hZ, hown, Fr.nil _, (State.WarmedH.refl s).since _, by rw [es]; exact Nat.le_refl _, by rw [es]; exact CHr.refl H, Ext.oRefl _, hO⟩
/-! leaving -/
theorem Goes.outN {C S : Nat} {Qv : Option Value → Heap → Prop} (X : Wk True p l e R s m args below meth c Z own EL hm T h cells slots) {v : Option Value} (hv : meth.sig.returnType = none → v = none) (hlk : meth.locks = false)
    (st : ∀ fs, (∀ (f : JFrame) (acts : List Action), f.method = m → f.locked = none → f.entered = [] → (doReturn e (T.setTop f) acts v).1 = T.setFrames fs) → Steps p.tables e below (T.setTop g) (T.setFrames fs))
    (hq : Qv v h) (hc : cells ≤ C) (hs : slots ≤ S) : Goes p.tables e below (EndN Z s C S Qv) T g := by
  obtain ⟨vm0, locs, k0, h1, X, h3, h4, h5, h6, h7, h8, h9, h10, h11, h12⟩ := X
  obtain rfl := h1 trivial
  obtain ⟨fs, hr, hrun, hended, hW, hsame⟩ := X.leave (v := v) hv hlk
  exact ⟨_, _, st fs hr, hrun, hended, v, locs, rfl, ⟨by rw [← h3] at hq; exact hq, h7⟩, ⟨v, rfl⟩, hW, hsame.mono hc hs⟩
theorem Goes.outS {C S : Nat} {Qv : Option Value → Heap → Prop} (X : Wk N p l e R s m args below meth c Z own EL hm T h cells slots) (hEL : EW Z a0 EL) {v : Option Value} (hv : meth.sig.returnType = none → v = none) (hlk : meth.locks = false)
    (st : ∀ fs, (∀ (f : JFrame) (acts : List Action), f.method = m → f.locked = none → f.entered = [] → (doReturn e (T.setTop f) acts v).1 = T.setFrames fs) → Steps p.tables e below (T.setTop g) (T.setFrames fs))
    (hq : Qv v h) (hc : cells ≤ C) (hs : slots ≤ S) : Goes p.tables e below (EndS Z s EL C S Qv) T g := by
  obtain ⟨vm0, locs, k0, h1, X, h3, h4, h5, h6, h7, h8, h9, h10, h11, h12⟩ := X
  have h9' : k0 ≤ T.heap.size := by rw [h3]; exact h9
  obtain ⟨fs, hr, hrun, hended, r1, r2, r3, r4⟩ := X.leaveW h8 h9' (v := v) hv hlk
  have C1 := h10.trans (CHr.ext h11 h10.1)
  have C2 : CHr Z EL vm0 h T.vm h := CHv.at X h5 hEL C1.1
  refine ⟨_, _, st fs hr, hrun, hended, v, locs, rfl, ⟨by rw [← h3] at hq; exact hq, h7⟩, ?_, r1, r2, r3, r4.mono hc hs⟩
  have C3 := C1.trans C2
  rw [← h3] at C3
  exact C3
/-- the six returns; t: what is owed at the end (EndN or EndS) by outN, outS -/
theorem st_int {vm0 : Vm} {locs : List Loc} (X : Stand p l e R (s.setVm vm0) m args below meth c T locs cells slots) (hx : p.tables.exec = Jvm.exec) {pc : Nat} {Ls : Array Slot} {z : Int32} {rest : List Value} (hret : meth.sig.returnType = some .int) (hd : decode c.code pc = .ok (.ireturn, 1)) :
    ∀ fs, (∀ (f : JFrame) (acts : List Action), f.method = m → f.locked = none → f.entered = [] → (doReturn e (T.setTop f) acts (some (.int z))).1 = T.setFrames fs) → Steps p.tables e below (T.setTop (mkF m pc Ls (.int z :: rest))) (T.setFrames fs) :=
  fun fs hl => retOut X hx hret rfl (Or.inl ⟨rfl, Or.inl rfl, z, rfl⟩) hd hl
theorem Wk.rI (X : Wk N p l e R s m args below meth c Z own EL hm T h cells slots) {pc : Nat} {Ls : Array Slot} {z : Int32} {rest : List Value} (hret : meth.sig.returnType = some .int) (hd : decode c.code pc = .ok (.ireturn, 1)) :
    ∀ fs, (∀ (f : JFrame) (acts : List Action), f.method = m → f.locked = none → f.entered = [] → (doReturn e (T.setTop f) acts (some (.int z))).1 = T.setFrames fs) → Steps p.tables e below (T.setTop (mkF m pc Ls (.int z :: rest))) (T.setFrames fs) := by
  obtain ⟨vm0, locs, k0, h1, X', h3, h4, r⟩ := X
  exact fun fs hl => retOut X' h4 hret rfl (Or.inl ⟨rfl, Or.inl rfl, z, rfl⟩) hd hl
theorem Wk.rB (X : Wk N p l e R s m args below meth c Z own EL hm T h cells slots) {t : FieldType} {pc : Nat} {Ls : Array Slot} {z : Int32} {rest : List Value} (hret : meth.sig.returnType = some t) (ht : t = .boolean ∨ t = .byte ∨ t = .char ∨ t = .short) (hd : decode c.code pc = .ok (.ireturn, 1)) :
    ∀ fs, (∀ (f : JFrame) (acts : List Action), f.method = m → f.locked = none → f.entered = [] → (doReturn e (T.setTop f) acts (some (.int (nar t z)))).1 = T.setFrames fs) → Steps p.tables e below (T.setTop (mkF m pc Ls (.int z :: rest))) (T.setFrames fs) := by
  obtain ⟨vm0, locs, k0, h1, X', h3, h4, r⟩ := X
  exact fun fs hl => retN X' h4 hret ht hd hl
theorem Wk.rJ (X : Wk N p l e R s m args below meth c Z own EL hm T h cells slots) {pc : Nat} {Ls : Array Slot} {z : Int64} {rest : List Value} (hret : meth.sig.returnType = some .long) (hd : decode c.code pc = .ok (.lreturn, 1)) :
    ∀ fs, (∀ (f : JFrame) (acts : List Action), f.method = m → f.locked = none → f.entered = [] → (doReturn e (T.setTop f) acts (some (.long z))).1 = T.setFrames fs) → Steps p.tables e below (T.setTop (mkF m pc Ls (.long z :: rest))) (T.setFrames fs) := by
  obtain ⟨vm0, locs, k0, h1, X', h3, h4, r⟩ := X
  exact fun fs hl => retOut X' h4 hret rfl (Or.inr (Or.inl ⟨rfl, rfl, z, rfl⟩)) hd hl
theorem Wk.rA (X : Wk N p l e R s m args below meth c Z own EL hm T h cells slots) {t : FieldType} {pc : Nat} {Ls : Array Slot} {w : Value} {rest : List Value} (hret : meth.sig.returnType = some t) (ht : t.isReference = true) (hw : w.isRef = true) (hd : decode c.code pc = .ok (.areturn, 1)) :
    ∀ fs, (∀ (f : JFrame) (acts : List Action), f.method = m → f.locked = none → f.entered = [] → (doReturn e (T.setTop f) acts (some w)).1 = T.setFrames fs) → Steps p.tables e below (T.setTop (mkF m pc Ls (w :: rest))) (T.setFrames fs) := by
  obtain ⟨vm0, locs, k0, h1, X', h3, h4, r⟩ := X
  have hn : narrow t w = w := by
    rcases ref_cases hw with rfl | ⟨_, rfl⟩ <;> cases t <;> first | rfl | exact absurd ht (by decide)
  exact fun fs hl => retOut X' h4 hret hn (Or.inr (Or.inr (Or.inr (Or.inr ⟨rfl, ht, hw⟩)))) hd hl
theorem Wk.rV (X : Wk N p l e R s m args below meth c Z own EL hm T h cells slots) {pc : Nat} {Ls : Array Slot} (hret : meth.sig.returnType = none) (hd : decode c.code pc = .ok (.return_, 1)) :
    ∀ fs, (∀ (f : JFrame) (acts : List Action), f.method = m → f.locked = none → f.entered = [] → (doReturn e (T.setTop f) acts none).1 = T.setFrames fs) → Steps p.tables e below (T.setTop (mkF m pc Ls [])) (T.setFrames fs) := by
  obtain ⟨vm0, locs, k0, h1, X', h3, h4, r⟩ := X
  exact fun fs hl => X'.returnOut h4 hret hd hl
/-! steps that move the tables or the heap -/
theorem Wk.getF (X : Wk N p l e R s m args below meth c Z own EL hm T h cells slots) {R0 O n d host : String} {index : Nat} (w : (Cond.fieldLink own index R0 n d).before a0 Z = true ∨ (Cond.fieldLinkNest own index R0 n d host).before a0 Z = true) (via : Via Z R0 O n d) {a : Addr} {v : Value} (F : Fld Z h a O n d v)
    {g : JFrame} (hg : g.method = m) {rest : List Value} (hs : g.stack = .ref a :: rest) (hd : decode c.code g.pc = .ok (.getfield index, 3))
    (k : ∀ T', Wk N p l e R s m args below meth c Z own EL hm T' h cells slots → Goes p.tables e below Q T' { g with pc := g.pc + 3, stack := v :: rest }) : Goes p.tables e below Q T g := by
  obtain ⟨vm0, locs, k0, h1, X', h3, h4, h5, h6, r⟩ := X
  obtain ⟨T', X2, e2, st⟩ := RoadKit.getF (s := s.setVm vm0) X' h4 h5 h6 w via h3 F hg hs hd
  exact Goes.go st (k T' ⟨vm0, locs, k0, h1, X2, e2, h4, h5, h6, r⟩)
theorem Wk.getS (X : Wk N p l e R s m args below meth c Z own EL hm T h cells slots) {R0 O n d host : String} {index : Nat} (w : (Cond.fieldLink own index R0 n d).before a0 Z = true ∨ (Cond.fieldLinkNest own index R0 n d host).before a0 Z = true) (via : Via Z R0 O n d) {v : Value} (F : Sta Z Z.heap O n d v)
    {g : JFrame} (hg : g.method = m) (hd : decode c.code g.pc = .ok (.getstatic index, 3))
    (k : ∀ T', Wk N p l e R s m args below meth c Z own EL hm T' h cells slots → Goes p.tables e below Q T' { g with pc := g.pc + 3, stack := v :: g.stack }) : Goes p.tables e below Q T g := by
  have hOld := X.old
  obtain ⟨vm0, locs, k0, h1, X', h3, h4, h5, h6, r⟩ := X
  obtain ⟨T', X2, e2, st⟩ := getS2 (s := s.setVm vm0) X' h4 h5 h6 w via h3 (F.ext hOld) hg hd
  exact Goes.go st (k T' ⟨vm0, locs, k0, h1, X2, e2, h4, h5, h6, r⟩)
theorem Wk.new (X : Wk N p l e R s m args below meth c Z own EL hm T h cells slots) {C : String} {index n : Nat} (w : (Cond.classLink own index C).before a0 Z = true) (wi : (Cond.instantiable C n).before a0 Z = true) (wz : (Cond.initialized C).before a0 Z = true)
    {g : JFrame} (hg : g.method = m) (hd : decode c.code g.pc = .ok (.new index, 3)) (hc : cells + 1 ≤ R.cells) (hl : slots + n ≤ R.slots)
    (k : ∀ (T' : State) (h' : Heap) (a : Addr), a = h.size → Wk N p l e R s m args below meth c Z own EL hm T' h' (cells + 1) (slots + n) → Ext h h' → Exa Z h' a C → (∀ {O nm d : String} {ty : FieldType}, Laid Z a0 C O nm d → parseFieldDescriptor d = some ty → Fld Z h' a O nm d (defaultValue ty)) →
      Goes p.tables e below Q T' { g with pc := g.pc + 3, stack := .ref a :: g.stack }) : Goes p.tables e below Q T g := by
  obtain ⟨vm0, locs, k0, h1, X', h3, h4, h5, h6, h7, h8, h9, h10, h11, h12⟩ := X
  obtain ⟨T', h', X2, e2, E, A, D, -, st⟩ := newO (s := s.setVm vm0) X' h4 h5 h6 w wi wz h3 hg hd hc hl
  exact Goes.go st (k T' h' _ rfl ⟨vm0, locs, k0, h1, X2, e2, h4, h5, h6, h7, h8, Nat.le_trans h9 E.1, h10, h11.oTrans E, h12.oTrans E⟩ E A D)
theorem Wk.newA (X : Wk N p l e R s m args below meth c Z own EL hm T h cells slots) {aty : ArrayType} (w : (Cond.arrayClass (newarray.typeOf aty)).before a0 Z = true)
    {g : JFrame} (hg : g.method = m) (hd : decode c.code g.pc = .ok (.newarray aty, 2)) {n : Int32} {rest : List Value} (hs : g.stack = .int n :: rest) (hn : ¬ n < 0) {cap : Nat} (hcap : n.toNatClampNeg ≤ cap) (hb : cap * 8 ≤ 536870912) (hc : cells + 1 ≤ R.cells) (hl : slots + cap ≤ R.slots)
    (k : ∀ (T' : State) (h' : Heap) (a : Addr) (kA : ClassId), a = h.size → Wk N p l e R s m args below meth c Z own EL hm T' h' (cells + 1) (slots + cap) → Ext h h' → Arv Z h' a kA (newarray.typeOf aty) n [] (defaultValue (newarray.typeOf aty)) → Exa Z h' a ("[" ++ (newarray.typeOf aty).toString) →
      Goes p.tables e below Q T' { g with pc := g.pc + 2, stack := .ref a :: rest }) : Goes p.tables e below Q T g := by
  obtain ⟨vm0, locs, k0, h1, X', h3, h4, h5, h6, h7, h8, h9, h10, h11, h12⟩ := X
  obtain ⟨T', h', kA, X2, e2, E, A, B, st⟩ := newPE (s := s.setVm vm0) X' h4 h5 w h3 hg hd hs hn hcap hb hc hl rfl
  exact Goes.go st (k T' h' _ kA rfl ⟨vm0, locs, k0, h1, X2, e2, h4, h5, h6, h7, h8, Nat.le_trans h9 E.1, h10, h11.oTrans E, h12.oTrans E⟩ E (Arv.new A hn) B)
theorem own_fitC {a : Addr} {kA : ClassId} {ty : FieldType} {z : Int32} {vs : List Value} {dv : Value} {cl : Cell} (A : Arr Z h a cl ty) (Hh : Has cl vs dv) (G : ∀ i, i < cl.slots.size → fits ty (vs.getD i dv) = true) : FitC Z cl := by
  intro i v hv
  obtain ⟨-, kk, hk, comp, hkind⟩ := A.2.1
  have hi : i < cl.slots.size := (Array.getElem?_eq_some_iff.mp hv).1
  have e := Hh i hi
  rw [hv] at e
  cases e
  have e2 : Z.slotType? cl.cls .none i = some ty := by simp [State.slotType?, hk, hkind]
  simpa [State.fitsSlot, e2] using G i hi
theorem Wk.cloneV (X : Wk N p l e R s m args below meth c Z own EL hm T h cells slots) {ad : String} {index : Nat}
    (w1 : (Cond.methodLink own index ⟨ad, "clone", "()Ljava/lang/Object;"⟩).before a0 Z = true) (w2 : (Cond.sameMethod ad "java/lang/Object" "clone" "()Ljava/lang/Object;").before a0 Z = true) (w3 : (Cond.native ⟨"java/lang/Object", "clone", "()Ljava/lang/Object;"⟩).before a0 Z = true)
    (w4 : (Cond.instanceMethod ⟨"java/lang/Object", "clone", "()Ljava/lang/Object;"⟩).before a0 Z = true) (w5 : (Cond.selects ad ⟨ad, "clone", "()Ljava/lang/Object;"⟩ ⟨"java/lang/Object", "clone", "()Ljava/lang/Object;"⟩).before a0 Z = true) (w6 : (Cond.castable ad "java/lang/Cloneable").before a0 Z = true)
    {a : Addr} {kA : ClassId} {ty : FieldType} {z : Int32} {vs : List Value} {dv : Value} (A : Arv Z h a kA ty z vs dv) (E : Exa Z h a ad) {g : JFrame} (hg : g.method = m) (hsize : g.locals.size = c.maxLocals) {rest : List Value} (hs : g.stack = .ref a :: rest) (hd : decode c.code g.pc = .ok (.invokevirtual index, 3))
    (hf : 1 ≤ R.frames) {W cap : Nat} (hW : 2 * g.monitorRoom + (rest.map fun v => v.category).sum ≤ W) (hl : W + 14 ≤ R.locals) (hcap : z.toNatClampNeg ≤ cap) (hc : cells + 1 ≤ R.cells) (hsl : slots + cap ≤ R.slots)
    (k : ∀ (T' : State) (h' : Heap) (b : Addr), b = h.size → Wk N p l e R s m args below meth c Z own EL hm T' h' (cells + 1) (slots + cap) → Ext h h' → Arv Z h' b kA ty z vs dv → Exa Z h' b ad →
      Goes p.tables e below Q T' { g with pc := g.pc + 3, stack := .ref b :: rest }) : Goes p.tables e below Q T g := by
  obtain ⟨vm0, locs, k0, h1, X', h3, h4, h5, h6, h7, h8, h9, h10, h11, h12⟩ := X
  obtain ⟨cl, Ar, q, Sz, Nn, Hh, G⟩ := A
  obtain ⟨T', h', X2, e2, E2, A2, B2, st⟩ := cloneA (s := s.setVm vm0) X' h4 h5 h6 w1 w2 w3 w4 w5 w6 h3 Ar E (own_fitC (kA := kA) (z := z) Ar Hh G) hg hsize hs hd hf hW hl (cap := cap) (by rw [Sz]; exact hcap) hc hsl
  exact Goes.go st (k T' h' _ rfl ⟨vm0, locs, k0, h1, X2, e2, h4, h5, h6, h7, h8, Nat.le_trans h9 E2.1, h10, h11.oTrans E2, h12.oTrans E2⟩ E2 ⟨_, A2, q, Sz, Nn, Hh, G⟩ B2)
/-- the core of every write of one slot -/
theorem Wk.wrote {vm0 : Vm} {locs : List Loc} {k0 : Nat} {T' : State} {h' hm' : Heap} {a : Addr} {sl : Nat} {v : Value} (h1 : N → vm0 = s.vm) (h4 : p.tables.exec = Jvm.exec) (h5 : Z.Warmed39 vm0) (h6 : vm0.findClass own = some m.cls) (h7 : Fr Z.heap.size locs) (h8 : s.Since vm0 k0) (h9 : k0 ≤ h.size) (h10 : CHr Z EL s.vm s.heap vm0 hm) (h11 : Ext hm h) (h12 : Ext Z.heap h)
    (X2 : Stand p l e R (s.setVm vm0) m args below meth c T' (locs ++ [⟨a, sl⟩]) cells slots) (e2 : T'.heap = h') (W : Wr h h' a sl v) (ga : Z.heap.size ≤ a) (M : Mark Z EL hm h [a] h' hm') : Wk N p l e R s m args below meth c Z own EL hm' T' h' cells slots := by
  have K := Keep.of_wr W
  obtain ⟨C, E⟩ := mark_go h5.alike h10 h11 K M
  exact ⟨vm0, _, k0, h1, X2, e2, h4, h5, h6, Fr.snoc X2 h7 ga, h8, Nat.le_trans h9 K.1, C, E, h12.oKeep K (fun x hx => by cases List.mem_singleton.mp hx; exact ga)⟩
theorem Wk.putF {hm' : Heap → Heap} (X : Wk N p l e R s m args below meth c Z own EL hm T h cells slots) {R0 O n d host C : String} {index kk : Nat} {ty : FieldType} (w : (Cond.fieldLink own index R0 n d).before a0 Z = true ∨ (Cond.fieldLinkNest own index R0 n d host).before a0 Z = true) (via : Via Z R0 O n d)
    {a : Addr} {v old : Value} (F : Fld Z h a O n d old) (E : Exa Z h a C) (L : (Cond.lays C O n d).before a0 Z = true ∨ ((Cond.laysFinal C O n d).before a0 Z = true ∧ own = O ∧ meth.name = "<init>")) (wi : (Cond.instantiable C kk).before a0 Z = true)
    (hty : parseFieldDescriptor d = some ty) (hn : narrow ty v = v) (hf : fits ty v = true) (ga : Z.heap.size ≤ a) (M : ∀ h', Mark Z EL hm h [a] h' (hm' h')) {g : JFrame} (hg : g.method = m) {rest : List Value} (hs : g.stack = v :: .ref a :: rest) (hd : decode c.code g.pc = .ok (.putfield index, 3))
    (k : ∀ (T' : State) (h' : Heap), Wk N p l e R s m args below meth c Z own EL (hm' h') T' h' cells slots → Wr h h' a (Jvm.RoadKit.slotOf Z O n d) v → Goes p.tables e below Q T' { g with pc := g.pc + 3, stack := rest }) : Goes p.tables e below Q T g := by
  obtain ⟨vm0, locs, k0, h1, X', h3, h4, h5, h6, h7, h8, h9, h10, h11, h12⟩ := X
  obtain ⟨T', h', X2, e2, W, st⟩ := RoadKit.putF (s := s.setVm vm0) X' h4 h5 h6 w via h3 F E L wi hty hn hf hg hs hd
  exact Goes.go st (k T' h' (Wk.wrote h1 h4 h5 h6 h7 h8 h9 h10 h11 h12 X2 e2 W ga (M h')) W)
theorem Wk.putFN {hm' : Heap → Heap} (X : Wk N p l e R s m args below meth c Z own EL hm T h cells slots) {R0 O n d C : String} {index kk : Nat} {ty : FieldType} (w : (Cond.fieldLink own index R0 n d).before a0 Z = true) (via : Via Z R0 O n d)
    {a : Addr} {v v' old : Value} (F : Fld Z h a O n d old) (E : Exa Z h a C) (L : (Cond.lays C O n d).before a0 Z = true ∨ ((Cond.laysFinal C O n d).before a0 Z = true ∧ own = O ∧ meth.name = "<init>")) (wi : (Cond.instantiable C kk).before a0 Z = true)
    (hty : parseFieldDescriptor d = some ty) (hn : narrow ty v = v') (hf : fits ty v' = true) (ga : Z.heap.size ≤ a) (M : ∀ h', Mark Z EL hm h [a] h' (hm' h')) {g : JFrame} (hg : g.method = m) {rest : List Value} (hs : g.stack = v :: .ref a :: rest) (hd : decode c.code g.pc = .ok (.putfield index, 3))
    (k : ∀ (T' : State) (h' : Heap), Wk N p l e R s m args below meth c Z own EL (hm' h') T' h' cells slots → Wr h h' a (Jvm.RoadKit.slotOf Z O n d) v' → Goes p.tables e below Q T' { g with pc := g.pc + 3, stack := rest }) : Goes p.tables e below Q T g := by
  obtain ⟨vm0, locs, k0, h1, X', h3, h4, h5, h6, h7, h8, h9, h10, h11, h12⟩ := X
  obtain ⟨T', h', X2, e2, W, st⟩ := RoadKit.putFN (s := s.setVm vm0) X' h4 h5 h6 w via h3 F E L wi hty hn hf hg hs hd
  exact Goes.go st (k T' h' (Wk.wrote h1 h4 h5 h6 h7 h8 h9 h10 h11 h12 X2 e2 W ga (M h')) W)
theorem wr_same {O n d : String} {h' : Heap} {a : Addr} {v : Value} (W : Wr h h' a (Jvm.RoadKit.slotOf Z O n d) v) (F : Fld Z h a O n d v) : h' = h := by
  obtain ⟨cell, h1, -, hlt, rfl⟩ := W
  obtain ⟨c2, cf, k, i, f, g1, g2, -, -, -, -, g7⟩ := F
  cases h1.symm.trans g1
  have es : Jvm.RoadKit.slotOf Z O n d = f.slot := by simp [Jvm.RoadKit.slotOf, g2]
  have e1 : cell.setSlot f.slot v = cell := by
    have e2 : cell.slots.setIfInBounds f.slot v = cell.slots := by
      apply Array.ext_getElem?
      intro j
      by_cases q : f.slot = j
      · subst q
        rw [Array.getElem?_setIfInBounds_self_of_lt (Array.getElem?_eq_some_iff.mp g7).1, g7]
      · rw [Array.getElem?_setIfInBounds_ne q]
    show { cell with slots := cell.slots.setIfInBounds f.slot v } = cell
    rw [e2]
  rw [es, e1]
  apply Array.ext_getElem?
  intro j
  by_cases q : a = j
  · subst q
    rw [Array.getElem?_setIfInBounds_self_of_lt (Array.getElem?_eq_some_iff.mp h1).1, h1]
  · rw [Array.getElem?_setIfInBounds_ne q]
theorem Wk.putFNsame (X : Wk N p l e R s m args below meth c Z own EL hm T h cells slots) {R0 O n d C : String} {index kk : Nat} {ty : FieldType} (w : (Cond.fieldLink own index R0 n d).before a0 Z = true) (via : Via Z R0 O n d)
    {a : Addr} {v v' : Value} (F : Fld Z h a O n d v') (E : Exa Z h a C) (L : (Cond.lays C O n d).before a0 Z = true ∨ ((Cond.laysFinal C O n d).before a0 Z = true ∧ own = O ∧ meth.name = "<init>")) (wi : (Cond.instantiable C kk).before a0 Z = true)
    (hty : parseFieldDescriptor d = some ty) (hn : narrow ty v = v') (hf : fits ty v' = true) (ga : Z.heap.size ≤ a) {g : JFrame} (hg : g.method = m) {rest : List Value} (hs : g.stack = v :: .ref a :: rest) (hd : decode c.code g.pc = .ok (.putfield index, 3))
    (k : ∀ (T' : State), Wk N p l e R s m args below meth c Z own EL hm T' h cells slots → Goes p.tables e below Q T' { g with pc := g.pc + 3, stack := rest }) : Goes p.tables e below Q T g := by
  obtain ⟨vm0, locs, k0, h1, X', h3, h4, h5, h6, h7, h8, h9, h10, h11, h12⟩ := X
  obtain ⟨T', h', X2, e2, W, st⟩ := RoadKit.putFN (s := s.setVm vm0) X' h4 h5 h6 w via h3 F E L wi hty hn hf hg hs hd
  obtain rfl := wr_same W F
  exact Goes.go st (k T' ⟨vm0, _, k0, h1, X2, e2, h4, h5, h6, Fr.snoc X2 h7 ga, h8, h9, h10, h11, h12⟩)
theorem Wk.castore {hm' : Heap → Heap} (X : Wk N p l e R s m args below meth c Z own EL hm T h cells slots) {a : Addr} {kA : ClassId} {z j x : Int32} {vs : List Value} {dv : Value} (A : Arv Z h a kA .char z vs dv) (hj : ¬ j < 0 ∧ j < z) {i : Nat} (hi : j.toNatClampNeg = i) (hl : i < vs.length) (ga : Z.heap.size ≤ a) (M : ∀ h', Mark Z EL hm h [a] h' (hm' h'))
    {g : JFrame} (hg : g.method = m) {rest : List Value} (hs : g.stack = .int x :: .int j :: .ref a :: rest) (hd : decode c.code g.pc = .ok (.castore, 1))
    (k : ∀ (T' : State) (h' : Heap), Wk N p l e R s m args below meth c Z own EL (hm' h') T' h' cells slots → Wr h h' a j.toNatClampNeg (.int (nar .char x)) → Arv Z h' a kA .char z (vs.set i (.int (nar .char x))) dv → Goes p.tables e below Q T' { g with pc := g.pc + 1, stack := rest }) : Goes p.tables e below Q T g := by
  obtain ⟨vm0, locs, k0, h1, X', h3, h4, h5, h6, h7, h8, h9, h10, h11, h12⟩ := X
  obtain ⟨cl, Ar, q, Sz, Nn, Hh, G⟩ := A
  obtain ⟨T', h', X2, e2, W, st⟩ := stC (s := s.setVm vm0) X' h4 h5 h3 Ar (j := j) (inb_of Sz hj) hg hs hd
  exact Goes.go st (k T' h' (Wk.wrote h1 h4 h5 h6 h7 h8 h9 h10 h11 h12 X2 e2 W ga (M h')) W (Arv.set Ar q Sz Nn Hh G (fits_nar_char _) W i hi hl))
theorem Wk.lastore {hm' : Heap → Heap} (X : Wk N p l e R s m args below meth c Z own EL hm T h cells slots) {a : Addr} {kA : ClassId} {z j : Int32} {x : Int64} {vs : List Value} {dv : Value} (A : Arv Z h a kA .long z vs dv) (hj : ¬ j < 0 ∧ j < z) {i : Nat} (hi : j.toNatClampNeg = i) (hl : i < vs.length) (ga : Z.heap.size ≤ a) (M : ∀ h', Mark Z EL hm h [a] h' (hm' h'))
    {g : JFrame} (hg : g.method = m) {rest : List Value} (hs : g.stack = .long x :: .int j :: .ref a :: rest) (hd : decode c.code g.pc = .ok (.lastore, 1))
    (k : ∀ (T' : State) (h' : Heap), Wk N p l e R s m args below meth c Z own EL (hm' h') T' h' cells slots → Wr h h' a j.toNatClampNeg (.long x) → Arv Z h' a kA .long z (vs.set i (.long x)) dv → Goes p.tables e below Q T' { g with pc := g.pc + 1, stack := rest }) : Goes p.tables e below Q T g := by
  obtain ⟨vm0, locs, k0, h1, X', h3, h4, h5, h6, h7, h8, h9, h10, h11, h12⟩ := X
  obtain ⟨cl, Ar, q, Sz, Nn, Hh, G⟩ := A
  obtain ⟨T', h', X2, e2, W, st⟩ := stJ (s := s.setVm vm0) X' h4 h5 h3 Ar (j := j) (inb_of Sz hj) hg hs hd
  exact Goes.go st (k T' h' (Wk.wrote h1 h4 h5 h6 h7 h8 h9 h10 h11 h12 X2 e2 W ga (M h')) W (Arv.set Ar q Sz Nn Hh G rfl W i hi hl))
theorem Wk.bastore {hm' : Heap → Heap} (X : Wk N p l e R s m args below meth c Z own EL hm T h cells slots) {a : Addr} {kA : ClassId} {z j x : Int32} {vs : List Value} {dv : Value} (A : Arv Z h a kA .byte z vs dv) (hj : ¬ j < 0 ∧ j < z) {i : Nat} (hi : j.toNatClampNeg = i) (hl : i < vs.length) (ga : Z.heap.size ≤ a) (M : ∀ h', Mark Z EL hm h [a] h' (hm' h'))
    {g : JFrame} (hg : g.method = m) {rest : List Value} (hs : g.stack = .int x :: .int j :: .ref a :: rest) (hd : decode c.code g.pc = .ok (.bastore, 1))
    (k : ∀ (T' : State) (h' : Heap), Wk N p l e R s m args below meth c Z own EL (hm' h') T' h' cells slots → Wr h h' a j.toNatClampNeg (.int (nar .byte x)) → Arv Z h' a kA .byte z (vs.set i (.int (nar .byte x))) dv → Goes p.tables e below Q T' { g with pc := g.pc + 1, stack := rest }) : Goes p.tables e below Q T g := by
  obtain ⟨vm0, locs, k0, h1, X', h3, h4, h5, h6, h7, h8, h9, h10, h11, h12⟩ := X
  obtain ⟨cl, Ar, q, Sz, Nn, Hh, G⟩ := A
  obtain ⟨T', h', X2, e2, W, st⟩ := stB (s := s.setVm vm0) X' h4 h5 h3 Ar (j := j) (inb_of Sz hj) hg hs hd
  exact Goes.go st (k T' h' (Wk.wrote h1 h4 h5 h6 h7 h8 h9 h10 h11 h12 X2 e2 W ga (M h')) W (Arv.set Ar q Sz Nn Hh G (fits_nar_byte _) W i hi hl))
/-! loads out of arrays, lengths -/
theorem Wk.caload (X : Wk N p l e R s m args below meth c Z own EL hm T h cells slots) {a : Addr} {kA : ClassId} {z j : Int32} {vs : List Value} {dv v : Value} (A : Arv Z h a kA .char z vs dv) (hj : ¬ j < 0 ∧ j < z) (hv : vs.getD j.toNatClampNeg dv = v)
    {g : JFrame} (hg : g.method = m) {rest : List Value} (hs : g.stack = .int j :: .ref a :: rest) (hd : decode c.code g.pc = .ok (.caload, 1)) : ∀ t, Steps p.tables e below (T.setTop { g with pc := g.pc + 1, stack := v :: rest }) t → Steps p.tables e below (T.setTop g) t := by
  obtain ⟨vm0, locs, k0, h1, X', h3, h4, h5, r⟩ := X
  obtain ⟨cl, Ar, q, Sz, Nn, Hh, G⟩ := A
  intro t k
  exact X'.caload h4 (j := j) (v := v) (by rw [h3]; exact Ar.1) (State.isArrayOf_alike h5.alike Ar.2.1) Ar.2.2 (inb_of Sz hj) (Hh.at (inb_of Sz hj) hv) hg hs hd t k
theorem Wk.laload (X : Wk N p l e R s m args below meth c Z own EL hm T h cells slots) {a : Addr} {kA : ClassId} {z j : Int32} {vs : List Value} {dv v : Value} (A : Arv Z h a kA .long z vs dv) (hj : ¬ j < 0 ∧ j < z) (hv : vs.getD j.toNatClampNeg dv = v)
    {g : JFrame} (hg : g.method = m) {rest : List Value} (hs : g.stack = .int j :: .ref a :: rest) (hd : decode c.code g.pc = .ok (.laload, 1)) : ∀ t, Steps p.tables e below (T.setTop { g with pc := g.pc + 1, stack := v :: rest }) t → Steps p.tables e below (T.setTop g) t := by
  obtain ⟨vm0, locs, k0, h1, X', h3, h4, h5, r⟩ := X
  obtain ⟨cl, Ar, q, Sz, Nn, Hh, G⟩ := A
  intro t k
  exact X'.laload h4 (j := j) (v := v) (by rw [h3]; exact Ar.1) (State.isArrayOf_alike h5.alike Ar.2.1) Ar.2.2 (inb_of Sz hj) (Hh.at (inb_of Sz hj) hv) hg hs hd t k
theorem Wk.baload (X : Wk N p l e R s m args below meth c Z own EL hm T h cells slots) {a : Addr} {kA : ClassId} {z j : Int32} {vs : List Value} {dv v : Value} (A : Arv Z h a kA .byte z vs dv) (hj : ¬ j < 0 ∧ j < z) (hv : vs.getD j.toNatClampNeg dv = v)
    {g : JFrame} (hg : g.method = m) {rest : List Value} (hs : g.stack = .int j :: .ref a :: rest) (hd : decode c.code g.pc = .ok (.baload, 1)) : ∀ t, Steps p.tables e below (T.setTop { g with pc := g.pc + 1, stack := v :: rest }) t → Steps p.tables e below (T.setTop g) t := by
  obtain ⟨vm0, locs, k0, h1, X', h3, h4, h5, r⟩ := X
  obtain ⟨cl, Ar, q, Sz, Nn, Hh, G⟩ := A
  intro t k
  exact X'.baloadBytes h4 (j := j) (v := v) (by rw [h3]; exact Ar.1) (State.isArrayOf_alike h5.alike Ar.2.1) Ar.2.2 (inb_of Sz hj) (Hh.at (inb_of Sz hj) hv) hg hs hd t k
theorem Wk.alen (X : Wk N p l e R s m args below meth c Z own EL hm T h cells slots) {a : Addr} {kA : ClassId} {ty : FieldType} {z : Int32} {vs : List Value} {dv : Value} (A : Arv Z h a kA ty z vs dv)
    {g : JFrame} (hg : g.method = m) {rest : List Value} (hs : g.stack = .ref a :: rest) (hd : decode c.code g.pc = .ok (.arraylength, 1)) : ∀ t, Steps p.tables e below (T.setTop { g with pc := g.pc + 1, stack := .int z :: rest }) t → Steps p.tables e below (T.setTop g) t := by
  obtain ⟨vm0, locs, k0, h1, X', h3, h4, h5, r⟩ := X
  obtain ⟨cl, Ar, q, Sz, Nn, Hh, G⟩ := A
  intro t k
  rw [← len_of Sz Nn] at k
  exact X'.arraylength h4 (by rw [h3]; exact Ar.1) (State.isArrayOf_alike h5.alike Ar.2.1) hg hs hd t k
theorem Wk.acopy {hm' : Heap → Heap} (X : Wk N p l e R s m args below meth c Z own EL hm T h cells slots) {index : Nat}
    (w1 : (Cond.methodLink own index Jvm.Stand.acN).before a0 Z = true) (w2 : (Cond.native Jvm.Stand.acN).before a0 Z = true) (w3 : (Cond.static Jvm.Stand.acN).before a0 Z = true) (w4 : (Cond.initialized "java/lang/System").before a0 Z = true)
    {a b : Addr} {k' kA : ClassId} {ty ty' : FieldType} {z z' sp dp nn : Int32} {vs vd us : List Value} {dv dd : Value} (A : Arv Z h a kA ty z vs dv) (B : Arv Z h b k' ty' z' vd dd) (hty : ty = ty' ∧ refKind ty = false)
    (h1 : ¬ sp < 0) (h2 : ¬ dp < 0) (h3 : ¬ nn < 0) (h4 : sp.toNatClampNeg + nn.toNatClampNeg ≤ z.toNatClampNeg) (h5 : dp.toNatClampNeg + nn.toNatClampNeg ≤ z'.toNatClampNeg)
    (hus : us = (List.range nn.toNatClampNeg).map fun i => vs.getD (sp.toNatClampNeg + i) dv) (hl : dp.toNatClampNeg + nn.toNatClampNeg ≤ vd.length) (gb : Z.heap.size ≤ b) (M : ∀ h', Mark Z EL hm h [b] h' (hm' h'))
    {g : JFrame} (hg : g.method = m) (hsize : g.locals.size = c.maxLocals) {rest : List Value} (hs : g.stack = .int nn :: .int dp :: .ref b :: .int sp :: .ref a :: rest) (hd : decode c.code g.pc = .ok (.invokestatic index, 3))
    (hf : 1 ≤ R.frames) {W : Nat} (hW : 2 * g.monitorRoom + (rest.map fun v => v.category).sum ≤ W) (hlo : W + (nativeFrameWords "java/lang/System" "arraycopy" 5 + 11) ≤ R.locals)
    (k : ∀ (T' : State) (h' : Heap), Wk N p l e R s m args below meth c Z own EL (hm' h') T' h' cells slots → Keep h h' [b] → Arv Z h' b k' ty' z' (vd.take dp.toNatClampNeg ++ us ++ vd.drop (dp.toNatClampNeg + nn.toNatClampNeg)) dd → Goes p.tables e below Q T' { g with pc := g.pc + 3, stack := rest }) : Goes p.tables e below Q T g := by
  obtain ⟨vm0, locs, k0, x1, X', x3, x4, x5, x6, x7, x8, x9, x10, x11, x12⟩ := X
  obtain ⟨T', h', L, X2, e2, FL, K, A2, st⟩ := cpA (s := s.setVm vm0) X' x4 x5 x6 w1 w2 w3 w4 x3 A B (Or.inl hty) h1 h2 h3 h4 h5 hus hl x7 gb hg hsize hs hd hf hW hlo
  obtain ⟨C, E⟩ := mark_go x5.alike x10 x11 K (M h')
  exact Goes.go st (k T' h' ⟨vm0, L, k0, x1, X2, e2, x4, x5, x6, FL, x8, Nat.le_trans x9 K.1, C, E, x12.oKeep K (fun x hx => by cases List.mem_singleton.mp hx; exact gb)⟩ K A2)
theorem Wk.ldcI (X : Wk N p l e R s m args below meth c Z own EL hm T h cells slots) {index : Nat} {v : Int32} (w : (Cond.constant own index v).before a0 Z = true) {g : JFrame} (hg : g.method = m) (hd : decode c.code g.pc = .ok (.ldc index, 2)) : ∀ t, Steps p.tables e below (T.setTop { g with pc := g.pc + 2, stack := .int v :: g.stack }) t → Steps p.tables e below (T.setTop g) t := by
  obtain ⟨vm0, locs, k0, h1, X', h3, h4, h5, h6, r⟩ := X
  exact X'.ldcInt h4 h6 (mv (s := s.setVm vm0) h5 w) hg hd
theorem Wk.ldcL (X : Wk N p l e R s m args below meth c Z own EL hm T h cells slots) {index : Nat} {v : Int64} (w : (Cond.constantLong own index v).before a0 Z = true) {g : JFrame} (hg : g.method = m) (hd : decode c.code g.pc = .ok (.ldc2_w index, 3)) : ∀ t, Steps p.tables e below (T.setTop { g with pc := g.pc + 3, stack := .long v :: g.stack }) t → Steps p.tables e below (T.setTop g) t := by
  obtain ⟨vm0, locs, k0, h1, X', h3, h4, h5, h6, r⟩ := X
  exact X'.ldc2Long h4 h6 (mv (s := s.setVm vm0) h5 w) hg hd
theorem Wk.castY (X : Wk N p l e R s m args below meth c Z own EL hm T h cells slots) {K : String} {index : Nat} (w : (Cond.classLink own index K).before a0 Z = true) {a : Addr} (F : Ins Z h a K true) {g : JFrame} (hg : g.method = m) {rest : List Value} (hs : g.stack = .ref a :: rest) (hd : decode c.code g.pc = .ok (.checkcast index, 3))
    (k : ∀ T', Wk N p l e R s m args below meth c Z own EL hm T' h cells slots → Goes p.tables e below Q T' { g with pc := g.pc + 3 }) : Goes p.tables e below Q T g := by
  obtain ⟨vm0, locs, k0, h1, X', h3, h4, h5, h6, r⟩ := X
  obtain ⟨T', X2, e2, st⟩ := RoadKit.castY (s := s.setVm vm0) X' h4 h5 h6 w h3 F hg hs hd
  exact Goes.go st (k T' ⟨vm0, locs, k0, h1, X2, e2, h4, h5, h6, r⟩)
theorem Wk.instY (X : Wk N p l e R s m args below meth c Z own EL hm T h cells slots) {K : String} {index : Nat} (w : (Cond.classLink own index K).before a0 Z = true) {a : Addr} (F : Ins Z h a K true) {g : JFrame} (hg : g.method = m) {rest : List Value} (hs : g.stack = .ref a :: rest) (hd : decode c.code g.pc = .ok (.instanceof index, 3))
    (k : ∀ T', Wk N p l e R s m args below meth c Z own EL hm T' h cells slots → Goes p.tables e below Q T' { g with pc := g.pc + 3, stack := .int 1 :: rest }) : Goes p.tables e below Q T g := by
  obtain ⟨vm0, locs, k0, h1, X', h3, h4, h5, h6, r⟩ := X
  obtain ⟨T', X2, e2, st⟩ := RoadKit.instY (s := s.setVm vm0) X' h4 h5 h6 w h3 F hg hs hd
  exact Goes.go st (k T' ⟨vm0, locs, k0, h1, X2, e2, h4, h5, h6, r⟩)
theorem Wk.instNo (X : Wk N p l e R s m args below meth c Z own EL hm T h cells slots) {C K : String} {index : Nat} (w : (Cond.classLink own index K).before a0 Z = true) {a : Addr} (E : Exa Z h a C) (F : ∃ c t, Z.vm.findClass C = some c ∧ Z.vm.findClass K = some t ∧ Z.vm.assignable c t = false) {g : JFrame} (hg : g.method = m) {rest : List Value} (hs : g.stack = .ref a :: rest) (hd : decode c.code g.pc = .ok (.instanceof index, 3))
    (k : ∀ T', Wk N p l e R s m args below meth c Z own EL hm T' h cells slots → Goes p.tables e below Q T' { g with pc := g.pc + 3, stack := .int 0 :: rest }) : Goes p.tables e below Q T g := by
  obtain ⟨vm0, locs, k0, h1, X', h3, h4, h5, h6, r⟩ := X
  obtain ⟨T', X2, e2, st⟩ := RoadKit.instNo (s := s.setVm vm0) X' h4 h5 h6 w h3 E F hg hs hd
  exact Goes.go st (k T' ⟨vm0, locs, k0, h1, X2, e2, h4, h5, h6, r⟩)
theorem Wk.instNull (X : Wk N p l e R s m args below meth c Z own EL hm T h cells slots) {index : Nat} {g : JFrame} (hg : g.method = m) {rest : List Value} (hs : g.stack = .null :: rest) (hd : decode c.code g.pc = .ok (.instanceof index, 3)) : ∀ t, Steps p.tables e below (T.setTop { g with pc := g.pc + 3, stack := .int 0 :: rest }) t → Steps p.tables e below (T.setTop g) t := by
  obtain ⟨vm0, locs, k0, h1, X', h3, h4, r⟩ := X
  exact X'.instanceofNull h4 hg hs hd
theorem own_noinst {C S K : String} {n : Nat} (w : (Cond.superclass C S).before a0 Z = true) (wr : (Cond.noSuperclass S).before a0 Z = true) (wi : (Cond.instantiable K n).before a0 Z = true) (n1 : C ≠ K) (n2 : S ≠ K) : ∃ c t, Z.vm.findClass C = some c ∧ Z.vm.findClass K = some t ∧ Z.vm.assignable c t = false := by
  obtain ⟨cS, kS, s1, s2, s3, -, -⟩ := Cond.noSuperclass_spec wr
  obtain ⟨t, kt, t1, t2, t3, t4, -⟩ := Cond.instantiable_spec wi
  have ne2 := ids_ne s1 t1 n2
  have nS : NS Z S K := ⟨cS, t, s1, t1, fun fuel => by
    cases fuel with
    | zero => rfl
    | succ f => simp [Vm.isSubclassAux, ne2, s2, s3]⟩
  obtain ⟨c, t', h0, g0, n3⟩ := NS.step w nS n1
  cases g0.symm.trans t1
  obtain ⟨p', k, kp, h1, h2, h3, h4, h5, -, h7⟩ := Cond.superclass_spec h0 w
  have ne := ids_ne h0 g0 n1
  simp only [Bool.or_eq_false_iff] at t4
  refine ⟨c, _, h0, t1, ?_⟩
  show Z.vm.assignableAux (255 + 1) c _ = false
  simp [Vm.assignableAux, ne, h2, t2, h5, t3, t4.1, Vm.isSubclass, n3]
/-! Object.<init>, literals -/
theorem Wk.initO (X : Wk N p l e R s m args below meth c Z own EL hm T h cells slots) {idx : Nat} (w1 : (Cond.methodLink own idx Lib.objectInit).before a0 Z = true) (w2 : (Cond.instanceMethod Lib.objectInit).before a0 Z = true) (w3 : (Cond.code Lib.objectInit ⟨#[0xb1]⟩ 1 none).before a0 Z = true)
    {g : JFrame} (hg : g.method = m) (hsize : g.locals.size = c.maxLocals) {a : Addr} {rest : List Value} (hs : g.stack = .ref a :: rest) (hd : decode c.code g.pc = .ok (.invokespecial idx, 3)) (hf : 1 ≤ R.frames) {W : Nat} (hW : 2 * g.monitorRoom + (rest.map fun v => v.category).sum ≤ W) (hl : W + 12 ≤ R.locals)
    (k : ∀ T', Wk N p l e R s m args below meth c Z own EL hm T' h cells slots → Goes p.tables e below Q T' { g with pc := g.pc + 3, stack := rest }) : Goes p.tables e below Q T g := by
  obtain ⟨vm0, locs, k0, h1, X', h3, h4, h5, h6, r⟩ := X
  obtain ⟨T', X2, e2, st⟩ := RoadKit.initO (s := s.setVm vm0) X' h4 h5 h6 w1 w2 w3 h3 hg hsize hs hd hf hW hl
  exact Goes.go st (k T' ⟨vm0, locs, k0, h1, X2, e2, h4, h5, h6, r⟩)
theorem Wk.ldcR (X : Wk N p l e R s m args below meth c Z own EL hm T h cells slots) {text : String} {index : Nat} (w : (Cond.stringLink own index text).before a0 Z = true) (wS : ∀ a ∈ Bundle.stringAtoms, a.before a0 Z = true) (hEL : EW Z a0 EL) (hmem : (own, index) ∈ EL)
    {vs : List Value} {z : Int32} (ht : (∀ c ∈ text.toList, c.toNat < 256) ∧ text.toList.map (fun c => Value.int (Jvm.Lit.byteI c.toNat.toUInt16)) = vs) (hz : ¬ z < 0) (hl : z.toNatClampNeg = vs.length)
    {g : JFrame} (hg : g.method = m) (hd : decode c.code g.pc = .ok (.ldc index, 2)) {n : Nat} (hn : 4 * text.toList.length ≤ n) (hbig : n ≤ 536870912) (hc : cells + 2 ≤ R.cells) (hl' : slots + (n + 4) ≤ R.slots)
    (k : ∀ (T' : State) (h' : Heap) (a b : Addr) (kB : ClassId), Wk False p l e R s m args below meth c Z own EL h' T' h' (cells + 2) (slots + (n + 4)) → Ext h h' → Exa Z h' a "java/lang/String" → Fld Z h' a "java/lang/String" "coder" "B" (.int 0) → Fld Z h' a "java/lang/String" "value" "[B" (.ref b) → Arv Z h' b kB .byte z vs (.int 0) →
      Goes p.tables e below Q T' { g with pc := g.pc + 2, stack := .ref a :: g.stack }) : Goes p.tables e below Q T g := by
  obtain ⟨vm0, locs, k0, h1, X', h3, h4, h5, h6, h7, h8, h9, h10, h11, h12⟩ := X
  have C1 := h10.trans (CHr.ext h11 h10.1)
  obtain ⟨a, T', h', k1, b, kB, X2, e2, E, S2, hk2, hW, hf, r1, r2, r3, r4, -, -, C2, -, -, st⟩ := ldcCH X' h4 h5 h6 w wS h3 h8 h9 hEL hmem C1.1 ht hz hl hg hd hn hbig hc hl'
  exact Goes.go st (k T' h' a b kB ⟨T'.vm, locs, k1, fun q => q.elim, X2, e2, h4, hW, hf, h7, S2, hk2, C1.trans C2, Ext.oRefl _, h12.oTrans E⟩ E r1 r2 r3 r4)
theorem Wk.ldcO (X : Wk N p l e R s m args below meth c Z own EL hm T h cells slots) {text : String} {index : Nat} (w : (Cond.stringLink own index text).before a0 Z = true) (wS : ∀ a ∈ Bundle.stringAtoms, a.before a0 Z = true) (hEL : EW Z a0 EL)
    {g : JFrame} (hg : g.method = m) (hd : decode c.code g.pc = .ok (.ldc index, 2)) {n : Nat} (hn : 4 * text.toList.length ≤ n) (hbig : n ≤ 536870912) (hc : cells + 2 ≤ R.cells) (hl' : slots + (n + 4) ≤ R.slots)
    (k : ∀ (T' : State) (h' : Heap) (a : Addr), Wk False p l e R s m args below meth c Z own EL h' T' h' (cells + 2) (slots + (n + 4)) → Ext h h' →
      Goes p.tables e below Q T' { g with pc := g.pc + 2, stack := .ref a :: g.stack }) : Goes p.tables e below Q T g := by
  obtain ⟨vm0, locs, k0, h1, X', h3, h4, h5, h6, h7, h8, h9, h10, h11, h12⟩ := X
  have C1 := h10.trans (CHr.ext h11 h10.1)
  obtain ⟨a, T', h', k1, X2, e2, E, S2, hk2, hW, hf, C2, -, st⟩ := ldcOH X' h4 h5 h6 w wS h3 h8 h9 hEL C1.1 hg hd hn hbig hc hl'
  exact Goes.go st (k T' h' a ⟨T'.vm, locs, k1, fun q => q.elim, X2, e2, h4, hW, hf, h7, S2, hk2, C1.trans C2, Ext.oRefl _, h12.oTrans E⟩ E)
/-! calls -/
theorem CtrN.back {y : MethodName} {bytes : ByteArray} {maxL : Nat} {ret : Option FieldType} {rm : Room} {as' : Array Value} {Qv : Option Value → Heap → Prop} {len W : Nat} (K : CtrN l Z y bytes maxL ret rm as' h Qv) {vm0 : Vm} (hZ : Z.Warmed39 vm0) (wc : (Cond.code y bytes maxL ret).before a0 Z = true) (wz : (Cond.initialized y.cls).before a0 Z = true) (hf : rm.frames + 1 ≤ R.frames) (hl : W + (maxL + 11) + rm.locals ≤ R.locals) :
    Back l R p e below (s.setVm vm0) args y len W (fun A a => a = as' ∧ A.U.heap = h ∧ A.cells + rm.cells ≤ R.cells ∧ A.slots + rm.slots ≤ R.slots) (fun A _ v B => ∃ L, (Qv v B.U.heap ∧ Fr Z.heap.size L) ∧ B.locs = A.locs ++ L ∧ B.cells = A.cells + rm.cells ∧ B.slots = A.slots + rm.slots) :=
  backOf (s := s.setVm vm0) (Q := fun v h' L => Qv v h' ∧ Fr Z.heap.size L) (K []) hZ wc wz hf hl
theorem CtrS.back {y : MethodName} {bytes : ByteArray} {maxL : Nat} {ret : Option FieldType} {rm : Room} {as' : Array Value} {Qv : Option Value → Heap → Prop} {len W : Nat} (K : CtrS l Z EL y bytes maxL ret rm as' h Qv) {vm0 : Vm} (hZ : Z.Warmed39 vm0) (wc : (Cond.code y bytes maxL ret).before a0 Z = true) (wz : (Cond.initialized y.cls).before a0 Z = true) (hf : rm.frames + 1 ≤ R.frames) (hl : W + (maxL + 11) + rm.locals ≤ R.locals) (hEL : EW Z a0 EL) (H : CHv Z EL vm0 h) :
    BackS l R p e below (s.setVm vm0) args y len W (fun A a => a = as' ∧ A.U.heap = h ∧ A.cells + rm.cells ≤ R.cells ∧ A.slots + rm.slots ≤ R.slots) (fun A _ v B => ∃ L, (Qv v B.U.heap ∧ Fr Z.heap.size L) ∧ B.locs = A.locs ++ L ∧ B.cells = A.cells + rm.cells ∧ B.slots = A.slots + rm.slots ∧ CHr Z EL vm0 h B.U.vm B.U.heap) :=
  backOfSH (Q := fun v h' L => Qv v h' ∧ Fr Z.heap.size L) (K []) hZ wc wz hf hl hEL H
/-- what a payer says that interns nothing -/
def Pays (l : Launch) (R : Room) (p : Program) (e : Env) (below : List Frame) (s : State) (args : Array Value) (Z : State) (y : MethodName) (len W : Nat) (as' : Array Value) (h : Heap) (kc ks : Nat) (QQ : Option Value → Heap → List Loc → Prop) : Prop :=
  ∀ vm0, Z.Warmed39 vm0 → Back l R p e below (s.setVm vm0) args y len W (fun A a => a = as' ∧ A.U.heap = h ∧ A.cells + kc ≤ R.cells ∧ A.slots + ks ≤ R.slots) (fun A _ v B => ∃ L, QQ v B.U.heap L ∧ B.locs = A.locs ++ L ∧ B.cells = A.cells + kc ∧ B.slots = A.slots + ks)
def PaysS (l : Launch) (R : Room) (p : Program) (e : Env) (below : List Frame) (s : State) (args : Array Value) (Z : State) (EL : List (String × Nat)) (y : MethodName) (len W : Nat) (as' : Array Value) (h : Heap) (kc ks : Nat) (QQ : Option Value → Heap → List Loc → Prop) : Prop :=
  ∀ vm0, Z.Warmed39 vm0 → CHv Z EL vm0 h → BackS l R p e below (s.setVm vm0) args y len W (fun A a => a = as' ∧ A.U.heap = h ∧ A.cells + kc ≤ R.cells ∧ A.slots + ks ≤ R.slots) (fun A _ v B => ∃ L, QQ v B.U.heap L ∧ B.locs = A.locs ++ L ∧ B.cells = A.cells + kc ∧ B.slots = A.slots + ks ∧ CHr Z EL vm0 h B.U.vm B.U.heap)
theorem CtrN.pays {y : MethodName} {bytes : ByteArray} {maxL : Nat} {ret : Option FieldType} {rm : Room} {as' : Array Value} {Qv : Option Value → Heap → Prop} {len W : Nat} (K : CtrN l Z y bytes maxL ret rm as' h Qv) (wc : (Cond.code y bytes maxL ret).before a0 Z = true) (wz : (Cond.initialized y.cls).before a0 Z = true) (hf : rm.frames + 1 ≤ R.frames) (hl : W + (maxL + 11) + rm.locals ≤ R.locals) :
    Pays l R p e below s args Z y len W as' h rm.cells rm.slots (fun v h' L => Qv v h' ∧ Fr Z.heap.size L) := fun _ hZ => CtrN.back K hZ wc wz hf hl
theorem CtrS.pays {y : MethodName} {bytes : ByteArray} {maxL : Nat} {ret : Option FieldType} {rm : Room} {as' : Array Value} {Qv : Option Value → Heap → Prop} {len W : Nat} (K : CtrS l Z EL y bytes maxL ret rm as' h Qv) (wc : (Cond.code y bytes maxL ret).before a0 Z = true) (wz : (Cond.initialized y.cls).before a0 Z = true) (hf : rm.frames + 1 ≤ R.frames) (hl : W + (maxL + 11) + rm.locals ≤ R.locals) (hEL : EW Z a0 EL) :
    PaysS l R p e below s args Z EL y len W as' h rm.cells rm.slots (fun v h' L => Qv v h' ∧ Fr Z.heap.size L) := fun _ hZ H => CtrS.back K hZ wc wz hf hl hEL H
theorem Wk.came {vm0 : Vm} {locs L : List Loc} {k0 kc ks : Nat} {T' : State} {hm' : Heap} {ws : List Addr} (h1 : N → vm0 = s.vm) (h4 : p.tables.exec = Jvm.exec) (h5 : Z.Warmed39 vm0) (h6 : vm0.findClass own = some m.cls) (h7 : Fr Z.heap.size locs) (h8 : s.Since vm0 k0) (h9 : k0 ≤ h.size) (h10 : CHr Z EL s.vm s.heap vm0 hm) (h11 : Ext hm h) (h12 : Ext Z.heap h)
    (X2 : Stand p l e R (s.setVm vm0) m args below meth c T' (locs ++ L) (cells + kc) (slots + ks)) (F : Fr Z.heap.size L) (K : Keep h T'.heap ws) (hws : ∀ x ∈ ws, Z.heap.size ≤ x) (M : Mark Z EL hm h ws T'.heap hm') : Wk N p l e R s m args below meth c Z own EL hm' T' T'.heap (cells + kc) (slots + ks) := by
  obtain ⟨C, E⟩ := mark_go h5.alike h10 h11 K M
  exact ⟨vm0, _, k0, h1, X2, rfl, h4, h5, h6, Fr.app h7 F, h8, Nat.le_trans h9 K.1, C, E, h12.oKeep K hws⟩
theorem Wk.cameS {vm0 : Vm} {locs L : List Loc} {k0 kc ks : Nat} {T' : State} {ws : List Addr} (h4 : p.tables.exec = Jvm.exec) (h5 : Z.Warmed39 vm0) (h6 : vm0.findClass own = some m.cls) (h7 : Fr Z.heap.size locs) (h8 : s.Since vm0 k0) (h9 : k0 ≤ h.size) (C1 : CHr Z EL s.vm s.heap vm0 h) (h12 : Ext Z.heap h)
    (X2 : Stand p l e R ((s.setVm vm0).setVm T'.vm) m args below meth c T' (locs ++ L) (cells + kc) (slots + ks)) (S2 : (s.setVm vm0).Since T'.vm T'.heap.size) (F : Fr Z.heap.size L) (K : Keep h T'.heap ws) (hws : ∀ x ∈ ws, Z.heap.size ≤ x) (C2 : CHr Z EL vm0 h T'.vm T'.heap) : Wk False p l e R s m args below meth c Z own EL T'.heap T' T'.heap (cells + kc) (slots + ks) :=
  ⟨T'.vm, _, T'.heap.size, fun q => q.elim, X2, rfl, h4, State.Warmed39.trans (t := s.setVm vm0) h5 S2.1, (S2.1.alike.findClass _ _).trans h6, Fr.app h7 F, h8.trans S2 (Nat.le_trans h9 K.1), Nat.le_refl _, C1.trans C2, Ext.oRefl _, h12.oKeep K hws⟩
theorem Wk.static {hm' : Heap → Heap} {y : MethodName} {bytes : ByteArray} {maxL : Nat} {ret : Option FieldType} {index W kc ks : Nat} {QQ : Option Value → Heap → List Loc → Prop} {argsL rest : List Value} {as' : Array Value} {ws : List Addr} (X : Wk N p l e R s m args below meth c Z own EL hm T h cells slots)
    (w1 : (Cond.methodLink own index y).before a0 Z = true) (w2 : (Cond.static y).before a0 Z = true) (w3 : (Cond.initialized y.cls).before a0 Z = true) (w4 : (Cond.code y bytes maxL ret).before a0 Z = true) (hy : y.cls ≠ "java/lang/invoke/MethodHandle" ∧ y.cls ≠ "java/lang/invoke/VarHandle")
    (hK : Pays l R p e below s args Z y 3 W as' h kc ks QQ) (hQ : ∀ v h' L, QQ v h' L → Fr Z.heap.size L ∧ Keep h h' ws) (hws : ∀ x ∈ ws, Z.heap.size ≤ x) (M : ∀ h', Mark Z EL hm h ws h' (hm' h'))
    {g : JFrame} (hg : g.method = m) (hsize : g.locals.size = c.maxLocals) (hlen : ∀ sig, parseMethodDescriptor y.desc = some sig → argsL.length = sig.parameters.length) (has : argsL.toArray = as') (hstack : g.stack = argsL.reverse ++ rest) (hW : 2 * g.monitorRoom + (rest.map fun v => v.category).sum ≤ W)
    (hdg : decode c.code g.pc = .ok (.invokestatic index, 3)) (hc : cells + kc ≤ R.cells) (hs : slots + ks ≤ R.slots)
    (k : ∀ (T' : State) (h' : Heap) (v : Option Value) (L : List Loc), Wk N p l e R s m args below meth c Z own EL (hm' h') T' h' (cells + kc) (slots + ks) → QQ v h' L → Keep h h' ws → Goes p.tables e below Q T' { g with pc := g.pc + 3, stack := v.toList ++ rest }) : Goes p.tables e below Q T g := by
  obtain ⟨vm0, locs, k0, h1, X', h3, h4, h5, h6, h7, h8, h9, h10, h11, h12⟩ := X
  obtain ⟨v, vm₁, ⟨T', L', k', n'⟩, -, X2, ⟨L, q, l2, y2, z2⟩, st⟩ := Jvm.LawKit.callS (s := s.setVm vm0) X' h4 h6 (mvT (s := s.setVm vm0) h5 w1) (mvT (s := s.setVm vm0) h5 w2) (mvT (s := s.setVm vm0) h5 w3) (mvT (s := s.setVm vm0) h5 w4) hy (hK vm0 h5) hg hsize hlen hstack hW hdg (fun _ _ => ⟨has, h3, hc, hs⟩)
  dsimp only [Pt.U, Pt.locs, Pt.cells, Pt.slots] at X2 l2 y2 z2 st q
  subst l2 y2 z2
  obtain ⟨F, K⟩ := hQ _ _ _ q
  exact Goes.go st (k T' T'.heap v L (Wk.came h1 h4 h5 h6 h7 h8 h9 h10 h11 h12 X2 F K hws (M _)) q K)
theorem Wk.special {hm' : Heap → Heap} {y : MethodName} {bytes : ByteArray} {maxL : Nat} {index W kc ks : Nat} {QQ : Option Value → Heap → List Loc → Prop} {a : Addr} {argsL rest : List Value} {as' : Array Value} {ws : List Addr} (X : Wk N p l e R s m args below meth c Z own EL hm T h cells slots)
    (hy1 : y.name = "<init>") (w1 : (Cond.methodLink own index y).before a0 Z = true) (w2 : (Cond.instanceMethod y).before a0 Z = true) (w4 : (Cond.code y bytes maxL none).before a0 Z = true) (hy : y.cls ≠ "java/lang/invoke/MethodHandle" ∧ y.cls ≠ "java/lang/invoke/VarHandle")
    (hK : Pays l R p e below s args Z y 3 W as' h kc ks QQ) (hQ : ∀ v h' L, QQ v h' L → Fr Z.heap.size L ∧ Keep h h' ws) (hws : ∀ x ∈ ws, Z.heap.size ≤ x) (M : ∀ h', Mark Z EL hm h ws h' (hm' h'))
    {g : JFrame} (hg : g.method = m) (hsize : g.locals.size = c.maxLocals) (hlen : ∀ sig, parseMethodDescriptor y.desc = some sig → argsL.length = sig.parameters.length) (has : (.ref a :: argsL).toArray = as') (hstack : g.stack = argsL.reverse ++ .ref a :: rest) (hW : 2 * g.monitorRoom + (rest.map fun v => v.category).sum ≤ W)
    (hdg : decode c.code g.pc = .ok (.invokespecial index, 3)) (hc : cells + kc ≤ R.cells) (hs : slots + ks ≤ R.slots)
    (k : ∀ (T' : State) (h' : Heap) (v : Option Value) (L : List Loc), Wk N p l e R s m args below meth c Z own EL (hm' h') T' h' (cells + kc) (slots + ks) → QQ v h' L → Keep h h' ws → Goes p.tables e below Q T' { g with pc := g.pc + 3, stack := v.toList ++ rest }) : Goes p.tables e below Q T g := by
  obtain ⟨vm0, locs, k0, h1, X', h3, h4, h5, h6, h7, h8, h9, h10, h11, h12⟩ := X
  obtain ⟨v, vm₁, ⟨T', L', k', n'⟩, -, X2, ⟨L, q, l2, y2, z2⟩, st⟩ := Stand.specialBack (s := s.setVm vm0) X' h4 hy1 h6 (mvT (s := s.setVm vm0) h5 w1) (mvT (s := s.setVm vm0) h5 w2) (mvT (s := s.setVm vm0) h5 w4) hy (hK vm0 h5) hg hsize (Steps.refl _) hlen hstack hW hdg (fun _ _ => ⟨has, h3, hc, hs⟩)
  dsimp only [Pt.U, Pt.locs, Pt.cells, Pt.slots] at X2 l2 y2 z2 st q
  subst l2 y2 z2
  obtain ⟨F, K⟩ := hQ _ _ _ q
  exact Goes.via st (k T' T'.heap v L (Wk.came h1 h4 h5 h6 h7 h8 h9 h10 h11 h12 X2 F K hws (M _)) q K)
theorem Wk.virtual {hm' : Heap → Heap} {C : String} {y z : MethodName} {index W kc ks : Nat} {QQ : Option Value → Heap → List Loc → Prop} {b : Addr} {argsL rest : List Value} {as' : Array Value} {ws : List Addr} (X : Wk N p l e R s m args below meth c Z own EL hm T h cells slots)
    (w1 : (Cond.methodLink own index y).before a0 Z = true) (w2 : (Cond.declares y).before a0 Z = true) (w3 : (Cond.selects C y z).before a0 Z = true) (w4 : (Cond.instanceMethod z).before a0 Z = true) (hy : y.cls ≠ "java/lang/invoke/MethodHandle" ∧ y.cls ≠ "java/lang/invoke/VarHandle") (E : Exa Z h b C)
    (hnf : ∀ vm0, Z.Warmed39 vm0 → NotFace (s.setVm vm0) y)
    (hK : Pays l R p e below s args Z z 3 W as' h kc ks QQ) (hQ : ∀ v h' L, QQ v h' L → Fr Z.heap.size L ∧ Keep h h' ws) (hws : ∀ x ∈ ws, Z.heap.size ≤ x) (M : ∀ h', Mark Z EL hm h ws h' (hm' h'))
    {g : JFrame} (hg : g.method = m) (hsize : g.locals.size = c.maxLocals) (hlen : ∀ sig, parseMethodDescriptor y.desc = some sig → argsL.length = sig.parameters.length) (has : (.ref b :: argsL).toArray = as') (hstack : g.stack = argsL.reverse ++ .ref b :: rest) (hW : 2 * g.monitorRoom + (rest.map fun v => v.category).sum ≤ W)
    (hdg : decode c.code g.pc = .ok (.invokevirtual index, 3)) (hc : cells + kc ≤ R.cells) (hs : slots + ks ≤ R.slots)
    (k : ∀ (T' : State) (h' : Heap) (v : Option Value) (L : List Loc), Wk N p l e R s m args below meth c Z own EL (hm' h') T' h' (cells + kc) (slots + ks) → QQ v h' L → Keep h h' ws → Goes p.tables e below Q T' { g with pc := g.pc + 3, stack := v.toList ++ rest }) : Goes p.tables e below Q T g := by
  obtain ⟨vm0, locs, k0, h1, X', h3, h4, h5, h6, h7, h8, h9, h10, h11, h12⟩ := X
  obtain ⟨cq, kq, qa, qb, qc⟩ := isOf (s := s.setVm vm0) h5 h3 E
  obtain ⟨v, vm₁, ⟨T', L', k', n'⟩, -, X2, ⟨L, q, l2, y2, z2⟩, st⟩ := Stand.virtualBack (s := s.setVm vm0) X' h4 h6 (mvT (s := s.setVm vm0) h5 w1) (mvT (s := s.setVm vm0) h5 w2) (hnf vm0 h5) (mvT (s := s.setVm vm0) h5 w3) (mvT (s := s.setVm vm0) h5 w4) hy (hK vm0 h5) qa qc hg hsize (Steps.refl _) hlen hstack hW hdg (fun _ _ => ⟨has, h3, hc, hs⟩)
  dsimp only [Pt.U, Pt.locs, Pt.cells, Pt.slots] at X2 l2 y2 z2 st q
  subst l2 y2 z2
  obtain ⟨F, K⟩ := hQ _ _ _ q
  exact Goes.via st (k T' T'.heap v L (Wk.came h1 h4 h5 h6 h7 h8 h9 h10 h11 h12 X2 F K hws (M _)) q K)
theorem Wk.staticS {y : MethodName} {bytes : ByteArray} {maxL : Nat} {ret : Option FieldType} {index W kc ks : Nat} {QQ : Option Value → Heap → List Loc → Prop} {argsL rest : List Value} {as' : Array Value} {ws : List Addr} (X : Wk N p l e R s m args below meth c Z own EL hm T h cells slots)
    (w1 : (Cond.methodLink own index y).before a0 Z = true) (w2 : (Cond.static y).before a0 Z = true) (w3 : (Cond.initialized y.cls).before a0 Z = true) (w4 : (Cond.code y bytes maxL ret).before a0 Z = true) (hy : y.cls ≠ "java/lang/invoke/MethodHandle" ∧ y.cls ≠ "java/lang/invoke/VarHandle")
    (hK : PaysS l R p e below s args Z EL y 3 W as' h kc ks QQ) (hQ : ∀ v h' L, QQ v h' L → Fr Z.heap.size L ∧ Keep h h' ws) (hws : ∀ x ∈ ws, Z.heap.size ≤ x)
    {g : JFrame} (hg : g.method = m) (hsize : g.locals.size = c.maxLocals) (hlen : ∀ sig, parseMethodDescriptor y.desc = some sig → argsL.length = sig.parameters.length) (has : argsL.toArray = as') (hstack : g.stack = argsL.reverse ++ rest) (hW : 2 * g.monitorRoom + (rest.map fun v => v.category).sum ≤ W)
    (hdg : decode c.code g.pc = .ok (.invokestatic index, 3)) (hc : cells + kc ≤ R.cells) (hs : slots + ks ≤ R.slots)
    (k : ∀ (T' : State) (h' : Heap) (v : Option Value) (L : List Loc), Wk False p l e R s m args below meth c Z own EL h' T' h' (cells + kc) (slots + ks) → QQ v h' L → Keep h h' ws → Goes p.tables e below Q T' { g with pc := g.pc + 3, stack := v.toList ++ rest }) : Goes p.tables e below Q T g := by
  obtain ⟨vm0, locs, k0, h1, X', h3, h4, h5, h6, h7, h8, h9, h10, h11, h12⟩ := X
  have C1 := h10.trans (CHr.ext h11 h10.1)
  obtain ⟨v, vm₁, ⟨T', L', k', n'⟩, -, X2, S2, -, ⟨L, q, l2, y2, z2, C2⟩, st⟩ := callSS (s := s.setVm vm0) X' h4 h6 (mvT (s := s.setVm vm0) h5 w1) (mvT (s := s.setVm vm0) h5 w2) (mvT (s := s.setVm vm0) h5 w3) (mvT (s := s.setVm vm0) h5 w4) hy (hK vm0 h5 C1.1) hg hsize hlen hstack hW hdg (fun _ _ => ⟨has, h3, hc, hs⟩)
  dsimp only [Pt.U, Pt.locs, Pt.cells, Pt.slots] at X2 S2 l2 y2 z2 st q C2
  subst l2 y2 z2
  obtain ⟨F, K⟩ := hQ _ _ _ q
  exact Goes.via st (k T' T'.heap v L (Wk.cameS h4 h5 h6 h7 h8 h9 C1 h12 X2 S2 F K hws C2) q K)
theorem Wk.specialS {y : MethodName} {bytes : ByteArray} {maxL : Nat} {index W kc ks : Nat} {QQ : Option Value → Heap → List Loc → Prop} {a : Addr} {argsL rest : List Value} {as' : Array Value} {ws : List Addr} (X : Wk N p l e R s m args below meth c Z own EL hm T h cells slots)
    (hy1 : y.name = "<init>") (w1 : (Cond.methodLink own index y).before a0 Z = true) (w2 : (Cond.instanceMethod y).before a0 Z = true) (w4 : (Cond.code y bytes maxL none).before a0 Z = true) (hy : y.cls ≠ "java/lang/invoke/MethodHandle" ∧ y.cls ≠ "java/lang/invoke/VarHandle")
    (hK : PaysS l R p e below s args Z EL y 3 W as' h kc ks QQ) (hQ : ∀ v h' L, QQ v h' L → Fr Z.heap.size L ∧ Keep h h' ws) (hws : ∀ x ∈ ws, Z.heap.size ≤ x)
    {g : JFrame} (hg : g.method = m) (hsize : g.locals.size = c.maxLocals) (hlen : ∀ sig, parseMethodDescriptor y.desc = some sig → argsL.length = sig.parameters.length) (has : (.ref a :: argsL).toArray = as') (hstack : g.stack = argsL.reverse ++ .ref a :: rest) (hW : 2 * g.monitorRoom + (rest.map fun v => v.category).sum ≤ W)
    (hdg : decode c.code g.pc = .ok (.invokespecial index, 3)) (hc : cells + kc ≤ R.cells) (hs : slots + ks ≤ R.slots)
    (k : ∀ (T' : State) (h' : Heap) (v : Option Value) (L : List Loc), Wk False p l e R s m args below meth c Z own EL h' T' h' (cells + kc) (slots + ks) → QQ v h' L → Keep h h' ws → Goes p.tables e below Q T' { g with pc := g.pc + 3, stack := v.toList ++ rest }) : Goes p.tables e below Q T g := by
  obtain ⟨vm0, locs, k0, h1, X', h3, h4, h5, h6, h7, h8, h9, h10, h11, h12⟩ := X
  have C1 := h10.trans (CHr.ext h11 h10.1)
  obtain ⟨v, vm₁, ⟨T', L', k', n'⟩, -, X2, S2, -, ⟨L, q, l2, y2, z2, C2⟩, st⟩ := Stand.specialBackS (s := s.setVm vm0) X' h4 hy1 h6 (mvT (s := s.setVm vm0) h5 w1) (mvT (s := s.setVm vm0) h5 w2) (mvT (s := s.setVm vm0) h5 w4) hy (hK vm0 h5 C1.1) hg hsize (Steps.refl _) hlen hstack hW hdg (fun _ _ => ⟨has, h3, hc, hs⟩)
  dsimp only [Pt.U, Pt.locs, Pt.cells, Pt.slots] at X2 S2 l2 y2 z2 st q C2
  subst l2 y2 z2
  obtain ⟨F, K⟩ := hQ _ _ _ q
  exact Goes.via st (k T' T'.heap v L (Wk.cameS h4 h5 h6 h7 h8 h9 C1 h12 X2 S2 F K hws C2) q K)
theorem Wk.virtualS {C : String} {y z : MethodName} {index W kc ks : Nat} {QQ : Option Value → Heap → List Loc → Prop} {b : Addr} {argsL rest : List Value} {as' : Array Value} {ws : List Addr} (X : Wk N p l e R s m args below meth c Z own EL hm T h cells slots)
    (w1 : (Cond.methodLink own index y).before a0 Z = true) (w2 : (Cond.declares y).before a0 Z = true) (w3 : (Cond.selects C y z).before a0 Z = true) (w4 : (Cond.instanceMethod z).before a0 Z = true) (hy : y.cls ≠ "java/lang/invoke/MethodHandle" ∧ y.cls ≠ "java/lang/invoke/VarHandle") (E : Exa Z h b C)
    (hnf : ∀ vm0, Z.Warmed39 vm0 → NotFace (s.setVm vm0) y)
    (hK : PaysS l R p e below s args Z EL z 3 W as' h kc ks QQ) (hQ : ∀ v h' L, QQ v h' L → Fr Z.heap.size L ∧ Keep h h' ws) (hws : ∀ x ∈ ws, Z.heap.size ≤ x)
    {g : JFrame} (hg : g.method = m) (hsize : g.locals.size = c.maxLocals) (hlen : ∀ sig, parseMethodDescriptor y.desc = some sig → argsL.length = sig.parameters.length) (has : (.ref b :: argsL).toArray = as') (hstack : g.stack = argsL.reverse ++ .ref b :: rest) (hW : 2 * g.monitorRoom + (rest.map fun v => v.category).sum ≤ W)
    (hdg : decode c.code g.pc = .ok (.invokevirtual index, 3)) (hc : cells + kc ≤ R.cells) (hs : slots + ks ≤ R.slots)
    (k : ∀ (T' : State) (h' : Heap) (v : Option Value) (L : List Loc), Wk False p l e R s m args below meth c Z own EL h' T' h' (cells + kc) (slots + ks) → QQ v h' L → Keep h h' ws → Goes p.tables e below Q T' { g with pc := g.pc + 3, stack := v.toList ++ rest }) : Goes p.tables e below Q T g := by
  obtain ⟨vm0, locs, k0, h1, X', h3, h4, h5, h6, h7, h8, h9, h10, h11, h12⟩ := X
  obtain ⟨cq, kq, qa, qb, qc⟩ := isOf (s := s.setVm vm0) h5 h3 E
  have C1 := h10.trans (CHr.ext h11 h10.1)
  obtain ⟨v, vm₁, ⟨T', L', k', n'⟩, -, X2, S2, -, ⟨L, q, l2, y2, z2, C2⟩, st⟩ := Stand.virtualBackS (s := s.setVm vm0) X' h4 h6 (mvT (s := s.setVm vm0) h5 w1) (mvT (s := s.setVm vm0) h5 w2) (hnf vm0 h5) (mvT (s := s.setVm vm0) h5 w3) (mvT (s := s.setVm vm0) h5 w4) hy (hK vm0 h5 C1.1) qa qc hg hsize (Steps.refl _) hlen hstack hW hdg (fun _ _ => ⟨has, h3, hc, hs⟩)
  dsimp only [Pt.U, Pt.locs, Pt.cells, Pt.slots] at X2 S2 l2 y2 z2 st q C2
  subst l2 y2 z2
  obtain ⟨F, K⟩ := hQ _ _ _ q
  exact Goes.via st (k T' T'.heap v L (Wk.cameS h4 h5 h6 h7 h8 h9 C1 h12 X2 S2 F K hws C2) q K)
theorem nf_sel {C : String} {y : MethodName} (w3 : (Cond.selects C y y).before a0 Z = true) : ∀ vm0, Z.Warmed39 vm0 → NotFace (s.setVm vm0) y := fun vm0 h5 => notFace_of_selects (args := #[]) (mvT (s := s.setVm vm0) h5 w3)
/-! entering a body -/
theorem CHv.none {vm : Vm} : CHv Z [] vm h := fun _ hp => by cases hp
theorem CtrN.of {y : MethodName} {bytes : ByteArray} {maxL : Nat} {ret : Option FieldType} {rm : Room} {as' : Array Value} {h0 : Heap} {Qv : Option Value → Heap → Prop} (hpn : plainFor y = true) (hO : Ext Z.heap h0)
    (body : ∀ (p : Program) (e : Env) (s : State) (m : MethodId) (below : List Frame) (meth : Method) (c : Code) (T : State), Wk True p l e rm s m as' below meth c Z y.cls [] h0 T h0 0 0 → s.heap = h0 → c.code = bytes → c.maxLocals = maxL → meth.sig.returnType = ret → meth.locks = false → meth.name = y.name →
      Goes p.tables e below (EndN Z s rm.cells rm.slots Qv) T (entryFrame m as' maxL)) : CtrN l Z y bytes maxL ret rm as' h0 Qv := by
  intro ws
  refine MetFree.of_bodySF hpn hisR ?_
  intro p e s m args below meth c s₁ Bd hml0 hP hK
  obtain ⟨rfl, hZ, hh⟩ := hP
  have hown := findClass_of_methodNamed Bd.named
  have hnm := (name_of_methodNamed Bd.named Bd.method).1
  have e0 : s₁.heap = h0 := by rw [← hh, Bd.state]; rfl
  exact body p e s m below meth c s₁ (Wk.start (Stand.of_body Bd) e0 hh Bd.exec hZ hown CHv.none hO) hh Bd.bytes hml0 Bd.returns Bd.notSynchronized hnm
theorem CtrS.of {y : MethodName} {bytes : ByteArray} {maxL : Nat} {ret : Option FieldType} {rm : Room} {as' : Array Value} {h0 : Heap} {Qv : Option Value → Heap → Prop} (hpn : plainFor y = true) (hO : Ext Z.heap h0)
    (body : ∀ (p : Program) (e : Env) (s : State) (m : MethodId) (below : List Frame) (meth : Method) (c : Code) (T : State), Wk False p l e rm s m as' below meth c Z y.cls EL h0 T h0 0 0 → s.heap = h0 → c.code = bytes → c.maxLocals = maxL → meth.sig.returnType = ret → meth.locks = false → meth.name = y.name →
      Goes p.tables e below (EndS Z s EL rm.cells rm.slots Qv) T (entryFrame m as' maxL)) : CtrS l Z EL y bytes maxL ret rm as' h0 Qv := by
  intro ws
  refine MetFree.of_bodySF hpn hisR ?_
  intro p e s m args below meth c s₁ Bd hml0 hP hK
  obtain ⟨rfl, hZ, hh, hC⟩ := hP
  have hown := findClass_of_methodNamed Bd.named
  have hnm := (name_of_methodNamed Bd.named Bd.method).1
  have e0 : s₁.heap = h0 := by rw [← hh, Bd.state]; rfl
  exact body p e s m below meth c s₁ (Wk.start (Stand.of_body Bd) e0 hh Bd.exec hZ hown hC hO) hh Bd.bytes hml0 Bd.returns Bd.notSynchronized hnm
end Walk
/-! branches -/
section Branch
variable {tb : Tables} [Ours tb] {e : Env} {below : List Frame} {Q : Outcome → State → Prop} {T : State} {m : MethodId} {c : Code} {Ls : Array Slot} {rest : List Value} {pc pc' : Nat} {o : Int} {x y : Int32} {cd : ClassFile.Cond}
abbrev cdP (cd : ClassFile.Cond) (x y : Int32) : Prop := match cd with
  | .eq => x = y
  | .ne => ¬ x = y
  | .lt => x < y
  | .ge => ¬ x < y
  | .gt => y < x
  | .le => ¬ y < x
theorem cd_t (h : cdP cd x y) : if_icmp.holds cd x y = true := by
  cases cd
  · exact (teq h).1
  · exact (feq h).2
  · exact (tlt h).1
  · exact (flt h).2.1
  · exact (tlt h).2.2.1
  · exact (flt h).2.2.2
theorem cd_f (h : ¬ cdP cd x y) : if_icmp.holds cd x y = false := by
  cases cd
  · exact (feq h).1
  · exact (teq (Classical.not_not.mp h)).2
  · exact (flt h).1
  · exact (tlt (Classical.not_not.mp h)).2.1
  · exact (flt h).2.2.1
  · exact (tlt (Classical.not_not.mp h)).2.2.2
theorem Goes.icmp (h : At T m c below) (hx : tb.exec = Jvm.exec) (hd : decode c.code pc = .ok (.if_icmp cd o, 3)) (ho : 0 ≤ (pc : Int) + o) (hp : ((pc : Int) + o).toNat = pc')
    (kt : cdP cd x y → Goes tb e below Q T (mkF m pc' Ls rest)) (kf : ¬ cdP cd x y → Goes tb e below Q T (mkF m (pc + 3) Ls rest)) : Goes tb e below Q T (mkF m pc Ls (.int y :: .int x :: rest)) := by
  by_cases q : cdP cd x y
  · exact Goes.go (fun _ => XS.icmpYes h hx rfl rfl hd rfl (cd_t q) ho hp) (kt q)
  · exact Goes.go (fun _ => XS.icmpNo h hx rfl hd rfl (cd_f q)) (kf q)
theorem Goes.ifc (h : At T m c below) (hx : tb.exec = Jvm.exec) (hd : decode c.code pc = .ok (.ifCond cd o, 3)) (ho : 0 ≤ (pc : Int) + o) (hp : ((pc : Int) + o).toNat = pc')
    (kt : cdP cd x 0 → Goes tb e below Q T (mkF m pc' Ls rest)) (kf : ¬ cdP cd x 0 → Goes tb e below Q T (mkF m (pc + 3) Ls rest)) : Goes tb e below Q T (mkF m pc Ls (.int x :: rest)) := by
  by_cases q : cdP cd x 0
  · exact Goes.go (fun _ => XS.ifYes h hx rfl rfl hd rfl ((if0 _ _).trans (cd_t q)) ho hp) (kt q)
  · exact Goes.go (fun _ => XS.ifNo h hx rfl hd rfl ((if0 _ _).trans (cd_f q))) (kf q)
theorem Goes.acmp {ac : ClassFile.ACond} {u v : Value} (h : At T m c below) (hx : tb.exec = Jvm.exec) (hd : decode c.code pc = .ok (.if_acmp ac o, 3)) (r1 : u.isRef = true) (r2 : v.isRef = true) (ho : 0 ≤ (pc : Int) + o) (hp : ((pc : Int) + o).toNat = pc')
    (kt : Jvm.Free.XT.acmp ac u v = true → Goes tb e below Q T (mkF m pc' Ls rest)) (kf : Jvm.Free.XT.acmp ac u v = false → Goes tb e below Q T (mkF m (pc + 3) Ls rest)) : Goes tb e below Q T (mkF m pc Ls (v :: u :: rest)) := by
  cases q : Jvm.Free.XT.acmp ac u v
  · exact Goes.go (fun _ => Jvm.Free.XT.acmpNo h hx rfl hd rfl r1 r2 q) (kf q)
  · exact Goes.go (fun _ => Jvm.Free.XT.acmpYes h hx rfl rfl hd rfl r1 r2 q ho hp) (kt q)
end Branch
/-! Strings of Latin-1 chars -/
section Strs
variable {Z : State} {a0 : Array Value} {h h' : Heap} {a x : Addr} {cs : List Int32}
/-- a String whose chars are cs, each 0 to 255 -/
def LStr (Z : State) (h : Heap) (a : Addr) (cs : List Int32) : Prop :=
  Exa Z h a "java/lang/String" ∧ Fld Z h a "java/lang/String" "coder" "B" (.int 0) ∧ (∃ (t : Addr) (kb : ClassId), Fld Z h a "java/lang/String" "value" "[B" (.ref t) ∧ Arv Z h t kb .byte (Int32.ofNat cs.length) ((cs.map fun c => c.toInt8.toInt32).map Value.int) (.int 0)) ∧ (∀ c ∈ cs, ¬ c < 0 ∧ ¬ (255 : Int32) < c) ∧ cs.length ≤ 4000
theorem LStr.ext (S : LStr Z h a cs) (E : Ext h h') : LStr Z h' a cs := by
  obtain ⟨h1, h2, ⟨t, kb, h3, h4⟩, h5⟩ := S
  exact ⟨h1.ext E, h2.ext E, ⟨t, kb, h3.ext E, h4.ext E⟩, h5⟩
theorem LStr.keep {C : String} {n : Nat} (S : LStr Z h a cs) (K : Keep h h' [x]) (E : Exa Z h x C) (hC : C ≠ "java/lang/String") (wi : (Cond.instantiable C n).before a0 Z = true) : LStr Z h' a cs := by
  obtain ⟨h1, h2, ⟨t, kb, h3, h4⟩, h5⟩ := S
  have n1 : a ∉ [x] := fun q => by cases List.mem_singleton.mp q; exact Exa.ne h1 E (Ne.symm hC) rfl
  have n2 : t ∉ [x] := fun q => by cases List.mem_singleton.mp q; exact Exa.neArv E h4 wi rfl
  exact ⟨h1.keep K, h2.keep K n1, ⟨t, kb, h3.keep K n1, h4.keep K n2⟩, h5⟩
theorem LStr.keep2 {C D : String} {n k : Nat} {y : Addr} (S : LStr Z h a cs) (K : Keep h h' [x, y]) (E : Exa Z h x C) (hC : C ≠ "java/lang/String") (wi : (Cond.instantiable C n).before a0 Z = true) (E' : Exa Z h y D) (hD : D ≠ "java/lang/String") (wi' : (Cond.instantiable D k).before a0 Z = true) : LStr Z h' a cs := by
  obtain ⟨h1, h2, ⟨t, kb, h3, h4⟩, h5⟩ := S
  have n1 : a ∉ [x, y] := ninS (Exa.ne h1 E (Ne.symm hC)) (ninS (Exa.ne h1 E' (Ne.symm hD)) nin0)
  have n2 : t ∉ [x, y] := ninS (Exa.neArv E h4 wi).symm (ninS (Exa.neArv E' h4 wi').symm nin0)
  exact ⟨h1.keep K, h2.keep K n1, ⟨t, kb, h3.keep K n1, h4.keep K n2⟩, h5⟩
/-- a String under construction (its value still null) is no literal's -/
theorem SafeA.null {EL : List (String × Nat)} (E : Exa Z h x "java/lang/String") (V : Fld Z h x "java/lang/String" "value" "[B" .null) : SafeA Z EL h x := fun vm hal B => by
  obtain ⟨p, -, u, a, -, q, -, F, hy⟩ := B
  have Fa := F.ha
  have Fd := F.hd
  obtain ⟨cS, ⟨⟨s1, s2, s3, ⟨cv, kv, iv, s4, s4'⟩, ⟨cc, kc, ic, s5, s5'⟩, s6, s7, s8, s9, s10, s11, s12, s13, s14, s15, s16⟩, hfS, hcS⟩, ⟨kS, k1, k2, k3⟩, hB, hbyt⟩ := F
  obtain ⟨c1, kx, e1, e2, e3, e4, e5⟩ := E
  obtain ⟨c2, cf, k, i, f, v1, v2, v3, v4, v5, v6, v7⟩ := V
  cases e1.symm.trans v1
  rcases hy with rfl | rfl
  · obtain ⟨kv', z4⟩ := ff_back (U := Wst Z vm h) hal s4
    have z4 : Z.fieldFound? "java/lang/String" "value" "[B" = _ := z4
    rw [v2] at z4
    simp only [Option.some.injEq, Prod.mk.injEq] at z4
    cases (show h[q.sa]? = some q.sC from s1).symm.trans e1
    rw [z4.2.2.2, s8] at v7
    cases v7
  · cases (show h[q.sd]? = some q.SA from s10).symm.trans e1
    obtain ⟨-, kA, hkA, comp, hkind⟩ := s11
    have hfS' : vm.findClass "java/lang/String" = some cS := hfS
    rw [hal.findClass] at hfS'
    cases hfS'.symm.trans e2
    cases (show vm.classes[q.SA.cls]? = some kS from k1).symm.trans (show vm.classes[q.SA.cls]? = some kA from hkA)
    rw [k2] at hkind
    cases hkind
theorem LStr.lt (S : LStr Z h a cs) : a < h.size := S.1.lt
end Strs
end Jvm.OwnKit
/- laws to paste: Road.backV, Road.lenW, Road.chN, Road.codOf (cut by pick.py; bodies as the Statement names them) -/
namespace Jvm.Pilot.@@N@@
namespace StrChars
open Jvm Sem ClassFile Op Lib Jvm.Stand Jvm.Free.XT Jvm.Free.ALB Jvm.Free.JM Jvm.Free
open Jvm.Lib.Cold (StaticIs)
/-- a char array whose places are chars -/
def Ch (a : Addr) (A : Cell) (U : State) : Prop := Arr .char a A U ∧ Typed .char A
theorem Ch.mv {a : Addr} {A : Cell} {U U' : State} (h : Ch a A U) (hal : U.vm.Alike U'.vm) (hh : U'.heap = U.heap) : Ch a A U' := ⟨h.1.mv hal hh, h.2⟩
theorem Ch.keep {a : Addr} {A : Cell} {U U' : State} (h : Ch a A U) (hal : U.vm.Alike U'.vm) (hk : U'.heap[a]? = some A) : Ch a A U' := ⟨h.1.keep hal hk, h.2⟩
/-- what place i of a char[]'s cell holds -/
def cv (A : Cell) (i : Nat) : Int32 := match A.slots[i]? with | some (.int x) => x | _ => 0
theorem Ch.get {a : Addr} {A : Cell} {U : State} (h : Ch a A U) {i : Nat} (hi : i < A.slots.size) : A.slots[i]? = some (.int (cv A i)) := by
  have e := Array.getElem?_eq_getElem hi
  have f := h.2 i _ e
  unfold cv; rw [e]
  generalize A.slots[i] = v at f
  cases v <;> simp [fits] at f ⊢
/-- the byte that i2b leaves of a char -/
def lo8 (x : Int32) : Int32 := x.toInt8.toInt32
theorem fits_lo8 (y : Int32) : fits .byte (.int (lo8 y)) = true := by
  have h1 := y.toInt8.le_toInt
  have h2 := y.toInt8.toInt_lt
  simp only [lo8, fits, Bool.and_eq_true, decide_eq_true_eq, Int32.le_iff_toInt_le, Int8.toInt_toInt32, show (-128 : Int32).toInt = -128 from by decide, show (127 : Int32).toInt = 127 from by decide]
  omega
/-- A' is A but that each place j of lo .. hi - 1 holds f j -/
def Laid (A A' : Cell) (lo hi : Nat) (f : Nat → Value) : Prop := A'.cls = A.cls ∧ A'.vm = A.vm ∧ A'.slots.size = A.slots.size ∧ ∀ i, A'.slots[i]? = if lo ≤ i ∧ i < hi then some (f i) else A.slots[i]?
theorem Laid.zero (A : Cell) (lo : Nat) (f : Nat → Value) : Laid A A lo (lo + 0) f := ⟨rfl, rfl, rfl, fun i => by rw [if_neg (by omega)]⟩
theorem Laid.step {A Ak : Cell} {lo k : Nat} {f : Nat → Value} {v : Value} (h : Laid A Ak lo k f) (hlo : lo ≤ k) (hk : k < Ak.slots.size) (hv : v = f k) : Laid A (Ak.setSlot k v) lo (k + 1) f := by
  refine ⟨h.1, h.2.1, by simpa [Cell.setSlot] using h.2.2.1, fun i => ?_⟩
  by_cases e : k = i
  · subst e; rw [Cell.slots_setSlot_self v hk, if_pos (by omega), hv]
  · rw [Cell.slots_setSlot_ne v e, h.2.2.2 i]
    by_cases q : lo ≤ i ∧ i < k
    · rw [if_pos q, if_pos (by omega)]
    · rw [if_neg q, if_neg (by omega)]
def U16 : String := "java/lang/StringUTF16"
namespace Cmp5
def yN : MethodName := ⟨"java/lang/StringUTF16", "compress", "([CI[BII)I"⟩
abbrev yB : ByteArray := jdk_52_method_21_code
theorem d0 : decode yB 0 = .ok (.iconst 0, 1) := by decide +kernel
theorem d1 : decode yB 1 = .ok (.istore 5, 2) := by decide +kernel
theorem d3 : decode yB 3 = .ok (.iload 5, 2) := by decide +kernel
theorem d5 : decode yB 5 = .ok (.iload 4, 2) := by decide +kernel
theorem d7 : decode yB 7 = .ok (.if_icmp (.ge) 37, 3) := by decide +kernel
theorem d10 : decode yB 10 = .ok (.aload_n 0, 1) := by decide +kernel
theorem d11 : decode yB 11 = .ok (.iload_n 1, 1) := by decide +kernel
theorem d12 : decode yB 12 = .ok (.caload, 1) := by decide +kernel
theorem d13 : decode yB 13 = .ok (.istore 6, 2) := by decide +kernel
theorem d15 : decode yB 15 = .ok (.iload 6, 2) := by decide +kernel
theorem d17 : decode yB 17 = .ok (.sipush 255, 3) := by decide +kernel
theorem d20 : decode yB 20 = .ok (.if_icmp (.le) 6, 3) := by decide +kernel
theorem d26 : decode yB 26 = .ok (.aload_n 2, 1) := by decide +kernel
theorem d27 : decode yB 27 = .ok (.iload_n 3, 1) := by decide +kernel
theorem d28 : decode yB 28 = .ok (.iload 6, 2) := by decide +kernel
theorem d30 : decode yB 30 = .ok (.i2b, 1) := by decide +kernel
theorem d31 : decode yB 31 = .ok (.bastore, 1) := by decide +kernel
theorem d32 : decode yB 32 = .ok (.iinc 1 1, 3) := by decide +kernel
theorem d35 : decode yB 35 = .ok (.iinc 3 1, 3) := by decide +kernel
theorem d38 : decode yB 38 = .ok (.iinc 5 1, 3) := by decide +kernel
theorem d41 : decode yB 41 = .ok (.goto (-38), 3) := by decide +kernel
theorem d44 : decode yB 44 = .ok (.iload 4, 2) := by decide +kernel
theorem d46 : decode yB 46 = .ok (.ireturn, 1) := by decide +kernel
def site : List Cond := []
def tab : Cond := tabOf yN yB 7 (some .int) site
def P (b : Addr) (A : Cell) (d : Addr) (B : Cell) (o q len : Nat) (args : Array Value) (s : State) : Prop := args = #[.ref b, .int (Int32.ofNat o), .ref d, .int (Int32.ofNat q), .int (Int32.ofNat len)] ∧ Ch b A s ∧ Arr .byte d B s ∧ b ≠ d ∧ o + len ≤ A.slots.size ∧ q + len ≤ B.slots.size ∧ ∀ i, i < len → ¬ 255 < cv A (o + i)
def E (b : Addr) (A : Cell) (d : Addr) (B : Cell) (o q len : Nat) (r : Option Value) (s u : State) : Prop := r = some (.int (Int32.ofNat len)) ∧ ∃ B', Put d B' s u ∧ Laid B B' q (q + len) (fun j => Value.int (lo8 (cv A (o + (j - q)))))
/-- no char of the range above 255: len; the places written hold each char's low byte -/
theorem law (l : Launch) (b : Addr) (A : Cell) (d : Addr) (B : Cell) (o q len : Nat) : Law l yN 5 5 0 0 yB 7 (some .int) site (P b A d B o q len) (E b A d B o q len) (copyLocs d q len) 0 0 := by
  refine Law.of_walk (plainFor_of_name (by decide +kernel)) (by decide +kernel) (by decide +kernel) (by decide) (fun _ _ h => by rw [h.1]; rfl) (fun _ U U' hal hh h => ⟨h.1, h.2.1.mv hal hh, h.2.2.1.mv hal hh, h.2.2.2⟩) (fun r U U' V V' h1 hal h2 h => ⟨h.1, h.2.elim fun B' q => ⟨B', q.1.mv h1 h2, q.2⟩⟩) ?_
  intro p e s m args below meth c s₁ X0 hexec hbytes hml hret hlk hnm hown hh0 W hP
  obtain ⟨rfl, hA, hB, hne, l1, l2, hp⟩ := hP
  have c1 : Steps p.tables e below (s₁.setTop (entryFrame m #[.ref b, .int (Int32.ofNat o), .ref d, .int (Int32.ofNat q), .int (Int32.ofNat len)] 7)) (s₁.setTop (mkF m 0 #[.val (.ref b), .val (.int (Int32.ofNat o)), .val (.ref d), .val (.int (Int32.ofNat q)), .val (.int (Int32.ofNat len)), .unset, .unset] [])) := entry rfl
  have hA0 := hA.1.mv X0.warmed.alike hh0
  have hB0 := hB.mv X0.warmed.alike hh0
  have a31 := hA.1.2.2.2
  have c2 : Steps p.tables e below (s₁.setTop (entryFrame m #[.ref b, .int (Int32.ofNat o), .ref d, .int (Int32.ofNat q), .int (Int32.ofNat len)] 7)) (s₁.setTop (mkF m 3 #[.val (.ref b), .val (.int (Int32.ofNat o)), .val (.ref d), .val (.int (Int32.ofNat q)), .val (.int (Int32.ofNat len)), .val (.int 0), .unset] [])) := c1.trans (by
    refine iconstV X0.here hexec rfl 0 (hb hbytes d0) (by decide) ?_
    refine XS.istore X0.here hexec rfl (hb hbytes d1) rfl rfl ?_
    exact Steps.refl _)
  have loop : ∀ (r i : Nat), i + r = len → ∀ (z : Slot), (z = .unset ∨ ∃ w, z = .val w ∧ w.category = 1) → ∀ (Tl : State) (Bk : Cell), Stand p l e { frames := 0, locals := 0, cells := 0, slots := 0 } s m #[.ref b, .int (Int32.ofNat o), .ref d, .int (Int32.ofNat q), .int (Int32.ofNat len)] below meth c Tl ([] ++ copyLocs d q i) 0 0 → Put d Bk s₁ Tl → Laid B Bk q (q + i) (fun j => Value.int (lo8 (cv A (o + (j - q))))) →
      Steps p.tables e below (s₁.setTop (entryFrame m #[.ref b, .int (Int32.ofNat o), .ref d, .int (Int32.ofNat q), .int (Int32.ofNat len)] 7)) (Tl.setTop (mkF m 3 #[.val (.ref b), .val (.int (Int32.ofNat (o + i))), .val (.ref d), .val (.int (Int32.ofNat (q + i))), .val (.int (Int32.ofNat len)), .val (.int (Int32.ofNat i)), z] [])) → ∃ (T' : State) (B' : Cell) (z' : Slot), Stand p l e { frames := 0, locals := 0, cells := 0, slots := 0 } s m #[.ref b, .int (Int32.ofNat o), .ref d, .int (Int32.ofNat q), .int (Int32.ofNat len)] below meth c T' ([] ++ copyLocs d q len) 0 0 ∧ Put d B' s₁ T' ∧ Laid B B' q (q + len) (fun j => Value.int (lo8 (cv A (o + (j - q))))) ∧
      Steps p.tables e below (s₁.setTop (entryFrame m #[.ref b, .int (Int32.ofNat o), .ref d, .int (Int32.ofNat q), .int (Int32.ofNat len)] 7)) (T'.setTop (mkF m 3 #[.val (.ref b), .val (.int (Int32.ofNat (o + len))), .val (.ref d), .val (.int (Int32.ofNat (q + len))), .val (.int (Int32.ofNat len)), .val (.int (Int32.ofNat len)), z'] [])) := by
    intro r
    induction r with
    | zero =>
      intro i hi z hz Tl Bk Xl pl fl cl
      have hil : i = len := by omega
      rw [hil] at Xl fl cl
      exact ⟨Tl, Bk, z, Xl, pl, fl, cl⟩
    | succ r ih =>
      intro i hi z hz Tl Bk Xl pl fl cl
      have all := X0.warmed.alike.symm.trans Xl.warmed.alike
      have hAl := hA0.keep all (pl.other hne hA0.1)
      have hBk := hB0.like all pl.1 fl.1 fl.2.1 fl.2.2.1
      have hlt : q + i < Bk.slots.size := by rw [fl.2.2.1]; omega
      have c3 : Steps p.tables e below (s₁.setTop (entryFrame m #[.ref b, .int (Int32.ofNat o), .ref d, .int (Int32.ofNat q), .int (Int32.ofNat len)] 7)) (Tl.setTop (mkF m 12 #[.val (.ref b), .val (.int (Int32.ofNat (o + i))), .val (.ref d), .val (.int (Int32.ofNat (q + i))), .val (.int (Int32.ofNat len)), .val (.int (Int32.ofNat i)), z] [.int (Int32.ofNat (o + i)), .ref b])) := cl.trans (by
        refine XS.iload Xl.here hexec rfl (hb hbytes d3) rfl ?_
        refine XS.iload Xl.here hexec rfl (hb hbytes d5) rfl ?_
        refine XS.icmpNo Xl.here hexec rfl (hb hbytes d7) rfl (ii_ge_f (lt32 (by omega) (by omega))) ?_
        refine XS.aloadN Xl.here hexec rfl (hb hbytes d10) rfl rfl ?_
        refine XS.iloadN Xl.here hexec rfl (hb hbytes d11) rfl ?_
        exact Steps.refl _)
      have c4 : Steps p.tables e below (s₁.setTop (entryFrame m #[.ref b, .int (Int32.ofNat o), .ref d, .int (Int32.ofNat q), .int (Int32.ofNat len)] 7)) (Tl.setTop (mkF m 13 #[.val (.ref b), .val (.int (Int32.ofNat (o + i))), .val (.ref d), .val (.int (Int32.ofNat (q + i))), .val (.int (Int32.ofNat len)), .val (.int (Int32.ofNat i)), z] [.int (cv A (o + i))])) := c3.trans (by
        refine Xl.aget hexec hAl rfl (hA.get (i := o + i) (by omega)) rfl rfl (hb hbytes d12) ?_
        exact Steps.refl _)
      have c5 : Steps p.tables e below (s₁.setTop (entryFrame m #[.ref b, .int (Int32.ofNat o), .ref d, .int (Int32.ofNat q), .int (Int32.ofNat len)] 7)) (Tl.setTop (mkF m 15 #[.val (.ref b), .val (.int (Int32.ofNat (o + i))), .val (.ref d), .val (.int (Int32.ofNat (q + i))), .val (.int (Int32.ofNat len)), .val (.int (Int32.ofNat i)), .val (.int (cv A (o + i)))] [])) := c4.trans (by
        refine XS.istoreS Xl.here hexec rfl (hb hbytes d13) rfl rfl hz ?_
        exact Steps.refl _)
      have c6 : Steps p.tables e below (s₁.setTop (entryFrame m #[.ref b, .int (Int32.ofNat o), .ref d, .int (Int32.ofNat q), .int (Int32.ofNat len)] 7)) (Tl.setTop (mkF m 31 #[.val (.ref b), .val (.int (Int32.ofNat (o + i))), .val (.ref d), .val (.int (Int32.ofNat (q + i))), .val (.int (Int32.ofNat len)), .val (.int (Int32.ofNat i)), .val (.int (cv A (o + i)))] [.int (lo8 (cv A (o + i))), .int (Int32.ofNat (q + i)), .ref d])) := c5.trans (by
        refine XS.iload Xl.here hexec rfl (hb hbytes d15) rfl ?_
        refine sipushV Xl.here hexec rfl 255 (hb hbytes d17) (by decide) ?_
        refine XS.icmpYes Xl.here hexec rfl (pc0 := 20) rfl (hb hbytes d20) rfl (ii_le_t (hp i (by omega))) (by decide) rfl ?_
        refine XS.aloadN Xl.here hexec rfl (hb hbytes d26) rfl rfl ?_
        refine XS.iloadN Xl.here hexec rfl (hb hbytes d27) rfl ?_
        refine XS.iload Xl.here hexec rfl (hb hbytes d28) rfl ?_
        refine i2b Xl.here hexec rfl (hb hbytes d30) rfl ?_
        exact Steps.refl _)
      obtain ⟨T7, X7, p7, st7⟩ := Xl.aput hexec hBk rfl hlt rfl (fits_lo8 (cv A (o + i))) (g := (mkF m 31 #[.val (.ref b), .val (.int (Int32.ofNat (o + i))), .val (.ref d), .val (.int (Int32.ofNat (q + i))), .val (.int (Int32.ofNat len)), .val (.int (Int32.ofNat i)), .val (.int (cv A (o + i)))] [.int (lo8 (cv A (o + i))), .int (Int32.ofNat (q + i)), .ref d])) rfl (rest := []) rfl (hb hbytes d31)
      have c8 : Steps p.tables e below (s₁.setTop (entryFrame m #[.ref b, .int (Int32.ofNat o), .ref d, .int (Int32.ofNat q), .int (Int32.ofNat len)] 7)) (T7.setTop (mkF m 32 #[.val (.ref b), .val (.int (Int32.ofNat (o + i))), .val (.ref d), .val (.int (Int32.ofNat (q + i))), .val (.int (Int32.ofNat len)), .val (.int (Int32.ofNat i)), .val (.int (cv A (o + i)))] [])) := c6.trans (st7 _ (Steps.refl _))
      have c9 : Steps p.tables e below (s₁.setTop (entryFrame m #[.ref b, .int (Int32.ofNat o), .ref d, .int (Int32.ofNat q), .int (Int32.ofNat len)] 7)) (T7.setTop (mkF m 3 #[.val (.ref b), .val (.int (Int32.ofNat (o + i) + 1)), .val (.ref d), .val (.int (Int32.ofNat (q + i) + 1)), .val (.int (Int32.ofNat len)), .val (.int (Int32.ofNat i + 1)), .val (.int (cv A (o + i)))] [])) := c8.trans (by
        refine iincV X7.here hexec rfl 1 (hb hbytes d32) (by decide) rfl rfl ?_
        refine iincV X7.here hexec rfl 1 (hb hbytes d35) (by decide) rfl rfl ?_
        refine iincV X7.here hexec rfl 1 (hb hbytes d38) (by decide) rfl rfl ?_
        refine XS.goto X7.here hexec rfl (pc0 := 41) rfl (hb hbytes d41) (by decide) rfl ?_
        exact Steps.refl _)
      have c10 : Steps p.tables e below (s₁.setTop (entryFrame m #[.ref b, .int (Int32.ofNat o), .ref d, .int (Int32.ofNat q), .int (Int32.ofNat len)] 7)) (T7.setTop (mkF m 3 #[.val (.ref b), .val (.int (Int32.ofNat (o + (i + 1)))), .val (.ref d), .val (.int (Int32.ofNat (q + (i + 1)))), .val (.int (Int32.ofNat len)), .val (.int (Int32.ofNat (i + 1))), .val (.int (cv A (o + i)))] [])) := by
        have := c9
        rw [succ32, succ32, succ32] at this
        exact this
      exact ih (i + 1) (by omega) _ (Or.inr ⟨_, rfl, rfl⟩) T7 _ (by rw [copyLocs_step, ← List.append_assoc]; exact X7) (pl.trans p7) (fl.step (by omega) hlt (by simp)) c10
  obtain ⟨T9, B9, z9, X9, p9, f9, g9⟩ := loop len 0 (by omega) .unset (Or.inl rfl) s₁ B (by simpa [copyLocs] using X0) ⟨hB0.1, fun _ _ => rfl, rfl⟩ (Laid.zero _ _ _) c2
  have c11 : Steps p.tables e below (s₁.setTop (entryFrame m #[.ref b, .int (Int32.ofNat o), .ref d, .int (Int32.ofNat q), .int (Int32.ofNat len)] 7)) (T9.setTop (mkF m 46 #[.val (.ref b), .val (.int (Int32.ofNat (o + len))), .val (.ref d), .val (.int (Int32.ofNat (q + len))), .val (.int (Int32.ofNat len)), .val (.int (Int32.ofNat len)), z9] [.int (Int32.ofNat len)])) := g9.trans (by
    refine XS.iload X9.here hexec rfl (hb hbytes d3) rfl ?_
    refine XS.iload X9.here hexec rfl (hb hbytes d5) rfl ?_
    refine XS.icmpYes X9.here hexec rfl (pc0 := 7) rfl (hb hbytes d7) rfl (ii_ge_t (nlt32 (by omega) (Nat.le_refl _))) (by decide) rfl ?_
    refine XS.iload X9.here hexec rfl (hb hbytes d44) rfl ?_
    exact Steps.refl _)
  exact ⟨T9, some (.int (Int32.ofNat len)), _, _, _, X9, by simp, rfl, rfl, (fun h => by cases h), ⟨rfl, B9, p9.from hh0, f9⟩, fun fs hl => c11.trans (X9.ireturnOut hexec hret rfl (Or.inl rfl) (hb hbytes d46) hl)⟩
end Cmp5
namespace Cmp3
def yN : MethodName := ⟨"java/lang/StringUTF16", "compress", "([CII)[B"⟩
abbrev yB : ByteArray := jdk_52_method_16_code
theorem d0 : decode yB 0 = .ok (.iload_n 2, 1) := by decide +kernel
theorem d1 : decode yB 1 = .ok (.newarray .byte, 2) := by decide +kernel
theorem d3 : decode yB 3 = .ok (.astore_n 3, 1) := by decide +kernel
theorem d4 : decode yB 4 = .ok (.aload_n 0, 1) := by decide +kernel
theorem d5 : decode yB 5 = .ok (.iload_n 1, 1) := by decide +kernel
theorem d6 : decode yB 6 = .ok (.aload_n 3, 1) := by decide +kernel
theorem d7 : decode yB 7 = .ok (.iconst 0, 1) := by decide +kernel
theorem d8 : decode yB 8 = .ok (.iload_n 2, 1) := by decide +kernel
theorem d9 : decode yB 9 = .ok (.invokestatic 115, 3) := by decide +kernel
theorem d12 : decode yB 12 = .ok (.istore 4, 2) := by decide +kernel
theorem d14 : decode yB 14 = .ok (.iload 4, 2) := by decide +kernel
theorem d16 : decode yB 16 = .ok (.iload_n 2, 1) := by decide +kernel
theorem d17 : decode yB 17 = .ok (.if_icmp (.eq) 40, 3) := by decide +kernel
theorem d57 : decode yB 57 = .ok (.aload_n 3, 1) := by decide +kernel
theorem d58 : decode yB 58 = .ok (.areturn, 1) := by decide +kernel
def site : List Cond := [.arrayClass .byte, Cmp5.tab] ++ staticW U16 115 Cmp5.yN
def tab : Cond := tabOf yN yB 6 (some (.array .byte)) site
def P (b : Addr) (A : Cell) (o len : Nat) (args : Array Value) (s : State) : Prop := args = #[.ref b, .int (Int32.ofNat o), .int (Int32.ofNat len)] ∧ Ch b A s ∧ o + len ≤ A.slots.size ∧ len ≤ 536870912 ∧ ∀ i, i < len → ¬ 255 < cv A (o + i)
def E (b : Addr) (A : Cell) (o len : Nat) (r : Option Value) (s u : State) : Prop := NewArr .byte "[B" len (fun j => .int (lo8 (cv A (o + j)))) r s u ∧ u.heap.size = s.heap.size + 1
/-- no char of the range above 255: a new byte[] of their low bytes -/
theorem law (l : Launch) (b : Addr) (A : Cell) (o len : Nat) : Law l yN 3 3 1 18 yB 6 (some (.array .byte)) site (P b A o len) (E b A o len) [] 1 len := by
  refine Law.of_walk (plainFor_of_name (by decide +kernel)) (by decide +kernel) (by decide +kernel) (by decide) (fun _ _ h => by rw [h.1]; rfl) (fun _ U U' hal hh h => ⟨h.1, h.2.1.mv hal hh, h.2.2⟩) (fun r U U' V V' h1 hal h2 h => ⟨NewArr.mv r U U' V V' h1 hal h2 h.1, by rw [h1, h2]; exact h.2⟩) ?_
  intro p e s m args below meth c s₁ X0 hexec hbytes hml hret hlk hnm hown hh0 W hP
  obtain ⟨rfl, hA, l1, l2, hp⟩ := hP
  have a31 := hA.1.2.2.2
  have c1 : Steps p.tables e below (s₁.setTop (entryFrame m #[.ref b, .int (Int32.ofNat o), .int (Int32.ofNat len)] 6)) (s₁.setTop (mkF m 0 #[.val (.ref b), .val (.int (Int32.ofNat o)), .val (.int (Int32.ofNat len)), .unset, .unset, .unset] [])) := entry rfl
  have c2 : Steps p.tables e below (s₁.setTop (entryFrame m #[.ref b, .int (Int32.ofNat o), .int (Int32.ofNat len)] 6)) (s₁.setTop (mkF m 1 #[.val (.ref b), .val (.int (Int32.ofNat o)), .val (.int (Int32.ofNat len)), .unset, .unset, .unset] [.int (Int32.ofNat len)])) := c1.trans (by
    refine XS.iloadN X0.here hexec rfl (hb hbytes d0) rfl ?_
    exact Steps.refl _)
  obtain ⟨T3, B3, X3, ba3, bs3, bv3, bh3, bf3, st3⟩ := X0.anew hexec (atype := .byte) (wk W (.arrayClass .byte)) rfl (by show len * 1 ≤ _; omega) (by omega) (g := (mkF m 1 #[.val (.ref b), .val (.int (Int32.ofNat o)), .val (.int (Int32.ofNat len)), .unset, .unset, .unset] [.int (Int32.ofNat len)])) rfl (hb hbytes d1) (rest := []) rfl (Nat.le_refl _) (by show 0 + len ≤ len; omega)
  rw [hh0] at ba3 st3
  have kp3 : XT.Kept s T3 := (XT.Kept.of_eq hh0).push bh3
  have hA3 := hA.keep X3.warmed.alike (kp3 _ _ hA.1.1)
  have hne : b ≠ s.heap.size := hA.1.ne
  have c4 : Steps p.tables e below (s₁.setTop (entryFrame m #[.ref b, .int (Int32.ofNat o), .int (Int32.ofNat len)] 6)) (T3.setTop (mkF m 3 #[.val (.ref b), .val (.int (Int32.ofNat o)), .val (.int (Int32.ofNat len)), .unset, .unset, .unset] [.ref s.heap.size])) := c2.trans (st3 _ (Steps.refl _))
  have c5 : Steps p.tables e below (s₁.setTop (entryFrame m #[.ref b, .int (Int32.ofNat o), .int (Int32.ofNat len)] 6)) (T3.setTop (mkF m 9 #[.val (.ref b), .val (.int (Int32.ofNat o)), .val (.int (Int32.ofNat len)), .val (.ref s.heap.size), .unset, .unset] [.int (Int32.ofNat len), .int 0, .ref s.heap.size, .int (Int32.ofNat o), .ref b])) := c4.trans (by
    refine XS.astoreN X3.here hexec rfl (hb hbytes d3) rfl rfl rfl ?_
    refine XS.aloadN X3.here hexec rfl (hb hbytes d4) rfl rfl ?_
    refine XS.iloadN X3.here hexec rfl (hb hbytes d5) rfl ?_
    refine XS.aloadN X3.here hexec rfl (hb hbytes d6) rfl rfl ?_
    refine iconstV X3.here hexec rfl 0 (hb hbytes d7) (by decide) ?_
    refine XS.iloadN X3.here hexec rfl (hb hbytes d8) rfl ?_
    exact Steps.refl _)
  obtain ⟨v6, T6, X6, E6, g6⟩ := X3.callS hexec (Cmp5.law l b A s.heap.size B3 o 0 len) hown (wks W (staticW U16 115 Cmp5.yN)) (wk W Cmp5.tab) (W := 0) (Nat.le_of_ble_eq_true rfl) (Nat.le_of_ble_eq_true rfl) (Nat.le_refl _) (by show 0 + len + 0 ≤ len; omega) (g := (mkF m 9 #[.val (.ref b), .val (.int (Int32.ofNat o)), .val (.int (Int32.ofNat len)), .val (.ref s.heap.size), .unset, .unset] [.int (Int32.ofNat len), .int (Int32.ofNat 0), .ref s.heap.size, .int (Int32.ofNat o), .ref b])) rfl (by rw [hml]; rfl) c5 (argsL := [.ref b, .int (Int32.ofNat o), .ref s.heap.size, .int (Int32.ofNat 0), .int (Int32.ofNat len)]) (rest := []) rfl rfl (by show 2 * 0 + 0 ≤ _; decide) (hb hbytes d9) (⟨rfl, hA3, ba3, hne, l1, by rw [bs3]; simp, hp⟩)
  obtain ⟨rfl, B6, p6, f6⟩ := E6
  have c7 : Steps p.tables e below (s₁.setTop (entryFrame m #[.ref b, .int (Int32.ofNat o), .int (Int32.ofNat len)] 6)) (T6.setTop (mkF m 12 #[.val (.ref b), .val (.int (Int32.ofNat o)), .val (.int (Int32.ofNat len)), .val (.ref s.heap.size), .unset, .unset] [.int (Int32.ofNat len)])) := g6
  have c8 : Steps p.tables e below (s₁.setTop (entryFrame m #[.ref b, .int (Int32.ofNat o), .int (Int32.ofNat len)] 6)) (T6.setTop (mkF m 58 #[.val (.ref b), .val (.int (Int32.ofNat o)), .val (.int (Int32.ofNat len)), .val (.ref s.heap.size), .val (.int (Int32.ofNat len)), .unset] [.ref s.heap.size])) := c7.trans (by
    refine XS.istore X6.here hexec rfl (hb hbytes d12) rfl rfl ?_
    refine XS.iload X6.here hexec rfl (hb hbytes d14) rfl ?_
    refine XS.iloadN X6.here hexec rfl (hb hbytes d16) rfl ?_
    refine XS.icmpYes X6.here hexec rfl (pc0 := 17) rfl (hb hbytes d17) rfl (ii_eq_t rfl) (by decide) rfl ?_
    refine XS.aloadN X6.here hexec rfl (hb hbytes d57) rfl rfl ?_
    exact Steps.refl _)
  have X8 := X6.wide (L' := []) (cells' := 1) (slots' := len) (fun x hx hlt => by
    simp only [List.nil_append, copyLocs, List.mem_map, List.mem_range] at hx
    obtain ⟨i, -, rfl⟩ := hx
    exact absurd hlt (Nat.lt_irrefl _)) (Nat.le_refl _) (by omega)
  exact ⟨T6, some (.ref s.heap.size), _, _, _, X8, rfl, rfl, rfl, (fun h => by cases h), ⟨⟨rfl, B6, ba3.like (X3.warmed.alike.symm.trans X6.warmed.alike) p6.1 f6.1 f6.2.1 f6.2.2.1, f6.2.1.trans bv3, by rw [X6.warmed.alike.findClass, f6.1]; exact bf3, by rw [f6.2.2.1, bs3]; simp, fun j hj => by rw [f6.2.2.2 j, if_pos (by omega)]; rfl, kp3.put p6 (Nat.le_refl _)⟩, by rw [p6.2.2, bh3, hh0]; simp⟩, fun fs hl => c8.trans (X8.areturnOut hexec rfl hret rfl (hb hbytes d58) hl)⟩
end Cmp3
namespace CodL
def yN : MethodName := ⟨"java/lang/StringUTF16", "coderFromArrayLen", "([BI)B"⟩
abbrev yB : ByteArray := jdk_52_method_15_code
theorem d0 : decode yB 0 = .ok (.iload_n 1, 1) := by decide +kernel
theorem d1 : decode yB 1 = .ok (.aload_n 0, 1) := by decide +kernel
theorem d2 : decode yB 2 = .ok (.arraylength, 1) := by decide +kernel
theorem d3 : decode yB 3 = .ok (.isub, 1) := by decide +kernel
theorem d4 : decode yB 4 = .ok (.bipush 31, 2) := by decide +kernel
theorem d6 : decode yB 6 = .ok (.iushr, 1) := by decide +kernel
theorem d7 : decode yB 7 = .ok (.i2b, 1) := by decide +kernel
theorem d8 : decode yB 8 = .ok (.ireturn, 1) := by decide +kernel
def site : List Cond := []
def tab : Cond := tabOf yN yB 2 (some .byte) site
def P (d : Addr) (B : Cell) (args : Array Value) (s : State) : Prop := args = #[.ref d, .int (Int32.ofNat B.slots.size)] ∧ Arr .byte d B s
def E (r : Option Value) (s u : State) : Prop := XT.PureE (some (.int 0)) r s u
/-- an array as long as the number of chars: LATIN1 -/
theorem law (l : Launch) (d : Addr) (B : Cell) : Law l yN 2 2 0 0 yB 2 (some .byte) site (P d B) E [] 0 0 := by
  refine Law.of_walk (plainFor_of_name (by decide +kernel)) (by decide +kernel) (by decide +kernel) (by decide) (fun _ _ h => by rw [h.1]; rfl) (fun _ U U' hal hh h => ⟨h.1, h.2.mv hal hh⟩) (fun r U U' V V' h1 hal h2 h => XT.PureE.mv r U U' V V' h1 hal h2 h) ?_
  intro p e s m args below meth c s₁ X0 hexec hbytes hml hret hlk hnm hown hh0 W hP
  obtain ⟨rfl, hB⟩ := hP
  have hB0 := hB.mv X0.warmed.alike hh0
  have c1 : Steps p.tables e below (s₁.setTop (entryFrame m #[.ref d, .int (Int32.ofNat B.slots.size)] 2)) (s₁.setTop (mkF m 0 #[.val (.ref d), .val (.int (Int32.ofNat B.slots.size))] [])) := entry rfl
  have c2 : Steps p.tables e below (s₁.setTop (entryFrame m #[.ref d, .int (Int32.ofNat B.slots.size)] 2)) (s₁.setTop (mkF m 2 #[.val (.ref d), .val (.int (Int32.ofNat B.slots.size))] [.ref d, .int (Int32.ofNat B.slots.size)])) := c1.trans (by
    refine XS.iloadN X0.here hexec rfl (hb hbytes d0) rfl ?_
    refine XS.aloadN X0.here hexec rfl (hb hbytes d1) rfl rfl ?_
    exact Steps.refl _)
  have c3 : Steps p.tables e below (s₁.setTop (entryFrame m #[.ref d, .int (Int32.ofNat B.slots.size)] 2)) (s₁.setTop (mkF m 8 #[.val (.ref d), .val (.int (Int32.ofNat B.slots.size))] [.int (lo8 (ushr (Int32.ofNat B.slots.size - Int32.ofNat B.slots.size) 31))])) := c2.trans (by
    refine X0.alen hexec hB0 rfl rfl (hb hbytes d2) ?_
    refine XS.isub X0.here hexec rfl (hb hbytes d3) rfl ?_
    refine bipushV X0.here hexec rfl 31 (hb hbytes d4) (by decide) ?_
    refine iushr X0.here hexec rfl (hb hbytes d6) rfl ?_
    refine i2b X0.here hexec rfl (hb hbytes d7) rfl ?_
    exact Steps.refl _)
  have e0 : lo8 (ushr (Int32.ofNat B.slots.size - Int32.ofNat B.slots.size) 31) = 0 := by rw [Int32.sub_self]; decide
  rw [e0] at c3
  exact ⟨s₁, some (.int 0), _, _, _, X0, rfl, rfl, rfl, (fun h => by cases h), ⟨rfl, hh0⟩, fun fs hl => c3.trans (X0.ireturnOut hexec hret rfl (Or.inr (Or.inr (Or.inl rfl))) (hb hbytes d8) hl)⟩
end CodL
/-- the String at a is Latin-1 over a new byte[] (the heap's one new cell): the low bytes of the len chars of A from o on; every cell but a is kept -/
def Got (a : Addr) (D : Cell) (fV fC : Field) (A : Cell) (o len : Nat) (r : Option Value) (s u : State) : Prop := r = none ∧ ∃ D' V : Cell, Blank "java/lang/String" a D' u ∧ Same D D' [fV.slot, fC.slot] ∧ D'.slots[fV.slot]? = some (.ref s.heap.size) ∧ D'.slots[fC.slot]? = some (.int 0) ∧ Arr .byte s.heap.size V u ∧ V.vm = .none ∧ u.vm.findClass "[B" = some V.cls ∧ V.slots.size = len ∧ (∀ j, j < len → V.slots[j]? = some (.int (lo8 (cv A (o + j))))) ∧ (∀ (y : Addr) (c : Cell), y ≠ a → s.heap[y]? = some c → u.heap[y]? = some c) ∧ u.heap.size = s.heap.size + 1
theorem Got.mv {a : Addr} {D A : Cell} {fV fC : Field} {o len : Nat} : ∀ r (U U' V V' : State), U'.heap = U.heap → V.vm.Alike V'.vm → V'.heap = V.heap → Got a D fV fC A o len r U V → Got a D fV fC A o len r U' V' :=
  fun r U U' V V' h1 hal h2 ⟨e0, D', X, a1, a2, a3, a4, a5, a6, a7, a8, a9, a10, a11⟩ => ⟨e0, D', X, a1.mv hal h2, a2, by rw [h1]; exact a3, a4, by rw [h1]; exact a5.mv hal h2, a6, by rw [hal.findClass]; exact a7, a8, a9, by rw [h1, h2]; exact a10, by rw [h1, h2]; exact a11⟩
namespace New4
def yN : MethodName := ⟨"java/lang/String", "<init>", "([CIILjava/lang/Void;)V"⟩
abbrev yB : ByteArray := jdk_42_method_149_code
theorem d0 : decode yB 0 = .ok (.aload_n 0, 1) := by decide +kernel
theorem d1 : decode yB 1 = .ok (.invokespecial 1, 3) := by decide +kernel
theorem d4 : decode yB 4 = .ok (.iload_n 3, 1) := by decide +kernel
theorem d5 : decode yB 5 = .ok (.ifCond (.ne) 22, 3) := by decide +kernel
theorem d27 : decode yB 27 = .ok (.getstatic 38, 3) := by decide +kernel
theorem d30 : decode yB 30 = .ok (.ifCond (.eq) 28, 3) := by decide +kernel
theorem d33 : decode yB 33 = .ok (.aload_n 1, 1) := by decide +kernel
theorem d34 : decode yB 34 = .ok (.iload_n 2, 1) := by decide +kernel
theorem d35 : decode yB 35 = .ok (.iload_n 3, 1) := by decide +kernel
theorem d36 : decode yB 36 = .ok (.invokestatic 177, 3) := by decide +kernel
theorem d39 : decode yB 39 = .ok (.astore 5, 2) := by decide +kernel
theorem d41 : decode yB 41 = .ok (.aload_n 0, 1) := by decide +kernel
theorem d42 : decode yB 42 = .ok (.aload 5, 2) := by decide +kernel
theorem d44 : decode yB 44 = .ok (.iload_n 3, 1) := by decide +kernel
theorem d45 : decode yB 45 = .ok (.invokestatic 47, 3) := by decide +kernel
theorem d48 : decode yB 48 = .ok (.putfield 15, 3) := by decide +kernel
theorem d51 : decode yB 51 = .ok (.aload_n 0, 1) := by decide +kernel
theorem d52 : decode yB 52 = .ok (.aload 5, 2) := by decide +kernel
theorem d54 : decode yB 54 = .ok (.putfield 9, 3) := by decide +kernel
theorem d57 : decode yB 57 = .ok (.return_, 1) := by decide +kernel
def site : List Cond := [.fieldLink "java/lang/String" 38 "java/lang/String" "COMPACT_STRINGS" "Z", Cmp3.tab, CodL.tab, .laysFinal "java/lang/String" "java/lang/String" "value" "[B", .fieldLink "java/lang/String" 9 "java/lang/String" "value" "[B", .laysFinal "java/lang/String" "java/lang/String" "coder" "B", .fieldLink "java/lang/String" 15 "java/lang/String" "coder" "B"] ++ objW "java/lang/String" 1 ++ staticW "java/lang/String" 177 Cmp3.yN ++ staticW "java/lang/String" 47 CodL.yN
def tab : Cond := tabOf yN yB 6 none site
def P (a : Addr) (D : Cell) (fV fC : Field) (b : Addr) (A : Cell) (z : Int32) (o len : Nat) (args : Array Value) (s : State) : Prop := args = #[.ref a, .ref b, .int (Int32.ofNat o), .int (Int32.ofNat len), .null] ∧ Blank "java/lang/String" a D s ∧ Found "java/lang/String" "value" "[B" fV s ∧ Found "java/lang/String" "coder" "B" fC s ∧ Ch b A s ∧ StaticIs s "java/lang/String" "COMPACT_STRINGS" "Z" (.int z) ∧ ¬ z = 0 ∧ 0 < len ∧ o + len ≤ A.slots.size ∧ len ≤ 536870912 ∧ ∀ i, i < len → ¬ 255 < cv A (o + i)
def E (a : Addr) (D : Cell) (fV fC : Field) (A : Cell) (o len : Nat) (r : Option Value) (s u : State) : Prop := Got a D fV fC A o len r s u
/-- len > 0, no char of the range above 255: a Latin-1 String of their low bytes -/
theorem law (l : Launch) (a : Addr) (D : Cell) (fV fC : Field) (b : Addr) (A : Cell) (z : Int32) (o len : Nat) : Law l yN 5 4 2 35 yB 6 none site (P a D fV fC b A z o len) (E a D fV fC A o len) [⟨a, fC.slot⟩, ⟨a, fV.slot⟩] 1 len := by
  refine Law.of_walk (plainFor_of_name (by decide +kernel)) (by decide +kernel) (by decide +kernel) (by decide) (fun _ _ h => by rw [h.1]; rfl) (fun _ U U' hal hh h => ⟨h.1, h.2.1.mv hal hh, h.2.2.1.al hal, h.2.2.2.1.al hal, h.2.2.2.2.1.mv hal hh, h.2.2.2.2.2.1.there hal hh, h.2.2.2.2.2.2⟩) (fun r U U' V V' h1 hal h2 h => Got.mv r U U' V V' h1 hal h2 h) ?_
  intro p e s m args below meth c s₁ X0 hexec hbytes hml hret hlk hnm hown hh0 W hP
  obtain ⟨rfl, hB, f1, f2, hA, s1, hz, l0, l1, l2, hp⟩ := hP
  have a31 := hA.1.2.2.2
  have c1 : Steps p.tables e below (s₁.setTop (entryFrame m #[.ref a, .ref b, .int (Int32.ofNat o), .int (Int32.ofNat len), .null] 6)) (s₁.setTop (mkF m 0 #[.val (.ref a), .val (.ref b), .val (.int (Int32.ofNat o)), .val (.int (Int32.ofNat len)), .val .null, .unset] [])) := entry rfl
  have c2 : Steps p.tables e below (s₁.setTop (entryFrame m #[.ref a, .ref b, .int (Int32.ofNat o), .int (Int32.ofNat len), .null] 6)) (s₁.setTop (mkF m 1 #[.val (.ref a), .val (.ref b), .val (.int (Int32.ofNat o)), .val (.int (Int32.ofNat len)), .val .null, .unset] [.ref a])) := c1.trans (by
    refine XS.aloadN X0.here hexec rfl (hb hbytes d0) rfl rfl ?_
    exact Steps.refl _)
  obtain ⟨T3, X3, q3, st3⟩ := X0.oinit hexec hown (wks W (objW "java/lang/String" 1)) (g := (mkF m 1 #[.val (.ref a), .val (.ref b), .val (.int (Int32.ofNat o)), .val (.int (Int32.ofNat len)), .val .null, .unset] [.ref a])) rfl (by rw [hml]; rfl) (rest := []) rfl (hb hbytes d1) (W := 0) (by show 2 * 0 + 0 ≤ _; decide) (Nat.le_of_ble_eq_true rfl) (Nat.le_of_ble_eq_true rfl)
  have hh3 := q3.trans hh0
  have c4 : Steps p.tables e below (s₁.setTop (entryFrame m #[.ref a, .ref b, .int (Int32.ofNat o), .int (Int32.ofNat len), .null] 6)) (T3.setTop (mkF m 27 #[.val (.ref a), .val (.ref b), .val (.int (Int32.ofNat o)), .val (.int (Int32.ofNat len)), .val .null, .unset] [])) := (c2.trans (st3 _ (Steps.refl _))).trans (by
    refine XS.iloadN X3.here hexec rfl (hb hbytes d4) rfl ?_
    refine XS.ifYes X3.here hexec rfl (pc0 := 5) rfl (hb hbytes d5) rfl (i0_ne_t (nz32 (by omega) l0)) (by decide) rfl ?_
    exact Steps.refl _)
  obtain ⟨T5, X5, q5, st5⟩ := X3.sget hexec hown (wk W (.fieldLink "java/lang/String" 38 "java/lang/String" "COMPACT_STRINGS" "Z")) s1 (fun _ _ h => by rw [hh3]; exact h) (g := (mkF m 27 #[.val (.ref a), .val (.ref b), .val (.int (Int32.ofNat o)), .val (.int (Int32.ofNat len)), .val .null, .unset] [])) rfl (hb hbytes d27)
  have hh5 := q5.trans hh3
  have c6 : Steps p.tables e below (s₁.setTop (entryFrame m #[.ref a, .ref b, .int (Int32.ofNat o), .int (Int32.ofNat len), .null] 6)) (T5.setTop (mkF m 30 #[.val (.ref a), .val (.ref b), .val (.int (Int32.ofNat o)), .val (.int (Int32.ofNat len)), .val .null, .unset] [.int z])) := c4.trans (st5 _ (Steps.refl _))
  have c7 : Steps p.tables e below (s₁.setTop (entryFrame m #[.ref a, .ref b, .int (Int32.ofNat o), .int (Int32.ofNat len), .null] 6)) (T5.setTop (mkF m 36 #[.val (.ref a), .val (.ref b), .val (.int (Int32.ofNat o)), .val (.int (Int32.ofNat len)), .val .null, .unset] [.int (Int32.ofNat len), .int (Int32.ofNat o), .ref b])) := c6.trans (by
    refine XS.ifNo X5.here hexec rfl (hb hbytes d30) rfl (i0_eq_f hz) ?_
    refine XS.aloadN X5.here hexec rfl (hb hbytes d33) rfl rfl ?_
    refine XS.iloadN X5.here hexec rfl (hb hbytes d34) rfl ?_
    refine XS.iloadN X5.here hexec rfl (hb hbytes d35) rfl ?_
    exact Steps.refl _)
  obtain ⟨v8, T8, X8, E8, g8⟩ := X5.callS hexec (Cmp3.law l b A o len) hown (wks W (staticW "java/lang/String" 177 Cmp3.yN)) (wk W Cmp3.tab) (W := 0) (Nat.le_of_ble_eq_true rfl) (Nat.le_of_ble_eq_true rfl) (Nat.le_refl _) (by show 0 + len ≤ len; omega) (g := (mkF m 36 #[.val (.ref a), .val (.ref b), .val (.int (Int32.ofNat o)), .val (.int (Int32.ofNat len)), .val .null, .unset] [.int (Int32.ofNat len), .int (Int32.ofNat o), .ref b])) rfl (by rw [hml]; rfl) c7 (argsL := [.ref b, .int (Int32.ofNat o), .int (Int32.ofNat len)]) (rest := []) rfl rfl (by show 2 * 0 + 0 ≤ _; decide) (hb hbytes d36) (⟨rfl, hA.mv X5.warmed.alike hh5, l1, l2, hp⟩)
  obtain ⟨e8, z8⟩ := E8
  obtain ⟨rfl, N, n1, n2, n3, n4, n5, n6⟩ := NewArr.mv _ T5 s _ _ hh5.symm (Vm.Alike.refl _) rfl e8
  rw [hh5] at z8
  have hB1 := hB.keep X8.warmed.alike (n6 _ _ hB.1)
  have hne : s.heap.size ≠ a := (Nat.ne_of_lt (Array.getElem?_eq_some_iff.mp hB.1).1).symm
  have c9 : Steps p.tables e below (s₁.setTop (entryFrame m #[.ref a, .ref b, .int (Int32.ofNat o), .int (Int32.ofNat len), .null] 6)) (T8.setTop (mkF m 39 #[.val (.ref a), .val (.ref b), .val (.int (Int32.ofNat o)), .val (.int (Int32.ofNat len)), .val .null, .unset] [.ref s.heap.size])) := g8
  have c10 : Steps p.tables e below (s₁.setTop (entryFrame m #[.ref a, .ref b, .int (Int32.ofNat o), .int (Int32.ofNat len), .null] 6)) (T8.setTop (mkF m 45 #[.val (.ref a), .val (.ref b), .val (.int (Int32.ofNat o)), .val (.int (Int32.ofNat len)), .val .null, .val (.ref s.heap.size)] [.int (Int32.ofNat N.slots.size), .ref s.heap.size, .ref a])) := by
    have hc : Steps p.tables e below (s₁.setTop (entryFrame m #[.ref a, .ref b, .int (Int32.ofNat o), .int (Int32.ofNat len), .null] 6)) (T8.setTop (mkF m 45 #[.val (.ref a), .val (.ref b), .val (.int (Int32.ofNat o)), .val (.int (Int32.ofNat len)), .val .null, .val (.ref s.heap.size)] [.int (Int32.ofNat len), .ref s.heap.size, .ref a])) := c9.trans (by
      refine XS.astore X8.here hexec rfl (hb hbytes d39) rfl rfl rfl ?_
      refine XS.aloadN X8.here hexec rfl (hb hbytes d41) rfl rfl ?_
      refine XS.aload X8.here hexec rfl (hb hbytes d42) rfl rfl ?_
      refine XS.iloadN X8.here hexec rfl (hb hbytes d44) rfl ?_
      exact Steps.refl _)
    rw [n4]; exact hc
  obtain ⟨v11, T11, X11, E11, g11⟩ := X8.callS hexec (CodL.law l s.heap.size N) hown (wks W (staticW "java/lang/String" 47 CodL.yN)) (wk W CodL.tab) (W := 1) (Nat.le_of_ble_eq_true rfl) (Nat.le_of_ble_eq_true rfl) (Nat.le_refl _) (by show 0 + len + 0 ≤ len; omega) (g := (mkF m 45 #[.val (.ref a), .val (.ref b), .val (.int (Int32.ofNat o)), .val (.int (Int32.ofNat len)), .val .null, .val (.ref s.heap.size)] [.int (Int32.ofNat N.slots.size), .ref s.heap.size, .ref a])) rfl (by rw [hml]; rfl) c10 (argsL := [.ref s.heap.size, .int (Int32.ofNat N.slots.size)]) (rest := [.ref a]) rfl rfl (by show 2 * 0 + (1 + 0) ≤ _; decide) (hb hbytes d45) (⟨rfl, n1⟩)
  obtain ⟨rfl, q11⟩ := E11
  have hB11 := hB1.mv (X8.warmed.alike.symm.trans X11.warmed.alike) q11
  have c12 : Steps p.tables e below (s₁.setTop (entryFrame m #[.ref a, .ref b, .int (Int32.ofNat o), .int (Int32.ofNat len), .null] 6)) (T11.setTop (mkF m 48 #[.val (.ref a), .val (.ref b), .val (.int (Int32.ofNat o)), .val (.int (Int32.ofNat len)), .val .null, .val (.ref s.heap.size)] [.int 0, .ref a])) := g11
  obtain ⟨T13, X13, p13, bl13, sl13, st13⟩ := X11.finit hexec hown (wk W (.fieldLink "java/lang/String" 15 "java/lang/String" "coder" "B")) (Or.inr ⟨_, (wk W (.laysFinal "java/lang/String" "java/lang/String" "coder" "B"))⟩) (Or.inl ⟨rfl, hnm⟩) f2 (Or.inl rfl) hB11 (t := .byte) (by decide +kernel) rfl (g := (mkF m 48 #[.val (.ref a), .val (.ref b), .val (.int (Int32.ofNat o)), .val (.int (Int32.ofNat len)), .val .null, .val (.ref s.heap.size)] [.int 0, .ref a])) rfl (rest := []) rfl (hb hbytes d48)
  have c14 : Steps p.tables e below (s₁.setTop (entryFrame m #[.ref a, .ref b, .int (Int32.ofNat o), .int (Int32.ofNat len), .null] 6)) (T13.setTop (mkF m 54 #[.val (.ref a), .val (.ref b), .val (.int (Int32.ofNat o)), .val (.int (Int32.ofNat len)), .val .null, .val (.ref s.heap.size)] [.ref s.heap.size, .ref a])) := (c12.trans (st13 _ (Steps.refl _))).trans (by
    refine XS.aloadN X13.here hexec rfl (hb hbytes d51) rfl rfl ?_
    refine XS.aload X13.here hexec rfl (hb hbytes d52) rfl rfl ?_
    exact Steps.refl _)
  obtain ⟨T15, X15, p15, bl15, sl15, st15⟩ := X13.finit hexec hown (wk W (.fieldLink "java/lang/String" 9 "java/lang/String" "value" "[B")) (Or.inr ⟨_, (wk W (.laysFinal "java/lang/String" "java/lang/String" "value" "[B"))⟩) (Or.inl ⟨rfl, hnm⟩) f1 (Or.inl rfl) bl13 (t := (.array .byte)) (by decide +kernel) rfl (g := (mkF m 54 #[.val (.ref a), .val (.ref b), .val (.int (Int32.ofNat o)), .val (.int (Int32.ofNat len)), .val .null, .val (.ref s.heap.size)] [.ref s.heap.size, .ref a])) rfl (rest := []) rfl (hb hbytes d54)
  have c16 : Steps p.tables e below (s₁.setTop (entryFrame m #[.ref a, .ref b, .int (Int32.ofNat o), .int (Int32.ofNat len), .null] 6)) (T15.setTop (mkF m 57 #[.val (.ref a), .val (.ref b), .val (.int (Int32.ofNat o)), .val (.int (Int32.ofNat len)), .val .null, .val (.ref s.heap.size)] [])) := c14.trans (st15 _ (Steps.refl _))
  have ap := apart (Or.inr ⟨_, (wk W (.laysFinal "java/lang/String" "java/lang/String" "value" "[B"))⟩) (Or.inr ⟨_, (wk W (.laysFinal "java/lang/String" "java/lang/String" "coder" "B"))⟩) f1 f2 (t₁ := .array .byte) (t₂ := .byte) (by decide +kernel) (by decide +kernel) (by decide)
  have al := X8.warmed.alike.symm.trans X15.warmed.alike
  have n7 : T11.heap[s.heap.size]? = some N := by rw [q11]; exact n1.1
  exact ⟨T15, none, _, _, _, X15, by simp, rfl, by omega, (fun _ => rfl), ⟨rfl, _, N, bl15, ((Same.refl D _).set _ (by simp)).set _ (by simp), sl15, (Cell.slots_setSlot_ne _ ap).trans sl13, n1.keep al (p15.other hne (p13.other hne n7)), n2, by rw [al.findClass]; exact n3, n4, n5, fun y c h1 h2 => p15.other h1 (p13.other h1 (by rw [q11]; exact n6 y c h2)), by rw [p15.2.2, p13.2.2, q11]; exact z8⟩, fun fs hl => c16.trans (X15.returnOut hexec hret (hb hbytes d57) hl)⟩
end New4
namespace New1
def yN : MethodName := ⟨"java/lang/String", "<init>", "([C)V"⟩
abbrev yB : ByteArray := jdk_42_method_3_code
theorem d0 : decode yB 0 = .ok (.aload_n 0, 1) := by decide +kernel
theorem d1 : decode yB 1 = .ok (.aload_n 1, 1) := by decide +kernel
theorem d2 : decode yB 2 = .ok (.iconst 0, 1) := by decide +kernel
theorem d3 : decode yB 3 = .ok (.aload_n 1, 1) := by decide +kernel
theorem d4 : decode yB 4 = .ok (.arraylength, 1) := by decide +kernel
theorem d5 : decode yB 5 = .ok (.aconst_null, 1) := by decide +kernel
theorem d6 : decode yB 6 = .ok (.invokespecial 27, 3) := by decide +kernel
theorem d9 : decode yB 9 = .ok (.return_, 1) := by decide +kernel
def site : List Cond := [New4.tab] ++ initW "java/lang/String" 27 New4.yN
def tab : Cond := tabOf yN yB 2 none site
def P (a : Addr) (D : Cell) (fV fC : Field) (b : Addr) (A : Cell) (z : Int32) (args : Array Value) (s : State) : Prop := args = #[.ref a, .ref b] ∧ Blank "java/lang/String" a D s ∧ Found "java/lang/String" "value" "[B" fV s ∧ Found "java/lang/String" "coder" "B" fC s ∧ Ch b A s ∧ StaticIs s "java/lang/String" "COMPACT_STRINGS" "Z" (.int z) ∧ ¬ z = 0 ∧ 0 < A.slots.size ∧ A.slots.size ≤ 536870912 ∧ ∀ i, i < A.slots.size → ¬ 255 < cv A i
def E (a : Addr) (D : Cell) (fV fC : Field) (A : Cell) (r : Option Value) (s u : State) : Prop := Got a D fV fC A 0 A.slots.size r s u
/-- new String(chars), not empty, no char above 255: a Latin-1 String of their low bytes -/
theorem law (l : Launch) (a : Addr) (D : Cell) (fV fC : Field) (b : Addr) (A : Cell) (z : Int32) : Law l yN 2 1 3 52 yB 2 none site (P a D fV fC b A z) (E a D fV fC A) [⟨a, fC.slot⟩, ⟨a, fV.slot⟩] 1 A.slots.size := by
  refine Law.of_walk (plainFor_of_name (by decide +kernel)) (by decide +kernel) (by decide +kernel) (by decide) (fun _ _ h => by rw [h.1]; rfl) (fun _ U U' hal hh h => ⟨h.1, h.2.1.mv hal hh, h.2.2.1.al hal, h.2.2.2.1.al hal, h.2.2.2.2.1.mv hal hh, h.2.2.2.2.2.1.there hal hh, h.2.2.2.2.2.2⟩) (fun r U U' V V' h1 hal h2 h => Got.mv r U U' V V' h1 hal h2 h) ?_
  intro p e s m args below meth c s₁ X0 hexec hbytes hml hret hlk hnm hown hh0 W hP
  obtain ⟨rfl, hB, f1, f2, hA, s1, hz, l0, l2, hp⟩ := hP
  have c1 : Steps p.tables e below (s₁.setTop (entryFrame m #[.ref a, .ref b] 2)) (s₁.setTop (mkF m 0 #[.val (.ref a), .val (.ref b)] [])) := entry rfl
  have c2 : Steps p.tables e below (s₁.setTop (entryFrame m #[.ref a, .ref b] 2)) (s₁.setTop (mkF m 6 #[.val (.ref a), .val (.ref b)] [.null, .int (Int32.ofNat A.slots.size), .int 0, .ref b, .ref a])) := c1.trans (by
    refine XS.aloadN X0.here hexec rfl (hb hbytes d0) rfl rfl ?_
    refine XS.aloadN X0.here hexec rfl (hb hbytes d1) rfl rfl ?_
    refine iconstV X0.here hexec rfl 0 (hb hbytes d2) (by decide) ?_
    refine XS.aloadN X0.here hexec rfl (hb hbytes d3) rfl rfl ?_
    refine X0.alen hexec (hA.1.mv X0.warmed.alike hh0) rfl rfl (hb hbytes d4) ?_
    refine XS.aconstNull X0.here hexec rfl (hb hbytes d5) ?_
    exact Steps.refl _)
  obtain ⟨v3, T3, X3, E3, g3⟩ := X0.callN hexec (New4.law l a D fV fC b A z 0 A.slots.size) rfl hown (wks W (initW "java/lang/String" 27 New4.yN)) (W New4.tab (by simp only [site, List.mem_cons, List.mem_append, true_or, or_true])) (W := 0) (Nat.le_of_ble_eq_true rfl) (Nat.le_of_ble_eq_true rfl) (Nat.le_refl _) (by show 0 + A.slots.size ≤ A.slots.size; omega) (g := (mkF m 6 #[.val (.ref a), .val (.ref b)] [.null, .int (Int32.ofNat A.slots.size), .int (Int32.ofNat 0), .ref b, .ref a])) rfl (by rw [hml]; rfl) c2 (argsL := [.ref b, .int (Int32.ofNat 0), .int (Int32.ofNat A.slots.size), .null]) (rest := []) rfl rfl (by show 2 * 0 + 0 ≤ _; decide) (hb hbytes d6) (⟨rfl, hB.mv X0.warmed.alike hh0, f1.al X0.warmed.alike, f2.al X0.warmed.alike, hA.mv X0.warmed.alike hh0, s1.there X0.warmed.alike hh0, hz, l0, by omega, l2, fun i hi => by rw [Nat.zero_add]; exact hp i hi⟩)
  have e0 := Got.mv _ s₁ s _ _ hh0.symm (Vm.Alike.refl _) rfl E3
  obtain rfl := e0.1
  have c4 : Steps p.tables e below (s₁.setTop (entryFrame m #[.ref a, .ref b] 2)) (T3.setTop (mkF m 9 #[.val (.ref a), .val (.ref b)] [])) := g3
  exact ⟨T3, none, _, _, _, X3, by simp, rfl, by omega, (fun _ => rfl), e0, fun fs hl => c4.trans (X3.returnOut hexec hret (hb hbytes d9) hl)⟩
theorem pays {l : Launch} {R : Room} {p : Program} {e : Env} {below : List Frame} {s : State} {sargs : Array Value} {len W : Nat} (a : Addr) (D : Cell) (fV fC : Field) (b : Addr) (A : Cell) (z : Int32) (htab : tab.before sargs s = true) (hfr : 4 ≤ R.frames) (hlo : W + 65 ≤ R.locals) :
    Back l R p e below s sargs yN len W (fun A₁ a₁ => A₁.cells + 1 ≤ R.cells ∧ A₁.slots + A.slots.size ≤ R.slots ∧ P a D fV fC b A z a₁ A₁.U) (fun A₁ _ v₁ B₁ => E a D fV fC A v₁ A₁.U B₁.U ∧ B₁.locs = A₁.locs ++ [⟨a, fC.slot⟩, ⟨a, fV.slot⟩] ∧ B₁.cells = A₁.cells + 1 ∧ B₁.slots = A₁.slots + A.slots.size) :=
  (law l a D fV fC b A z).pays htab hfr (by omega)
end New1
/-- the byte, read back as charAt reads it, is the char -/
theorem lo8_mask {x : Int32} (h0 : ¬ x < 0) (h1 : ¬ 255 < x) : lo8 x &&& 255 = x := by
  have t : ∀ k : Fin 256, lo8 (Int32.ofNat k.val) &&& 255 = Int32.ofNat k.val := by decide +kernel
  rw [Int32.lt_iff_toInt_lt] at h0 h1
  have e0 : (0 : Int32).toInt = 0 := rfl
  have e1 : (255 : Int32).toInt = 255 := rfl
  obtain ⟨k, hk⟩ : ∃ k : Nat, x.toInt = k := ⟨x.toInt.toNat, by omega⟩
  have hx : x = Int32.ofNat k := Int32.toInt_inj.mp (by rw [hk, Int32.toInt_ofNat_small (by omega)])
  rw [hx]
  exact t ⟨k, by omega⟩
end StrChars
namespace StrChars.Road
open Jvm Sem ClassFile Op Lib Jvm.Stand Jvm.Free Jvm.Free.XT
open Jvm.Lib.Cold (StaticIs)
abbrev ST : String := "java/lang/String"
/-- every table word that New1's law asks, flat -/
abbrev words : List Jvm.Cond := [.code New1.yN New1.yB 2 none, .initialized ST, .methodLink ST 27 New4.yN, .instanceMethod New4.yN,
  .code New4.yN New4.yB 6 none, .fieldLink ST 38 ST "COMPACT_STRINGS" "Z", .laysFinal ST ST "value" "[B", .fieldLink ST 9 ST "value" "[B", .laysFinal ST ST "coder" "B", .fieldLink ST 15 ST "coder" "B",
  .methodLink ST 1 Lib.objectInit, .instanceMethod Lib.objectInit, .code Lib.objectInit ⟨#[0xb1]⟩ 1 none, .methodLink ST 177 Cmp3.yN, .static Cmp3.yN, .methodLink ST 47 CodL.yN, .static CodL.yN,
  .code Cmp3.yN Cmp3.yB 6 (some (.array .byte)), .initialized U16, .arrayClass .byte, .methodLink U16 115 Cmp5.yN, .static Cmp5.yN, .code Cmp5.yN Cmp5.yB 7 (some .int), .code CodL.yN CodL.yB 2 (some .byte)]
theorem tab_of {a : Array Value} {s : State} (h : ∀ w ∈ words, w.before a s = true) : New1.tab.before a s = true := by
  have h5 : Cmp5.tab.before a s = true := unparts (wk h (.code Cmp5.yN Cmp5.yB 7 (some .int))) (wks h (.initialized Cmp5.yN.cls :: Cmp5.site))
  have hc : CodL.tab.before a s = true := unparts (wk h (.code CodL.yN CodL.yB 2 (some .byte))) (wks h (.initialized CodL.yN.cls :: CodL.site))
  have q5 : ∀ w ∈ Cmp5.tab :: words, w.before a s = true := fun w hw => (List.mem_cons.mp hw).elim (fun e => e ▸ h5) (h w)
  have h3 : Cmp3.tab.before a s = true := unparts (wk q5 (.code Cmp3.yN Cmp3.yB 6 (some (.array .byte)))) (wks q5 (.initialized Cmp3.yN.cls :: Cmp3.site))
  have q3 : ∀ w ∈ Cmp3.tab :: CodL.tab :: words, w.before a s = true := fun w hw => (List.mem_cons.mp hw).elim (fun e => e ▸ h3) fun hw => (List.mem_cons.mp hw).elim (fun e => e ▸ hc) (h w)
  have h4 : New4.tab.before a s = true := unparts (wk q3 (.code New4.yN New4.yB 6 none)) (wks q3 (.initialized New4.yN.cls :: New4.site))
  have q4 : ∀ w ∈ New4.tab :: words, w.before a s = true := fun w hw => (List.mem_cons.mp hw).elim (fun e => e ▸ h4) (h w)
  exact unparts (wk q4 (.code New1.yN New1.yB 2 none)) (wks q4 (.initialized New1.yN.cls :: New1.site))
/-- the words ride from the start Z to the walk's own state -/
theorem moved {Z s : State} {a0 args : Array Value} (hZ : Z.Warmed39 s.vm) (hw : ∀ d ∈ words, d.before a0 Z = true) : ∀ d ∈ words, d.before args s = true := fun d hd => by
  have q := hw d hd
  have t : ∀ d ∈ words, d = .arrayClass .byte ∨ (d.onTables && d.keepsFace) = true := by decide +kernel
  rcases t d hd with rfl | t
  · exact RoadKit.mvA hZ q
  · exact RoadKit.mv hZ q t
/-- WHAT COMES BACK, over the tables of the start Z: h the heap at the call, h' behind it -/
def Q (Z : State) (x : Addr) (A : Cell) (h : Heap) (v : Option Value) (h' : Heap) (L : List Loc) : Prop := v = none ∧ (∀ y ∈ L, y.base = x) ∧ RoadKit.Keep h h' [x] ∧ h'.size = h.size + 1 ∧ RoadKit.Exa Z h' x ST ∧ RoadKit.Fld Z h' x ST "value" "[B" (.ref h.size) ∧ RoadKit.Fld Z h' x ST "coder" "B" (.int 0) ∧
  (∃ V : Cell, RoadKit.Arr Z h' h.size V .byte ∧ V.vm = .none ∧ Z.vm.findClass "[B" = some V.cls ∧ V.slots.size = A.slots.size ∧ ∀ j, j < A.slots.size → V.slots[j]? = some (.int (lo8 (cv A j)))) ∧
  ∀ (O n d : String) (w : Value), RoadKit.Fld Z h x O n d w → RoadKit.slotOf Z O n d ≠ RoadKit.slotOf Z ST "value" "[B" → RoadKit.slotOf Z O n d ≠ RoadKit.slotOf Z ST "coder" "B" → RoadKit.Fld Z h' x O n d w
/-- **new String(chars) AT A CALL, IN THE ROAD'S FORM**: for specialBack behind newO: x the fresh String, b the char[] with the cell A -/
theorem back {p : Program} {l : Launch} {e : Env} {R : Room} {s : State} {args : Array Value} {below : List Frame} {len W : Nat} {Z : State} {a0 : Array Value} {h : Heap} (hZ : Z.Warmed39 s.vm) (hw : ∀ d ∈ words, d.before a0 Z = true) {kI : Nat} (wi : (Jvm.Cond.instantiable ST kI).before a0 Z = true)
    {x b : Addr} {A : Cell} {z : Int32} {v0 c0 : Value} (E : RoadKit.Exa Z h x ST) (V : RoadKit.Fld Z h x ST "value" "[B" v0) (C : RoadKit.Fld Z h x ST "coder" "B" c0) (K : RoadKit.Arr Z h b A .char) (hty : Typed .char A) (S : RoadKit.Sta Z h ST "COMPACT_STRINGS" "Z" (.int z)) (hz : ¬ z = 0)
    (l0 : 0 < A.slots.size) (l2 : A.slots.size ≤ 536870912) (hp : ∀ i, i < A.slots.size → ¬ 255 < cv A i) (hfr : 4 ≤ R.frames) (hlo : W + 65 ≤ R.locals) :
    Back l R p e below s args New1.yN len W (fun P a => a = #[.ref x, .ref b] ∧ P.U.heap = h ∧ P.cells + 1 ≤ R.cells ∧ P.slots + A.slots.size ≤ R.slots)
      (fun P _ v B => ∃ L, Q Z x A h v B.U.heap L ∧ B.locs = P.locs ++ L ∧ B.cells = P.cells + 1 ∧ B.slots = P.slots + A.slots.size) := by
  intro m meth c P g ig mk a X hg hsize hdg hW hn hp'
  obtain ⟨rfl, rfl, r1, r2⟩ := hp'
  have al : Z.vm.Alike P.U.vm := hZ.alike.trans X.warmed.alike
  obtain ⟨D, cfV, kV, iV, fV, hD, gV, stV, knV, obV, asV, slV⟩ := id V
  obtain ⟨D', cfC, kC, iC, fC, hD', gC, stC, -, -, asC, slC⟩ := id C
  cases hD.symm.trans hD'
  obtain ⟨D2, kD, e1, e2, e3, e4, e5⟩ := id E
  cases hD.symm.trans e1
  obtain ⟨c2, k2, i1, i2, i3, -⟩ := Cond.instantiable_spec wi
  cases e2.symm.trans i1
  cases e3.symm.trans i2
  obtain ⟨kU, u1, u2⟩ := al.2.2 _ _ e3
  have hB : Blank ST x D P.U := ⟨hD, ⟨knV, fun q hq => by rw [hq] at obV; cases obV⟩, by rw [al.findClass]; exact e2, kU, u1, by rw [u2]; exact i3, by rw [u2]; exact e5 i3⟩
  have F1 : Found ST "value" "[B" fV P.U := ⟨SBG.found_only al ⟨cfV, kV, iV, gV⟩, stV⟩
  have F2 : Found ST "coder" "B" fC P.U := ⟨SBG.found_only al ⟨cfC, kC, iC, gC⟩, stC⟩
  have hA : Ch b A P.U := ⟨⟨K.1, State.isArrayOf_alike al K.2.1, K.2.2, by omega⟩, hty⟩
  have hS : StaticIs P.U ST "COMPACT_STRINGS" "Z" (.int z) := by
    obtain ⟨cfS, iS, kS, fS, st, cS, t1, t2, t3, t4, t5, t6, t7⟩ := S
    exact StaticIs.there (s := { Z with heap := P.U.heap }) ⟨cfS, iS, kS, fS, st, cS, t1, t2, t3, t4, t5, (fun q => by rw [q] at t6; cases t6), t7⟩ al rfl
  obtain ⟨v, B, X', ⟨⟨hv, E', V', q1, q2, q3, q4, q5, q6, q7, q8, q9, q10, q11⟩, hl, hc, hs⟩, st⟩ := New1.pays x D fV fC b A z (tab_of (moved hZ hw)) hfr hlo m meth c P g ig mk _ X hg hsize hdg hW hn ⟨r1, r2, rfl, hB, F1, F2, hA, hS, hz, l0, l2, hp⟩
  have al' : Z.vm.Alike B.U.vm := hZ.alike.trans X'.warmed.alike
  have hsz : E'.slots.size = D.slots.size := by
    obtain ⟨-, -, -, kB, w1, w2, w3⟩ := q1
    obtain ⟨kB', y1, y2⟩ := al'.2.2 _ _ e3
    rw [q2.2.1] at w1
    cases w1.symm.trans y1
    rw [w3, e5 i3, y2]
  refine ⟨v, B, X', ⟨_, ⟨hv, ?_, ⟨by omega, fun y cy hy hn' => q10 y cy (by simpa using hn') hy, fun y cy hy => ?_⟩, q11, ⟨E', _, q1.1, by rw [q2.2.1]; exact e2, by rw [q2.2.1]; exact e3, by rw [q2.1]; exact obV, fun _ => by rw [hsz]; exact e5 i3⟩,
    ⟨E', cfV, kV, iV, fV, q1.1, gV, stV, by rw [q2.1]; exact knV, by rw [q2.1]; exact obV, by rw [q2.2.1]; exact asV, q3⟩, ⟨E', cfC, kC, iC, fC, q1.1, gC, stC, by rw [q2.1]; exact knV, by rw [q2.1]; exact obV, by rw [q2.2.1]; exact asC, q4⟩,
    ⟨V', ⟨q5.1, State.isArrayOf_alike al'.symm q5.2.1, q5.2.2.1⟩, q6, by rw [← al'.findClass]; exact q7, q8, fun j hj => by have := q9 j hj; rwa [Nat.zero_add] at this⟩, fun O n d w F n1 n2 => ?_⟩, hl, hc, hs⟩, st⟩
  · intro y hy
    simp only [List.mem_cons, List.not_mem_nil, or_false] at hy
    rcases hy with rfl | rfl <;> rfl
  · by_cases q : y = x
    · subst q
      cases hD.symm.trans hy
      exact ⟨E', q1.1, q2.2.1, q2.1, hsz⟩
    · exact ⟨cy, q10 y cy q hy, rfl, rfl, rfl⟩
  · obtain ⟨D3, cf, k, i, f, g1, g2, g3, g4, g5, g6, g7⟩ := F
    cases hD.symm.trans g1
    simp only [RoadKit.slotOf, g2, gV, gC, Option.map_some, Option.getD_some] at n1 n2
    exact ⟨E', cf, k, i, f, q1.1, g2, g3, by rw [q2.1]; exact g4, by rw [q2.1]; exact g5, by rw [q2.2.1]; exact g6, by rw [q2.2.2 f.slot (by simp [n1, n2])]; exact g7⟩
end StrChars.Road
namespace StrChars.Road
open Jvm Sem ClassFile Op Lib Jvm.Stand Jvm.Free Jvm.Free.XT
/-- WHAT COMES BACK, the byte[] as a list of values -/
def QA (Z : State) (x : Addr) (zn : Int32) (cs : List Int32) (h : Heap) (v : Option Value) (h' : Heap) (L : List Loc) : Prop := v = none ∧ (∀ y ∈ L, y.base = x) ∧ RoadKit.Keep h h' [x] ∧ h'.size = h.size + 1 ∧ RoadKit.Exa Z h' x ST ∧ RoadKit.Fld Z h' x ST "value" "[B" (.ref h.size) ∧ RoadKit.Fld Z h' x ST "coder" "B" (.int 0) ∧
  (∃ kb, Z.vm.findClass "[B" = some kb ∧ RoadKit.Arv Z h' h.size kb .byte zn (cs.map fun c => .int (lo8 c)) (.int 0)) ∧
  ∀ (O n d : String) (w : Value), RoadKit.Fld Z h x O n d w → RoadKit.slotOf Z O n d ≠ RoadKit.slotOf Z ST "value" "[B" → RoadKit.slotOf Z O n d ≠ RoadKit.slotOf Z ST "coder" "B" → RoadKit.Fld Z h' x O n d w
/-- **new String(chars) AT A CALL, THE ARRAYS AS LISTS**: the char[] at b holds cs, not empty, no char above 255 -/
theorem backArv {p : Program} {l : Launch} {e : Env} {R : Room} {s : State} {args : Array Value} {below : List Frame} {len W : Nat} {Z : State} {a0 : Array Value} {h : Heap} (hZ : Z.Warmed39 s.vm) (hw : ∀ d ∈ words, d.before a0 Z = true) {kI : Nat} (wi : (Jvm.Cond.instantiable ST kI).before a0 Z = true)
    {x b : Addr} {k : ClassId} {zn z : Int32} {cs : List Int32} {dv v0 c0 : Value} (E : RoadKit.Exa Z h x ST) (V : RoadKit.Fld Z h x ST "value" "[B" v0) (C : RoadKit.Fld Z h x ST "coder" "B" c0) (K : RoadKit.Arv Z h b k .char zn (cs.map Value.int) dv) (S : RoadKit.Sta Z h ST "COMPACT_STRINGS" "Z" (.int z)) (hz : ¬ z = 0)
    (hlen : zn.toNatClampNeg = cs.length) (h0 : 0 < cs.length) (hbig : cs.length ≤ 536870912) (hall : ∀ c ∈ cs, ¬ 255 < c) (hfr : 4 ≤ R.frames) (hlo : W + 65 ≤ R.locals) :
    Back l R p e below s args New1.yN len W (fun P a => a = #[.ref x, .ref b] ∧ P.U.heap = h ∧ P.cells + 1 ≤ R.cells ∧ P.slots + cs.length ≤ R.slots)
      (fun P _ v B => ∃ L, QA Z x zn cs h v B.U.heap L ∧ B.locs = P.locs ++ L ∧ B.cells = P.cells + 1 ∧ B.slots = P.slots + cs.length) := by
  obtain ⟨A, K1, K2, K3, K4, K5, K6⟩ := K
  have e : A.slots.size = cs.length := K3.trans hlen
  have hat : ∀ (i : Nat) (hi : i < cs.length), A.slots[i]? = some (.int cs[i]) := fun i hi => by rw [K5 i (by omega)]; simp [List.getD_eq_getElem?_getD, hi]
  have hcv : ∀ (i : Nat) (hi : i < cs.length), cv A i = cs[i] := fun i hi => by unfold cv; rw [hat i hi]
  have hty : Typed .char A := fun i v hv => by
    have hi : i < A.slots.size := (Array.getElem?_eq_some_iff.mp hv).1
    have q := K5 i hi
    rw [hv] at q
    rw [Option.some.inj q]
    exact K6 i hi
  refine Back.mono (back hZ hw wi E V C K1 hty S hz (by omega) (by omega) (fun i hi => by rw [hcv i (by omega)]; exact hall _ (List.getElem_mem _)) hfr hlo) (fun P a hp => ⟨hp.1, hp.2.1, hp.2.2.1, by rw [e]; exact hp.2.2.2⟩) (fun P a v B hp hq => ?_)
  obtain ⟨L, ⟨q1, q2, q3, q4, q5, q6, q7, ⟨V', v1, v2, v3, v4, v5⟩, q9⟩, hl, hc, hs⟩ := hq
  refine ⟨L, ⟨q1, q2, q3, q4, q5, q6, q7, ⟨V'.cls, v3, V', v1, rfl, by rw [v4, e, hlen], K4, fun i hi => ?_, fun i hi => ?_⟩, q9⟩, hl, hc, by rw [hs, e]⟩
  · have hi' : i < cs.length := by omega
    rw [v5 i (by omega), hcv i hi']; simp [List.getD_eq_getElem?_getD, hi']
  · have hi' : i < cs.length := by omega
    simp only [List.getD_eq_getElem?_getD, List.getElem?_map, List.getElem?_eq_getElem hi', Option.map_some, Option.getD_some]
    exact fits_lo8 _
end StrChars.Road
namespace StrChars.Road
open Jvm Sem ClassFile Op Lib Jvm.Stand Jvm.Free Jvm.Free.XT
/-- WHAT COMES BACK, in the writer's own shape -/
def QV (Z : State) (x : Addr) (N : Int32) (bs : List Int32) (h : Heap) (n0 : Nat) (v : Option Value) (h' : Heap) (L : List Loc) : Prop := v = none ∧ RoadKit.Fr n0 L ∧ RoadKit.Keep h h' [x] ∧ RoadKit.Exa Z h' x ST ∧ RoadKit.Fld Z h' x ST "coder" "B" (.int 0) ∧
  ∃ (t : Addr) (kb : ClassId), n0 ≤ t ∧ h.size ≤ t ∧ ¬ t = x ∧ RoadKit.Fld Z h' x ST "value" "[B" (.ref t) ∧ RoadKit.Arv Z h' t kb .byte N (bs.map Value.int) (.int 0)
/-- **new String(chars) AT A CALL, FOR THE WRITER**: a char[] of n known ints, each 0 to 255 -/
theorem backV {p : Program} {l : Launch} {e : Env} {R : Room} {s : State} {args : Array Value} {below : List Frame} {len W : Nat} {Z : State} {a0 : Array Value} {h : Heap} (hZ : Z.Warmed39 s.vm) (hw : ∀ d ∈ words, d.before a0 Z = true) {kI : Nat} (wi : (Jvm.Cond.instantiable ST kI).before a0 Z = true)
    {x b : Addr} {kC : ClassId} {cs bs : List Int32} {d v0 c0 : Value} {z N : Int32} {n n0 : Nat} (hx0 : n0 ≤ x) (hh0 : n0 ≤ h.size) (E : RoadKit.Exa Z h x ST) (V : RoadKit.Fld Z h x ST "value" "[B" v0) (C : RoadKit.Fld Z h x ST "coder" "B" c0) (K : RoadKit.Arv Z h b kC .char N (cs.map Value.int) d) (S : RoadKit.Sta Z h ST "COMPACT_STRINGS" "Z" (.int z)) (hz : ¬ z = 0)
    (hn : cs.length = n) (hN : N = Int32.ofNat n) (l0 : 0 < n) (l2 : n ≤ 4000) (hp : ∀ c ∈ cs, ¬ c < 0 ∧ ¬ (255 : Int32) < c) (hb : bs = cs.map (fun c => c.toInt8.toInt32)) (hfr : 4 ≤ R.frames) (hlo : W + 65 ≤ R.locals) :
    Back l R p e below s args (⟨"java/lang/String", "<init>", "([C)V"⟩ : MethodName) len W (fun P a => a = #[.ref x, .ref b] ∧ P.U.heap = h ∧ P.cells + 1 ≤ R.cells ∧ P.slots + n ≤ R.slots)
      (fun P _ v B => ∃ L, QV Z x N bs h n0 v B.U.heap L ∧ B.locs = P.locs ++ L ∧ B.cells = P.cells + 1 ∧ B.slots = P.slots + n) := by
  subst hn hN hb
  refine Back.mono (backArv hZ hw wi E V C K S hz (n32 (by omega)) l0 (by omega) (fun c hc => (hp c hc).2) hfr hlo) (fun P a hp => hp) (fun P a v B hp hq => ?_)
  obtain ⟨L, ⟨q1, q2, q3, q4, q5, q6, q7, ⟨kb, v1, v2⟩, q9⟩, hl, hc, hs⟩ := hq
  exact ⟨L, ⟨q1, fun y hy => by rw [q2 y hy]; exact hx0, q3, q5, q7, h.size, kb, hh0, Nat.le_refl _, Nat.ne_of_gt E.lt, q6, by rw [List.map_map]; exact v2⟩, hl, hc, hs⟩
end StrChars.Road
namespace StrChars
open Jvm Sem ClassFile Op Lib Jvm.Stand Jvm.Free.XT Jvm.Free.ALB Jvm.Free.JM Jvm.Free
open Jvm.Lib.Cold (StaticIs)
def hi8 (x : Int32) : Int32 := lo8 (x >>> ((8 : Int32) &&& 31))
/-- what StringUTF16.getChar makes of two bytes -/
def pairCh (u v : Int32) : Int32 := (((u &&& 255) <<< ((0 : Int32) &&& 31)) ||| ((v &&& 255) <<< ((8 : Int32) &&& 31))).toUInt32.toUInt16.toUInt32.toInt32
theorem shr0 (c : Int32) : c >>> ((0 : Int32) &&& 31) = c := by
  have e : ((0 : Int32) &&& 31) = 0 := by decide
  rw [e]
  apply Int32.toBitVec_inj.mp
  rw [Int32.toBitVec_shiftRight]
  have e1 : ((0 : Int32).toBitVec.smod 32) = 0#32 := by decide
  rw [e1, BitVec.sshiftRight_eq']
  exact BitVec.sshiftRight_zero
theorem lo8_and (x : Int32) : (lo8 x &&& 255).toBitVec.toNat = x.toBitVec.toNat % 256 := by
  have h : (lo8 x).toBitVec = (x.toBitVec.signExtend 8).signExtend 32 := by rw [lo8, Int8.toBitVec_toInt32, Int32.toBitVec_toInt8]
  rw [Int32.toBitVec_and, BitVec.toNat_and, h]
  have e : ((x.toBitVec.signExtend 8).signExtend 32).toNat % 256 = x.toBitVec.toNat % 256 := by
    rw [BitVec.toNat_signExtend]
    have hlt := x.toBitVec.isLt
    simp only [BitVec.toNat_setWidth, BitVec.toNat_signExtend]
    split <;> split <;> omega
  rw [← e]
  exact Nat.and_two_pow_sub_one_eq_mod _ 8
theorem pair_says {c : Int32} (h0 : ¬ c < 0) (h1 : ¬ 65535 < c) : pairCh (lo8 c) (hi8 c) = c := by
  rw [Int32.lt_iff_toInt_lt] at h0 h1
  have e0 : (0 : Int32).toInt = 0 := rfl
  have e1 : (65535 : Int32).toInt = 65535 := rfl
  have hc : c.toInt = c.toBitVec.toNat := by
    have := c.toBitVec.isLt
    have e : c.toInt = c.toBitVec.toInt := rfl
    rw [e] at h0 h1
    rw [e]
    rw [BitVec.toInt_eq_toNat_cond] at h0 h1 ⊢
    split at h0 <;> split <;> omega
  have hn : c.toBitVec.toNat < 65536 := by omega
  have a1 := lo8_and c
  have a2 : (hi8 c &&& 255).toBitVec.toNat = c.toBitVec.toNat / 256 := by
    rw [hi8, lo8_and]
    have e : ((8 : Int32) &&& 31) = 8 := by decide
    rw [e, Int32.toBitVec_shiftRight]
    have e2 : ((8 : Int32).toBitVec.smod 32) = 8#32 := by decide
    rw [e2, BitVec.sshiftRight_eq', BitVec.toNat_sshiftRight_of_msb_false (by rw [BitVec.msb_eq_false_iff_two_mul_lt]; omega)]
    show c.toBitVec.toNat >>> 8 % 256 = _
    rw [Nat.shiftRight_eq_div_pow]
    omega
  unfold pairCh
  apply Int32.toBitVec_inj.mp
  apply BitVec.eq_of_toNat_eq
  have f0 : ((0 : Int32) &&& 31) = 0 := by decide
  have f8 : ((8 : Int32) &&& 31) = 8 := by decide
  rw [f0, f8]
  have g : (((lo8 c &&& 255) <<< (0 : Int32)) ||| ((hi8 c &&& 255) <<< (8 : Int32))).toBitVec.toNat = c.toBitVec.toNat := by
    rw [Int32.toBitVec_or, Int32.toBitVec_shiftLeft, Int32.toBitVec_shiftLeft]
    have s0 : ((0 : Int32).toBitVec.smod 32) = 0#32 := by decide
    have s8 : ((8 : Int32).toBitVec.smod 32) = 8#32 := by decide
    rw [s0, s8, BitVec.toNat_or]
    simp only [BitVec.shiftLeft_eq', BitVec.toNat_shiftLeft, a1, a2]
    show (c.toBitVec.toNat % 256) <<< 0 % 2 ^ 32 ||| (c.toBitVec.toNat / 256) <<< 8 % 2 ^ 32 = _
    rw [Nat.shiftLeft_zero, Nat.mod_eq_of_lt (show c.toBitVec.toNat % 256 < 2 ^ 32 by omega), Nat.mod_eq_of_lt (show (c.toBitVec.toNat / 256) <<< 8 < 2 ^ 32 by rw [Nat.shiftLeft_eq]; omega), Nat.or_comm, ← Nat.shiftLeft_add_eq_or_of_lt (by omega), Nat.shiftLeft_eq]
    omega
  show BitVec.toNat (((((lo8 c &&& 255) <<< (0 : Int32)) ||| ((hi8 c &&& 255) <<< (8 : Int32))).toBitVec.setWidth 16).setWidth 32) = _
  rw [BitVec.toNat_setWidth, BitVec.toNat_setWidth, g]
  omega
end StrChars
namespace StrChars
open Jvm Sem ClassFile Op Lib Jvm.Stand Jvm.Free.XT Jvm.Free.ALB Jvm.Free.JM Jvm.Free
open Jvm.Lib.Cold (StaticIs)
theorem shr1 {n : Nat} (h : 2 * n < 2 ^ 31) : Int32.ofNat (2 * n) >>> ((1 : Int32) &&& 31) = Int32.ofNat n := by
  have e : ((1 : Int32) &&& 31) = 1 := by decide
  rw [e]
  apply Int32.toBitVec_inj.mp
  rw [Int32.toBitVec_shiftRight]
  have e1 : ((1 : Int32).toBitVec.smod 32) = 1#32 := by decide
  have hm : (BitVec.ofNat 32 (2 * n)).toNat = 2 * n := by rw [BitVec.toNat_ofNat, Nat.mod_eq_of_lt (by omega)]
  rw [e1, BitVec.sshiftRight_eq']
  apply BitVec.eq_of_toNat_eq
  show ((BitVec.ofNat 32 (2 * n)).sshiftRight 1).toNat = (BitVec.ofNat 32 n).toNat
  rw [BitVec.toNat_sshiftRight_of_msb_false (by rw [BitVec.msb_eq_false_iff_two_mul_lt, hm]; omega), hm, BitVec.toNat_ofNat, Nat.shiftRight_eq_div_pow]
  omega
/-- charAt's cast of a byte read back -/
def chr8 (u : Int32) : Int32 := (u &&& 255).toUInt32.toUInt16.toUInt32.toInt32
theorem chr8_lo8 {c : Int32} (h0 : ¬ c < 0) (h1 : ¬ 255 < c) : chr8 (lo8 c) = c := by
  have t : ∀ k : Fin 256, (Int32.ofNat k.val).toUInt32.toUInt16.toUInt32.toInt32 = Int32.ofNat k.val := by decide +kernel
  unfold chr8
  rw [lo8_mask h0 h1]
  rw [Int32.lt_iff_toInt_lt] at h0 h1
  have e0 : (0 : Int32).toInt = 0 := rfl
  have e1 : (255 : Int32).toInt = 255 := rfl
  obtain ⟨k, hk⟩ : ∃ k : Nat, c.toInt = k := ⟨c.toInt.toNat, by omega⟩
  have hx : c = Int32.ofNat k := Int32.toInt_inj.mp (by rw [hk, Int32.toInt_ofNat_small (by omega)])
  rw [hx]
  exact t ⟨k, by omega⟩
theorem narrow_ch {c : Int32} (h0 : ¬ c < 0) (h1 : ¬ 65535 < c) : narrow .char (.int c) = .int c := by
  have q : narrow .char (.int (pairCh (lo8 c) (hi8 c))) = .int (pairCh (lo8 c) (hi8 c)) := narrow_c _
  rwa [pair_says h0 h1] at q
/-- the array's cell V codes the n chars f 0 .. f (n - 1) by the coder cd, as the JDK does: coder 1 just where some char is above 255 -/
def Cod (cd : Int32) (n : Nat) (f : Nat → Int32) (V : Cell) : Prop := (cd = 0 ∧ V.slots.size = n ∧ ∀ j, j < n → V.slots[j]? = some (.int (lo8 (f j))) ∧ ¬ 255 < f j) ∨ (cd = 1 ∧ V.slots.size = 2 * n ∧ (∀ j, j < n → V.slots[2 * j]? = some (.int (lo8 (f j))) ∧ V.slots[2 * j + 1]? = some (.int (hi8 (f j)))) ∧ ∃ j, j < n ∧ 255 < f j)
theorem Cod.cd {cd : Int32} {n : Nat} {f : Nat → Int32} {V : Cell} (h : Cod cd n f V) : cd = 0 ∨ cd = 1 := h.imp (fun q => q.1) fun q => q.1
theorem Cod.len {cd : Int32} {n : Nat} {f : Nat → Int32} {V : Cell} (h : Cod cd n f V) (hs : V.slots.size < 2 ^ 31) : Int32.ofNat V.slots.size >>> (cd &&& 31) = Int32.ofNat n := by
  rcases h with ⟨rfl, h, -⟩ | ⟨rfl, h, -⟩
  · rw [shr0, h]
  · rw [h, shr1 (by omega)]
/-- **x is a String of the n chars f 0 .. f (n - 1)**, Latin-1 or UTF-16; its array at t has the cell V -/
def Txt (x t : Addr) (V : Cell) (cd : Int32) (n : Nat) (f : Nat → Int32) (U : State) : Prop := Exact "java/lang/String" x U ∧ Has x "java/lang/String" "value" "[B" (.ref t) U ∧ Has x "java/lang/String" "coder" "B" (.int cd) U ∧ XT.Arr .byte t V U ∧ Cod cd n f V ∧ ∀ j, j < n → ¬ f j < 0 ∧ ¬ 65535 < f j
theorem Txt.mv {x t : Addr} {V : Cell} {cd : Int32} {n : Nat} {f : Nat → Int32} {U U' : State} (h : Txt x t V cd n f U) (hal : U.vm.Alike U'.vm) (hh : U'.heap = U.heap) : Txt x t V cd n f U' := ⟨h.1.mv hal hh, h.2.1.mv hal hh, h.2.2.1.mv hal hh, h.2.2.2.1.mv hal hh, h.2.2.2.2⟩
namespace Cdr
def yN : MethodName := ⟨"java/lang/String", "coder", "()B"⟩
abbrev yB : ByteArray := jdk_42_method_152_code
theorem d0 : decode yB 0 = .ok (.getstatic 38, 3) := by decide +kernel
theorem d3 : decode yB 3 = .ok (.ifCond (.eq) 10, 3) := by decide +kernel
theorem d6 : decode yB 6 = .ok (.aload_n 0, 1) := by decide +kernel
theorem d7 : decode yB 7 = .ok (.getfield 15, 3) := by decide +kernel
theorem d10 : decode yB 10 = .ok (.goto 4, 3) := by decide +kernel
theorem d14 : decode yB 14 = .ok (.ireturn, 1) := by decide +kernel
def site : List Cond := [.fieldLink "java/lang/String" 38 "java/lang/String" "COMPACT_STRINGS" "Z", .fieldLink "java/lang/String" 15 "java/lang/String" "coder" "B"]
def tab : Cond := tabOf yN yB 1 (some .byte) site
def P (x : Addr) (cd z : Int32) (args : Array Value) (s : State) : Prop := args = #[.ref x] ∧ Has x "java/lang/String" "coder" "B" (.int cd) s ∧ (cd = 0 ∨ cd = 1) ∧ StaticIs s "java/lang/String" "COMPACT_STRINGS" "Z" (.int z) ∧ ¬ z = 0
def E (cd : Int32) (r : Option Value) (s u : State) : Prop := XT.PureE (some (.int cd)) r s u
theorem law (l : Launch) (x : Addr) (cd z : Int32) : Law l yN 1 0 0 0 yB 1 (some .byte) site (P x cd z) (E cd) [] 0 0 := by
  refine Law.of_walk (plainFor_of_name (by decide +kernel)) (by decide +kernel) (by decide +kernel) (by decide) (fun _ _ h => by rw [h.1]; rfl) (fun _ U U' hal hh h => ⟨h.1, h.2.1.mv hal hh, h.2.2.1, h.2.2.2.1.there hal hh, h.2.2.2.2⟩) (fun r U U' V V' h1 hal h2 h => XT.PureE.mv r U U' V V' h1 hal h2 h) ?_
  intro p e s m args below meth c s₁ X0 hexec hbytes hml hret hlk hnm hown hh0 W hP
  obtain ⟨rfl, hx, hc, s1, hz⟩ := hP
  have c1 : Steps p.tables e below (s₁.setTop (entryFrame m #[.ref x] 1)) (s₁.setTop (mkF m 0 #[.val (.ref x)] [])) := entry rfl
  obtain ⟨T2, X2, q2, st2⟩ := X0.sget hexec hown (wk W (.fieldLink "java/lang/String" 38 "java/lang/String" "COMPACT_STRINGS" "Z")) s1 (fun _ _ h => by rw [hh0]; exact h) (g := (mkF m 0 #[.val (.ref x)] [])) rfl (hb hbytes d0)
  have hh2 := q2.trans hh0
  have c3 : Steps p.tables e below (s₁.setTop (entryFrame m #[.ref x] 1)) (T2.setTop (mkF m 7 #[.val (.ref x)] [.ref x])) := (c1.trans (st2 _ (Steps.refl _))).trans (by
    refine XS.ifNo X2.here hexec rfl (hb hbytes d3) rfl (i0_eq_f hz) ?_
    refine XS.aloadN X2.here hexec rfl (hb hbytes d6) rfl rfl ?_
    exact Steps.refl _)
  obtain ⟨T4, X4, q4, st4⟩ := X2.hget hexec hown (wk W (.fieldLink "java/lang/String" 15 "java/lang/String" "coder" "B")) (hx.mv X2.warmed.alike hh2) (g := (mkF m 7 #[.val (.ref x)] [.ref x])) rfl (rest := []) rfl (hb hbytes d7)
  have c5 : Steps p.tables e below (s₁.setTop (entryFrame m #[.ref x] 1)) (T4.setTop (mkF m 14 #[.val (.ref x)] [.int cd])) := (c3.trans (st4 _ (Steps.refl _))).trans (by
    refine XS.goto X4.here hexec rfl (pc0 := 10) rfl (hb hbytes d10) (by decide) rfl ?_
    exact Steps.refl _)
  exact ⟨T4, some (.int cd), _, _, _, X4, rfl, rfl, rfl, (fun h => by cases h), ⟨rfl, q4.trans hh2⟩, fun fs hl => c5.trans (X4.ireturnOut hexec hret (by rcases hc with rfl | rfl <;> rfl) (Or.inr (Or.inr (Or.inl rfl))) (hb hbytes d14) hl)⟩
end Cdr
namespace Len
def yN : MethodName := ⟨"java/lang/String", "length", "()I"⟩
abbrev yB : ByteArray := jdk_42_method_54_code
theorem d0 : decode yB 0 = .ok (.aload_n 0, 1) := by decide +kernel
theorem d1 : decode yB 1 = .ok (.getfield 9, 3) := by decide +kernel
theorem d4 : decode yB 4 = .ok (.arraylength, 1) := by decide +kernel
theorem d5 : decode yB 5 = .ok (.aload_n 0, 1) := by decide +kernel
theorem d6 : decode yB 6 = .ok (.invokevirtual 335, 3) := by decide +kernel
theorem d9 : decode yB 9 = .ok (.ishr, 1) := by decide +kernel
theorem d10 : decode yB 10 = .ok (.ireturn, 1) := by decide +kernel
def site : List Cond := [.fieldLink "java/lang/String" 9 "java/lang/String" "value" "[B", Cdr.tab] ++ virtW "java/lang/String" 335 "java/lang/String" Cdr.yN Cdr.yN
def tab : Cond := tabOf yN yB 1 (some .int) site
def P (x t : Addr) (V : Cell) (cd : Int32) (n : Nat) (f : Nat → Int32) (z : Int32) (args : Array Value) (s : State) : Prop := args = #[.ref x] ∧ Txt x t V cd n f s ∧ StaticIs s "java/lang/String" "COMPACT_STRINGS" "Z" (.int z) ∧ ¬ z = 0
def E (n : Nat) (r : Option Value) (s u : State) : Prop := XT.PureE (some (.int (Int32.ofNat n))) r s u
/-- length() of a String of n chars, in either coding -/
theorem law (l : Launch) (x t : Addr) (V : Cell) (cd : Int32) (n : Nat) (f : Nat → Int32) (z : Int32) : Law l yN 1 0 1 13 yB 1 (some .int) site (P x t V cd n f z) (E n) [] 0 0 := by
  refine Law.of_walk (plainFor_of_name (by decide +kernel)) (by decide +kernel) (by decide +kernel) (by decide) (fun _ _ h => by rw [h.1]; rfl) (fun _ U U' hal hh h => ⟨h.1, h.2.1.mv hal hh, h.2.2.1.there hal hh, h.2.2.2⟩) (fun r U U' V V' h1 hal h2 h => XT.PureE.mv r U U' V V' h1 hal h2 h) ?_
  intro p e s m args below meth c s₁ X0 hexec hbytes hml hret hlk hnm hown hh0 W hP
  obtain ⟨rfl, hx, s1, hz⟩ := hP
  have v31 := hx.2.2.2.1.2.2.2
  have c1 : Steps p.tables e below (s₁.setTop (entryFrame m #[.ref x] 1)) (s₁.setTop (mkF m 1 #[.val (.ref x)] [.ref x])) := Steps.trans (entry rfl) (by
    show Steps p.tables e below (s₁.setTop (mkF m 0 #[.val (.ref x)] [])) _
    refine XS.aloadN X0.here hexec rfl (hb hbytes d0) rfl rfl ?_
    exact Steps.refl _)
  obtain ⟨T2, X2, q2, st2⟩ := X0.hget hexec hown (wk W (.fieldLink "java/lang/String" 9 "java/lang/String" "value" "[B")) (hx.mv X0.warmed.alike hh0).2.1 (g := (mkF m 1 #[.val (.ref x)] [.ref x])) rfl (rest := []) rfl (hb hbytes d1)
  have hh2 := q2.trans hh0
  have hx2 := hx.mv X2.warmed.alike hh2
  have c3 : Steps p.tables e below (s₁.setTop (entryFrame m #[.ref x] 1)) (T2.setTop (mkF m 6 #[.val (.ref x)] [.ref x, .int (Int32.ofNat V.slots.size)])) := (c1.trans (st2 _ (Steps.refl _))).trans (by
    refine X2.alen hexec hx2.2.2.2.1 rfl rfl (hb hbytes d4) ?_
    refine XS.aloadN X2.here hexec rfl (hb hbytes d5) rfl rfl ?_
    exact Steps.refl _)
  obtain ⟨v4, T4, X4, E4, g4⟩ := X2.callV hexec (Cdr.law l x cd z) hown (wks W (virtW "java/lang/String" 335 "java/lang/String" Cdr.yN Cdr.yN)) rfl (by decide) (wk W Cdr.tab) (W := 1) (Nat.le_of_ble_eq_true rfl) (Nat.le_of_ble_eq_true rfl) (Nat.le_refl _) (Nat.le_refl _) (hx2.1.fc X2.warmed.alike) hx2.1.is (g := (mkF m 6 #[.val (.ref x)] [.ref x, .int (Int32.ofNat V.slots.size)])) rfl (by rw [hml]; rfl) c3 (argsL := []) (rest := [.int (Int32.ofNat V.slots.size)]) rfl rfl (by show 2 * 0 + (1 + 0) ≤ _; decide) (hb hbytes d6) (⟨rfl, hx2.2.2.1, hx.2.2.2.2.1.cd, s1.there X2.warmed.alike hh2, hz⟩)
  obtain ⟨rfl, q4⟩ := E4
  have c5 : Steps p.tables e below (s₁.setTop (entryFrame m #[.ref x] 1)) (T4.setTop (mkF m 10 #[.val (.ref x)] [.int (Int32.ofNat V.slots.size >>> (cd &&& 31))])) := Steps.trans g4 (by
    refine ishr X4.here hexec rfl (hb hbytes d9) rfl ?_
    exact Steps.refl _)
  rw [hx.2.2.2.2.1.len v31] at c5
  exact ⟨T4, some (.int (Int32.ofNat n)), _, _, _, X4, rfl, rfl, rfl, (fun h => by cases h), ⟨rfl, q4.trans hh2⟩, fun fs hl => c5.trans (X4.ireturnOut hexec hret rfl (Or.inl rfl) (hb hbytes d10) hl)⟩
theorem pays {l : Launch} {R : Room} {p : Program} {e : Env} {below : List Frame} {s : State} {sargs : Array Value} {len W : Nat} (x t : Addr) (V : Cell) (cd : Int32) (n : Nat) (f : Nat → Int32) (z : Int32) (htab : tab.before sargs s = true) (hfr : 2 ≤ R.frames) (hlo : W + 25 ≤ R.locals) :
    Back l R p e below s sargs yN len W (fun A₁ a₁ => A₁.cells + 0 ≤ R.cells ∧ A₁.slots + 0 ≤ R.slots ∧ P x t V cd n f z a₁ A₁.U) (fun A₁ _ v₁ B₁ => E n v₁ A₁.U B₁.U ∧ B₁.locs = A₁.locs ++ [] ∧ B₁.cells = A₁.cells + 0 ∧ B₁.slots = A₁.slots + 0) :=
  (law l x t V cd n f z).pays htab hfr (by omega)
end Len
namespace IsL
def yN : MethodName := ⟨"java/lang/String", "isLatin1", "()Z"⟩
abbrev yB : ByteArray := jdk_42_method_154_code
theorem d0 : decode yB 0 = .ok (.getstatic 38, 3) := by decide +kernel
theorem d3 : decode yB 3 = .ok (.ifCond (.eq) 14, 3) := by decide +kernel
theorem d6 : decode yB 6 = .ok (.aload_n 0, 1) := by decide +kernel
theorem d7 : decode yB 7 = .ok (.getfield 15, 3) := by decide +kernel
theorem d10 : decode yB 10 = .ok (.ifCond (.ne) 7, 3) := by decide +kernel
theorem d13 : decode yB 13 = .ok (.iconst 1, 1) := by decide +kernel
theorem d14 : decode yB 14 = .ok (.goto 4, 3) := by decide +kernel
theorem d17 : decode yB 17 = .ok (.iconst 0, 1) := by decide +kernel
theorem d18 : decode yB 18 = .ok (.ireturn, 1) := by decide +kernel
def site : List Cond := [.fieldLink "java/lang/String" 38 "java/lang/String" "COMPACT_STRINGS" "Z", .fieldLink "java/lang/String" 15 "java/lang/String" "coder" "B"]
def tab : Cond := tabOf yN yB 1 (some .boolean) site
def P (x : Addr) (cd z : Int32) (args : Array Value) (s : State) : Prop := args = #[.ref x] ∧ Has x "java/lang/String" "coder" "B" (.int cd) s ∧ (cd = 0 ∨ cd = 1) ∧ StaticIs s "java/lang/String" "COMPACT_STRINGS" "Z" (.int z) ∧ ¬ z = 0
def E (cd : Int32) (r : Option Value) (s u : State) : Prop := XT.PureE (some (.int (1 - cd))) r s u
theorem law (l : Launch) (x : Addr) (cd z : Int32) : Law l yN 1 0 0 0 yB 1 (some .boolean) site (P x cd z) (E cd) [] 0 0 := by
  refine Law.of_walk (plainFor_of_name (by decide +kernel)) (by decide +kernel) (by decide +kernel) (by decide) (fun _ _ h => by rw [h.1]; rfl) (fun _ U U' hal hh h => ⟨h.1, h.2.1.mv hal hh, h.2.2.1, h.2.2.2.1.there hal hh, h.2.2.2.2⟩) (fun r U U' V V' h1 hal h2 h => XT.PureE.mv r U U' V V' h1 hal h2 h) ?_
  intro p e s m args below meth c s₁ X0 hexec hbytes hml hret hlk hnm hown hh0 W hP
  obtain ⟨rfl, hx, hc, s1, hz⟩ := hP
  have c1 : Steps p.tables e below (s₁.setTop (entryFrame m #[.ref x] 1)) (s₁.setTop (mkF m 0 #[.val (.ref x)] [])) := entry rfl
  obtain ⟨T2, X2, q2, st2⟩ := X0.sget hexec hown (wk W (.fieldLink "java/lang/String" 38 "java/lang/String" "COMPACT_STRINGS" "Z")) s1 (fun _ _ h => by rw [hh0]; exact h) (g := (mkF m 0 #[.val (.ref x)] [])) rfl (hb hbytes d0)
  have hh2 := q2.trans hh0
  have c3 : Steps p.tables e below (s₁.setTop (entryFrame m #[.ref x] 1)) (T2.setTop (mkF m 7 #[.val (.ref x)] [.ref x])) := (c1.trans (st2 _ (Steps.refl _))).trans (by
    refine XS.ifNo X2.here hexec rfl (hb hbytes d3) rfl (i0_eq_f hz) ?_
    refine XS.aloadN X2.here hexec rfl (hb hbytes d6) rfl rfl ?_
    exact Steps.refl _)
  obtain ⟨T4, X4, q4, st4⟩ := X2.hget hexec hown (wk W (.fieldLink "java/lang/String" 15 "java/lang/String" "coder" "B")) (hx.mv X2.warmed.alike hh2) (g := (mkF m 7 #[.val (.ref x)] [.ref x])) rfl (rest := []) rfl (hb hbytes d7)
  have c5 : Steps p.tables e below (s₁.setTop (entryFrame m #[.ref x] 1)) (T4.setTop (mkF m 10 #[.val (.ref x)] [.int cd])) := c3.trans (st4 _ (Steps.refl _))
  have c6 : Steps p.tables e below (s₁.setTop (entryFrame m #[.ref x] 1)) (T4.setTop (mkF m 18 #[.val (.ref x)] [.int (1 - cd)])) := by
    rcases hc with rfl | rfl
    · exact c5.trans (by
        refine XS.ifNo X4.here hexec rfl (hb hbytes d10) rfl (i0_ne_f rfl) ?_
        refine iconstV X4.here hexec rfl 1 (hb hbytes d13) (by decide) ?_
        refine XS.goto X4.here hexec rfl (pc0 := 14) rfl (hb hbytes d14) (by decide) rfl ?_
        exact Steps.refl _)
    · exact c5.trans (by
        refine XS.ifYes X4.here hexec rfl (pc0 := 10) rfl (hb hbytes d10) rfl (i0_ne_t (by decide)) (by decide) rfl ?_
        refine iconstV X4.here hexec rfl 0 (hb hbytes d17) (by decide) ?_
        exact Steps.refl _)
  exact ⟨T4, some (.int (1 - cd)), _, _, _, X4, rfl, rfl, rfl, (fun h => by cases h), ⟨rfl, q4.trans hh2⟩, fun fs hl => c6.trans (X4.ireturnOut hexec hret (by rcases hc with rfl | rfl <;> rfl) (Or.inr (Or.inl rfl)) (hb hbytes d18) hl)⟩
end IsL
namespace LChA
def yN : MethodName := ⟨"java/lang/StringLatin1", "charAt", "([BI)C"⟩
abbrev yB : ByteArray := jdk_43_method_2_code
theorem d0 : decode yB 0 = .ok (.iload_n 1, 1) := by decide +kernel
theorem d1 : decode yB 1 = .ok (.aload_n 0, 1) := by decide +kernel
theorem d2 : decode yB 2 = .ok (.arraylength, 1) := by decide +kernel
theorem d3 : decode yB 3 = .ok (.invokestatic 9, 3) := by decide +kernel
theorem d6 : decode yB 6 = .ok (.aload_n 0, 1) := by decide +kernel
theorem d7 : decode yB 7 = .ok (.iload_n 1, 1) := by decide +kernel
theorem d8 : decode yB 8 = .ok (.baload, 1) := by decide +kernel
theorem d9 : decode yB 9 = .ok (.sipush 255, 3) := by decide +kernel
theorem d12 : decode yB 12 = .ok (.iand, 1) := by decide +kernel
theorem d13 : decode yB 13 = .ok (.i2c, 1) := by decide +kernel
theorem d14 : decode yB 14 = .ok (.ireturn, 1) := by decide +kernel
def site : List Cond := [JO.Str_checkIndex.tab] ++ staticW "java/lang/StringLatin1" 9 JO.Str_checkIndex.yN
def tab : Cond := tabOf yN yB 2 (some .char) site
def P (t : Addr) (V : Cell) (i : Nat) (u : Int32) (fm : Value) (args : Array Value) (s : State) : Prop := args = #[.ref t, .int (Int32.ofNat i)] ∧ XT.Arr .byte t V s ∧ V.slots[i]? = some (.int u) ∧ (StaticIs s "jdk/internal/util/Preconditions" "SIOOBE_FORMATTER" "Ljava/util/function/BiFunction;" fm ∧ fm.isRef = true)
def E (u : Int32) (r : Option Value) (s w : State) : Prop := XT.PureE (some (.int (chr8 u))) r s w
theorem law (l : Launch) (t : Addr) (V : Cell) (i : Nat) (u : Int32) (fm : Value) : Law l yN 2 2 2 27 yB 2 (some .char) site (P t V i u fm) (E u) [] 0 0 := by
  refine Law.of_walk (plainFor_of_name (by decide +kernel)) (by decide +kernel) (by decide +kernel) (by decide) (fun _ _ h => by rw [h.1]; rfl) (fun _ U U' hal hh h => ⟨h.1, h.2.1.mv hal hh, h.2.2.1, h.2.2.2.1.there hal hh, h.2.2.2.2⟩) (fun r U U' V V' h1 hal h2 h => XT.PureE.mv r U U' V V' h1 hal h2 h) ?_
  intro p e s m args below meth c s₁ X0 hexec hbytes hml hret hlk hnm hown hh0 W hP
  obtain ⟨rfl, hV, hu, s1, rf⟩ := hP
  have v31 := hV.2.2.2
  have hi : i < V.slots.size := (Array.getElem?_eq_some_iff.mp hu).1
  have c1 : Steps p.tables e below (s₁.setTop (entryFrame m #[.ref t, .int (Int32.ofNat i)] 2)) (s₁.setTop (mkF m 0 #[.val (.ref t), .val (.int (Int32.ofNat i))] [])) := entry rfl
  have c2 : Steps p.tables e below (s₁.setTop (entryFrame m #[.ref t, .int (Int32.ofNat i)] 2)) (s₁.setTop (mkF m 3 #[.val (.ref t), .val (.int (Int32.ofNat i))] [.int (Int32.ofNat V.slots.size), .int (Int32.ofNat i)])) := c1.trans (by
    refine XS.iloadN X0.here hexec rfl (hb hbytes d0) rfl ?_
    refine XS.aloadN X0.here hexec rfl (hb hbytes d1) rfl rfl ?_
    refine X0.alen hexec (hV.mv X0.warmed.alike hh0) rfl rfl (hb hbytes d2) ?_
    exact Steps.refl _)
  obtain ⟨v3, T3, X3, E3, g3⟩ := X0.callS hexec (JO.Str_checkIndex.law l (Int32.ofNat i) (Int32.ofNat V.slots.size) fm) hown (wks W (staticW "java/lang/StringLatin1" 9 JO.Str_checkIndex.yN)) (wk W JO.Str_checkIndex.tab) (W := 0) (Nat.le_of_ble_eq_true rfl) (Nat.le_of_ble_eq_true rfl) (Nat.le_refl _) (Nat.le_refl _) (g := (mkF m 3 #[.val (.ref t), .val (.int (Int32.ofNat i))] [.int (Int32.ofNat V.slots.size), .int (Int32.ofNat i)])) rfl (by rw [hml]; rfl) c2 (argsL := [.int (Int32.ofNat i), .int (Int32.ofNat V.slots.size)]) (rest := []) rfl rfl (by show 2 * 0 + 0 ≤ _; decide) (hb hbytes d3) (⟨rfl, rf, s1.there X0.warmed.alike hh0, Int32.ofNat_not_neg (by omega), lt32 v31 hi⟩)
  obtain ⟨rfl, q3⟩ := E3
  have hh3 := q3.trans hh0
  have c4 : Steps p.tables e below (s₁.setTop (entryFrame m #[.ref t, .int (Int32.ofNat i)] 2)) (T3.setTop (mkF m 14 #[.val (.ref t), .val (.int (Int32.ofNat i))] [.int (chr8 u)])) := Steps.trans g3 (by
    refine XS.aloadN X3.here hexec rfl (hb hbytes d6) rfl rfl ?_
    refine XS.iloadN X3.here hexec rfl (hb hbytes d7) rfl ?_
    refine X3.aget hexec (hV.mv X3.warmed.alike hh3) rfl hu rfl rfl (hb hbytes d8) ?_
    refine sipushV X3.here hexec rfl 255 (hb hbytes d9) (by decide) ?_
    refine XS.iand X3.here hexec rfl (hb hbytes d12) rfl ?_
    refine i2c X3.here hexec rfl (hb hbytes d13) rfl ?_
    exact Steps.refl _)
  exact ⟨T3, some (.int (chr8 u)), _, _, _, X3, rfl, rfl, rfl, (fun h => by cases h), ⟨rfl, hh3⟩, fun fs hl => c4.trans (X3.ireturnOut hexec hret (narrow_c _) (Or.inr (Or.inr (Or.inr (Or.inl rfl)))) (hb hbytes d14) hl)⟩
end LChA
end StrChars
namespace StrChars.Road
open Jvm Sem ClassFile Op Lib Jvm.Stand Jvm.Free Jvm.Free.XT
open Jvm.Lib.Cold (StaticIs)
theorem consq {a : Array Value} {s : State} {c : Jvm.Cond} {L : List Jvm.Cond} (h0 : c.before a s = true) (h : ∀ w ∈ L, w.before a s = true) : ∀ w ∈ c :: L, w.before a s = true := fun w hw => (List.mem_cons.mp hw).elim (fun e => e ▸ h0) (h w)
/-- the words of String.length(), either coding -/
abbrev wordsLen : List Jvm.Cond := [.code Len.yN Len.yB 1 (some .int), .initialized ST, .fieldLink ST 9 ST "value" "[B", .fieldLink ST 38 ST "COMPACT_STRINGS" "Z", .fieldLink ST 15 ST "coder" "B", .code Cdr.yN Cdr.yB 1 (some .byte), .methodLink ST 335 Cdr.yN, .declares Cdr.yN, .selects ST Cdr.yN Cdr.yN, .instanceMethod Cdr.yN]
theorem tabLen_of {a : Array Value} {s : State} (h : ∀ w ∈ wordsLen, w.before a s = true) : Len.tab.before a s = true := by
  have hc : Cdr.tab.before a s = true := unparts (wk h (.code Cdr.yN Cdr.yB 1 (some .byte))) (wks h (.initialized Cdr.yN.cls :: Cdr.site))
  have q := consq hc h
  exact unparts (wk q (.code Len.yN Len.yB 1 (some .int))) (wks q (.initialized Len.yN.cls :: Len.site))
theorem movedLen {Z s : State} {a0 args : Array Value} (hZ : Z.Warmed39 s.vm) (hw : ∀ d ∈ wordsLen, d.before a0 Z = true) : ∀ d ∈ wordsLen, d.before args s = true := fun d hd => by
  have q := hw d hd
  have t : ∀ d ∈ wordsLen, d = .arrayClass .byte ∨ (d.onTables && d.keepsFace) = true := by decide +kernel
  rcases t d hd with rfl | t
  · exact RoadKit.mvA hZ q
  · exact RoadKit.mv hZ q t
/-- the bytes of the chars cs, low before high -/
def wideBytes : List Int32 → List Value
  | [] => []
  | c :: cs => .int (lo8 c) :: .int (hi8 c) :: wideBytes cs
theorem wide_lo (d : Value) : ∀ (cs : List Int32) (j : Nat), j < cs.length → (wideBytes cs).getD (2 * j) d = .int (lo8 (cs.getD j 0))
  | [], j, h => absurd h (Nat.not_lt_zero j)
  | c :: cs, 0, _ => rfl
  | c :: cs, j + 1, h => by
    have q := wide_lo d cs j (by simpa using h)
    rw [show 2 * (j + 1) = 2 * j + 1 + 1 from by omega]
    simpa [wideBytes] using q
theorem wide_hi (d : Value) : ∀ (cs : List Int32) (j : Nat), j < cs.length → (wideBytes cs).getD (2 * j + 1) d = .int (hi8 (cs.getD j 0))
  | [], j, h => absurd h (Nat.not_lt_zero j)
  | c :: cs, 0, _ => rfl
  | c :: cs, j + 1, h => by
    have q := wide_hi d cs j (by simpa using h)
    rw [show 2 * (j + 1) + 1 = 2 * j + 1 + 1 + 1 from by omega]
    simpa [wideBytes] using q
theorem low_at (d : Value) (cs : List Int32) (j : Nat) (h : j < cs.length) : (cs.map fun c => Value.int (lo8 c)).getD j d = .int (lo8 (cs.getD j 0)) := by
  simp [List.getD_eq_getElem?_getD, h]
/-- an array of N2 bytes vs codes the chars cs by the coder cd -/
def CodA (cs : List Int32) (cd N2 : Int32) (vs : List Value) : Prop := (cd = 0 ∧ N2 = Int32.ofNat cs.length ∧ vs = (cs.map fun c => Value.int (lo8 c)) ∧ ∀ c ∈ cs, ¬ 255 < c) ∨ (cd = 1 ∧ N2 = Int32.ofNat (2 * cs.length) ∧ vs = wideBytes cs ∧ ∃ c ∈ cs, 255 < c)
theorem CodA.cod {cs : List Int32} {cd N2 : Int32} {vs : List Value} {V : Cell} (h : CodA cs cd N2 vs) (hn : 2 * cs.length < 2 ^ 31) (hs : V.slots.size = N2.toNatClampNeg) (hv : RoadKit.Has V vs (.int 0)) : Cod cd cs.length (fun j => cs.getD j 0) V := by
  rcases h with ⟨rfl, rfl, rfl, h⟩ | ⟨rfl, rfl, rfl, c, hc, hw⟩
  · rw [n32 (by omega)] at hs
    exact Or.inl ⟨rfl, hs, fun j hj => ⟨by rw [hv j (by omega), low_at _ _ _ hj], by
      have e : cs.getD j 0 = cs[j] := by simp [List.getD_eq_getElem?_getD, hj]
      show ¬ 255 < cs.getD j 0
      rw [e]; exact h _ (List.getElem_mem _)⟩⟩
  · rw [n32 (by omega)] at hs
    obtain ⟨j, hj, rfl⟩ := List.getElem_of_mem hc
    exact Or.inr ⟨rfl, hs, fun j hj => ⟨by rw [hv _ (by omega), wide_lo _ _ _ hj], by rw [hv _ (by omega), wide_hi _ _ _ hj]⟩, j, hj, by
      have e : cs.getD j 0 = cs[j] := by simp [List.getD_eq_getElem?_getD, hj]
      show 255 < cs.getD j 0
      rw [e]; exact hw⟩
/-- an object of exactly java/lang/String, its two fields found: as the laws ask it -/
theorem strObj {Z U : State} {a0 : Array Value} {kI : Nat} (wi : (Jvm.Cond.instantiable ST kI).before a0 Z = true) (al : Z.vm.Alike U.vm) {x : Addr} {v0 c0 : Value} (E : RoadKit.Exa Z U.heap x ST) (V : RoadKit.Fld Z U.heap x ST "value" "[B" v0) (C : RoadKit.Fld Z U.heap x ST "coder" "B" c0) :
    ∃ (D : Cell) (fV fC : Field), Blank ST x D U ∧ Found ST "value" "[B" fV U ∧ Found ST "coder" "B" fC U ∧ D.slots[fV.slot]? = some v0 ∧ D.slots[fC.slot]? = some c0 ∧ RoadKit.slotOf Z ST "value" "[B" = fV.slot ∧ RoadKit.slotOf Z ST "coder" "B" = fC.slot := by
  obtain ⟨D, cfV, kV, iV, fV, hD, gV, stV, knV, obV, asV, slV⟩ := V
  obtain ⟨D', cfC, kC, iC, fC, hD', gC, stC, -, -, asC, slC⟩ := C
  cases hD.symm.trans hD'
  obtain ⟨D2, kD, e1, e2, e3, e4, e5⟩ := E
  cases hD.symm.trans e1
  obtain ⟨c2, k2, i1, i2, i3, -⟩ := Cond.instantiable_spec wi
  cases e2.symm.trans i1
  cases e3.symm.trans i2
  obtain ⟨kU, u1, u2⟩ := al.2.2 _ _ e3
  exact ⟨D, fV, fC, ⟨hD, ⟨knV, fun q hq => by rw [hq] at obV; cases obV⟩, by rw [al.findClass]; exact e2, kU, u1, by rw [u2]; exact i3, by rw [u2]; exact e5 i3⟩, ⟨SBG.found_only al ⟨cfV, kV, iV, gV⟩, stV⟩, ⟨SBG.found_only al ⟨cfC, kC, iC, gC⟩, stC⟩, slV, slC, by simp [RoadKit.slotOf, gV], by simp [RoadKit.slotOf, gC]⟩
theorem sta_is {Z U : State} (al : Z.vm.Alike U.vm) {C n d : String} {v : Value} (S : RoadKit.Sta Z U.heap C n d v) : StaticIs U C n d v := by
  obtain ⟨cfS, iS, kS, fS, st, cS, t1, t2, t3, t4, t5, t6, t7⟩ := S
  exact StaticIs.there (s := { Z with heap := U.heap }) ⟨cfS, iS, kS, fS, st, cS, t1, t2, t3, t4, t5, (fun q => by rw [q] at t6; cases t6), t7⟩ al rfl
/-- **length() OF SUCH A STRING** -/
theorem lenW {p : Program} {l : Launch} {e : Env} {R : Room} {s : State} {args : Array Value} {below : List Frame} {len W : Nat} {Z : State} {a0 : Array Value} {h : Heap} (hZ : Z.Warmed39 s.vm) (hw : ∀ d ∈ wordsLen, d.before a0 Z = true) {kI : Nat} (wi : (Jvm.Cond.instantiable ST kI).before a0 Z = true)
    {x t : Addr} {kb : ClassId} {cs : List Int32} {cd N2 z : Int32} {vs : List Value} (E : RoadKit.Exa Z h x ST) (V : RoadKit.Fld Z h x ST "value" "[B" (.ref t)) (C : RoadKit.Fld Z h x ST "coder" "B" (.int cd)) (K : RoadKit.Arv Z h t kb .byte N2 vs (.int 0)) (hc : CodA cs cd N2 vs) (hb : ∀ c ∈ cs, ¬ c < 0 ∧ ¬ (65535 : Int32) < c)
    (S : RoadKit.Sta Z h ST "COMPACT_STRINGS" "Z" (.int z)) (hz : ¬ z = 0) (l2 : cs.length ≤ 4000) (hfr : 2 ≤ R.frames) (hlo : W + 25 ≤ R.locals) :
    Back l R p e below s args (⟨"java/lang/String", "length", "()I"⟩ : MethodName) len W (fun P a => a = #[.ref x] ∧ P.U.heap = h ∧ P.cells + 0 ≤ R.cells ∧ P.slots + 0 ≤ R.slots)
      (fun P _ v B => ∃ L, (v = some (.int (Int32.ofNat cs.length)) ∧ L = [] ∧ B.U.heap = h) ∧ B.locs = P.locs ++ L ∧ B.cells = P.cells + 0 ∧ B.slots = P.slots + 0) := by
  obtain ⟨A, K1, K2, K3, K4, K5, K6⟩ := K
  have hcod := hc.cod (by omega) K3 K5
  intro m meth c P g ig mk a X hg hsize hdg hW hn hp'
  obtain ⟨rfl, rfl, r1, r2⟩ := hp'
  have al : Z.vm.Alike P.U.vm := hZ.alike.trans X.warmed.alike
  obtain ⟨D, fV, fC, hB, F1, F2, g1, g2, -, -⟩ := strObj wi al E V C
  have hx : Txt x t A cd cs.length (fun j => cs.getD j 0) P.U := ⟨⟨_, hB.2.2.1, D, hB.1, rfl, by cases q : D.vm <;> first | rfl | exact absurd q (hB.2.1.2 _)⟩, Has.of hB F1 g1, Has.of hB F2 g2, ⟨K1.1, State.isArrayOf_alike al K1.2.1, K1.2.2, by rcases hcod with ⟨-, q, -⟩ | ⟨-, q, -⟩ <;> omega⟩, hcod, fun j hj => by
    have e : cs.getD j 0 = cs[j] := by simp [List.getD_eq_getElem?_getD, hj]
    show ¬ cs.getD j 0 < 0 ∧ ¬ 65535 < cs.getD j 0
    rw [e]; exact hb _ (List.getElem_mem _)⟩
  obtain ⟨v, B, X', ⟨⟨hv, hh⟩, hl, hk, hs⟩, st⟩ := Len.pays x t A cd cs.length (fun j => cs.getD j 0) z (tabLen_of (movedLen hZ hw)) hfr hlo m meth c P g ig mk _ X hg hsize hdg hW hn ⟨r1, r2, rfl, hx, sta_is al S, hz⟩
  exact ⟨v, B, X', ⟨[], ⟨hv, rfl, hh⟩, hl, hk, hs⟩, st⟩
end StrChars.Road
namespace StrChars.Road
open Jvm Sem ClassFile Op Lib Jvm.Stand Jvm.Free Jvm.Free.XT
open Jvm.Lib.Cold (StaticIs)
/-- the road's facts of a String, as the laws ask it -/
theorem txt_of {Z U : State} {a0 : Array Value} {kI : Nat} (wi : (Jvm.Cond.instantiable ST kI).before a0 Z = true) (al : Z.vm.Alike U.vm) {x t : Addr} {kb : ClassId} {cs : List Int32} {cd N2 : Int32} {vs : List Value} (E : RoadKit.Exa Z U.heap x ST) (V : RoadKit.Fld Z U.heap x ST "value" "[B" (.ref t)) (C : RoadKit.Fld Z U.heap x ST "coder" "B" (.int cd)) (K : RoadKit.Arv Z U.heap t kb .byte N2 vs (.int 0)) (hc : CodA cs cd N2 vs) (hb : ∀ c ∈ cs, ¬ c < 0 ∧ ¬ (65535 : Int32) < c) (l2 : cs.length ≤ 4000) :
    ∃ A, Txt x t A cd cs.length (fun j => cs.getD j 0) U := by
  obtain ⟨A, K1, K2, K3, K4, K5, K6⟩ := K
  have hcod := hc.cod (by omega) K3 K5
  obtain ⟨D, fV, fC, hB, F1, F2, g1, g2, -, -⟩ := strObj wi al E V C
  exact ⟨A, ⟨_, hB.2.2.1, D, hB.1, rfl, by cases q : D.vm <;> first | rfl | exact absurd q (hB.2.1.2 _)⟩, Has.of hB F1 g1, Has.of hB F2 g2, ⟨K1.1, State.isArrayOf_alike al K1.2.1, K1.2.2, by rcases hcod with ⟨-, q, -⟩ | ⟨-, q, -⟩ <;> omega⟩, hcod, fun j hj => by
    have e : cs.getD j 0 = cs[j] := by simp [List.getD_eq_getElem?_getD, hj]
    show ¬ cs.getD j 0 < 0 ∧ ¬ 65535 < cs.getD j 0
    rw [e]; exact hb _ (List.getElem_mem _)⟩
end StrChars.Road
namespace StrChars
open Jvm Sem ClassFile Op Lib Jvm.Stand Jvm.Free.XT Jvm.Free.ALB Jvm.Free.JM Jvm.Free
open Jvm.Lib.Cold (StaticIs)
namespace ChN
def yN : MethodName := ⟨"java/lang/String", "charAt", "(I)C"⟩
abbrev yB : ByteArray := jdk_42_method_56_code
theorem d0 : decode yB 0 = .ok (.aload_n 0, 1) := by decide +kernel
theorem d1 : decode yB 1 = .ok (.invokevirtual 492, 3) := by decide +kernel
theorem d4 : decode yB 4 = .ok (.ifCond (.eq) 12, 3) := by decide +kernel
theorem d7 : decode yB 7 = .ok (.aload_n 0, 1) := by decide +kernel
theorem d8 : decode yB 8 = .ok (.getfield 9, 3) := by decide +kernel
theorem d11 : decode yB 11 = .ok (.iload_n 1, 1) := by decide +kernel
theorem d12 : decode yB 12 = .ok (.invokestatic 495, 3) := by decide +kernel
theorem d15 : decode yB 15 = .ok (.ireturn, 1) := by decide +kernel
def site : List Cond := [.fieldLink "java/lang/String" 9 "java/lang/String" "value" "[B", IsL.tab, LChA.tab] ++ virtW "java/lang/String" 492 "java/lang/String" IsL.yN IsL.yN ++ staticW "java/lang/String" 495 LChA.yN
def tab : Cond := tabOf yN yB 2 (some .char) site
def P (x t : Addr) (V : Cell) (n : Nat) (f : Nat → Int32) (z : Int32) (fm : Value) (i : Nat) (args : Array Value) (s : State) : Prop := args = #[.ref x, .int (Int32.ofNat i)] ∧ Txt x t V 0 n f s ∧ i < n ∧ StaticIs s "java/lang/String" "COMPACT_STRINGS" "Z" (.int z) ∧ ¬ z = 0 ∧ StaticIs s "jdk/internal/util/Preconditions" "SIOOBE_FORMATTER" "Ljava/util/function/BiFunction;" fm ∧ fm.isRef = true
def E (f : Nat → Int32) (i : Nat) (r : Option Value) (s u : State) : Prop := XT.PureE (some (.int (f i))) r s u
/-- charAt(i) of a Latin-1 String of n chars, i < n: f i -/
theorem law (l : Launch) (x t : Addr) (V : Cell) (n : Nat) (f : Nat → Int32) (z : Int32) (fm : Value) (i : Nat) : Law l yN 2 1 3 40 yB 2 (some .char) site (P x t V n f z fm i) (E f i) [] 0 0 := by
  refine Law.of_walk (plainFor_of_name (by decide +kernel)) (by decide +kernel) (by decide +kernel) (by decide) (fun _ _ h => by rw [h.1]; rfl) (fun _ U U' hal hh h => ⟨h.1, h.2.1.mv hal hh, h.2.2.1, h.2.2.2.1.there hal hh, h.2.2.2.2.1, h.2.2.2.2.2.1.there hal hh, h.2.2.2.2.2.2⟩) (fun r U U' V V' h1 hal h2 h => XT.PureE.mv r U U' V V' h1 hal h2 h) ?_
  intro p e s m args below meth c s₁ X0 hexec hbytes hml hret hlk hnm hown hh0 W hP
  obtain ⟨rfl, hx, hi, s1, hz, s3, rf⟩ := hP
  have v31 := hx.2.2.2.1.2.2.2
  have hr := hx.2.2.2.2.2 i hi
  have hx0 := hx.mv X0.warmed.alike hh0
  have c1 : Steps p.tables e below (s₁.setTop (entryFrame m #[.ref x, .int (Int32.ofNat i)] 2)) (s₁.setTop (mkF m 1 #[.val (.ref x), .val (.int (Int32.ofNat i))] [.ref x])) := Steps.trans (entry rfl) (by
    show Steps p.tables e below (s₁.setTop (mkF m 0 #[.val (.ref x), .val (.int (Int32.ofNat i))] [])) _
    refine XS.aloadN X0.here hexec rfl (hb hbytes d0) rfl rfl ?_
    exact Steps.refl _)
  obtain ⟨v2, T2, X2, E2, g2⟩ := X0.callV hexec (IsL.law l x 0 z) hown (wks W (virtW "java/lang/String" 492 "java/lang/String" IsL.yN IsL.yN)) rfl (by decide) (wk W IsL.tab) (W := 0) (Nat.le_of_ble_eq_true rfl) (Nat.le_of_ble_eq_true rfl) (Nat.le_refl _) (Nat.le_refl _) (hx0.1.fc X0.warmed.alike) hx0.1.is (g := (mkF m 1 #[.val (.ref x), .val (.int (Int32.ofNat i))] [.ref x])) rfl (by rw [hml]; rfl) c1 (argsL := []) (rest := []) rfl rfl (by show 2 * 0 + 0 ≤ _; decide) (hb hbytes d1) (⟨rfl, hx0.2.2.1, hx.2.2.2.2.1.cd, s1.there X0.warmed.alike hh0, hz⟩)
  obtain ⟨rfl, q2⟩ := E2
  have hh2 := q2.trans hh0
  have hx2 := hx.mv X2.warmed.alike hh2
  obtain ⟨-, k1, k2⟩ | ⟨k0, -⟩ := hx.2.2.2.2.1
  · have c3 : Steps p.tables e below (s₁.setTop (entryFrame m #[.ref x, .int (Int32.ofNat i)] 2)) (T2.setTop (mkF m 8 #[.val (.ref x), .val (.int (Int32.ofNat i))] [.ref x])) := Steps.trans g2 (by
      refine XS.ifNo X2.here hexec rfl (hb hbytes d4) rfl (i0_eq_f (by decide)) ?_
      refine XS.aloadN X2.here hexec rfl (hb hbytes d7) rfl rfl ?_
      exact Steps.refl _)
    obtain ⟨T4, X4, q4, st4⟩ := X2.hget hexec hown (wk W (.fieldLink "java/lang/String" 9 "java/lang/String" "value" "[B")) hx2.2.1 (g := (mkF m 8 #[.val (.ref x), .val (.int (Int32.ofNat i))] [.ref x])) rfl (rest := []) rfl (hb hbytes d8)
    have hh4 := q4.trans hh2
    have c5 : Steps p.tables e below (s₁.setTop (entryFrame m #[.ref x, .int (Int32.ofNat i)] 2)) (T4.setTop (mkF m 12 #[.val (.ref x), .val (.int (Int32.ofNat i))] [.int (Int32.ofNat i), .ref t])) := (c3.trans (st4 _ (Steps.refl _))).trans (by
      refine XS.iloadN X4.here hexec rfl (hb hbytes d11) rfl ?_
      exact Steps.refl _)
    obtain ⟨v6, T6, X6, E6, g6⟩ := X4.callS hexec (LChA.law l t V i (lo8 (f i)) fm) hown (wks W (staticW "java/lang/String" 495 LChA.yN)) (wk W LChA.tab) (W := 0) (Nat.le_of_ble_eq_true rfl) (Nat.le_of_ble_eq_true rfl) (Nat.le_refl _) (Nat.le_refl _) (g := (mkF m 12 #[.val (.ref x), .val (.int (Int32.ofNat i))] [.int (Int32.ofNat i), .ref t])) rfl (by rw [hml]; rfl) c5 (argsL := [.ref t, .int (Int32.ofNat i)]) (rest := []) rfl rfl (by show 2 * 0 + 0 ≤ _; decide) (hb hbytes d12) (⟨rfl, hx.2.2.2.1.mv X4.warmed.alike hh4, (k2 i hi).1, s3.there X4.warmed.alike hh4, rf⟩)
    obtain ⟨rfl, q6⟩ := E6
    rw [chr8_lo8 hr.1 (k2 i hi).2] at g6
    exact ⟨T6, some (.int (f i)), _, _, _, X6, rfl, rfl, rfl, (fun h => by cases h), ⟨rfl, q6.trans hh4⟩, fun fs hl => Steps.trans g6 (X6.ireturnOut hexec hret (narrow_ch hr.1 hr.2) (Or.inr (Or.inr (Or.inr (Or.inl rfl)))) (hb hbytes d15) hl)⟩
  · exact absurd k0 (by decide)
theorem pays {l : Launch} {R : Room} {p : Program} {e : Env} {below : List Frame} {s : State} {sargs : Array Value} {len W : Nat} (x t : Addr) (V : Cell) (n : Nat) (f : Nat → Int32) (z : Int32) (fm : Value) (i : Nat) (htab : tab.before sargs s = true) (hfr : 4 ≤ R.frames) (hlo : W + 53 ≤ R.locals) :
    Back l R p e below s sargs yN len W (fun A₁ a₁ => A₁.cells + 0 ≤ R.cells ∧ A₁.slots + 0 ≤ R.slots ∧ P x t V n f z fm i a₁ A₁.U) (fun A₁ _ v₁ B₁ => E f i v₁ A₁.U B₁.U ∧ B₁.locs = A₁.locs ++ [] ∧ B₁.cells = A₁.cells + 0 ∧ B₁.slots = A₁.slots + 0) :=
  (law l x t V n f z fm i).pays htab hfr (by omega)
end ChN
end StrChars
namespace StrChars.Road
open Jvm Sem ClassFile Op Lib Jvm.Stand Jvm.Free Jvm.Free.XT
open Jvm.Lib.Cold (StaticIs)
/-- the words of String.charAt(int), the Latin-1 road alone -/
abbrev wordsChN : List Jvm.Cond := [.code ChN.yN ChN.yB 2 (some .char), .initialized ST, .fieldLink ST 9 ST "value" "[B", .fieldLink ST 38 ST "COMPACT_STRINGS" "Z", .fieldLink ST 15 ST "coder" "B", .code IsL.yN IsL.yB 1 (some .boolean), .methodLink ST 492 IsL.yN, .declares IsL.yN, .selects ST IsL.yN IsL.yN, .instanceMethod IsL.yN,
  .methodLink ST 495 LChA.yN, .static LChA.yN, .code LChA.yN LChA.yB 2 (some .char), .initialized "java/lang/StringLatin1", .methodLink "java/lang/StringLatin1" 9 JO.Str_checkIndex.yN, .static JO.Str_checkIndex.yN, .code JO.Str_checkIndex.yN JO.Str_checkIndex.yB 2 none,
  .fieldLink ST 1053 "jdk/internal/util/Preconditions" "SIOOBE_FORMATTER" "Ljava/util/function/BiFunction;", .methodLink ST 1059 JC.PreCheck.yN, .static JC.PreCheck.yN, .code JC.PreCheck.yN JC.PreCheck.yB 3 (some .int), .initialized "jdk/internal/util/Preconditions"]
theorem tabChN_of {a : Array Value} {s : State} (h : ∀ w ∈ wordsChN, w.before a s = true) : ChN.tab.before a s = true := by
  have hp : JC.PreCheck.tab.before a s = true := unparts (wk h (.code JC.PreCheck.yN JC.PreCheck.yB 3 (some .int))) (wks h (.initialized JC.PreCheck.yN.cls :: JC.PreCheck.site))
  have qk := consq hp h
  have hk : JO.Str_checkIndex.tab.before a s = true := unparts (wk qk (.code JO.Str_checkIndex.yN JO.Str_checkIndex.yB 2 none)) (wks qk (.initialized JO.Str_checkIndex.yN.cls :: JO.Str_checkIndex.site))
  have ql := consq hk h
  have hl : LChA.tab.before a s = true := unparts (wk ql (.code LChA.yN LChA.yB 2 (some .char))) (wks ql (.initialized LChA.yN.cls :: LChA.site))
  have hi : IsL.tab.before a s = true := unparts (wk h (.code IsL.yN IsL.yB 1 (some .boolean))) (wks h (.initialized IsL.yN.cls :: IsL.site))
  have q := consq hi (consq hl h)
  exact unparts (wk q (.code ChN.yN ChN.yB 2 (some .char))) (wks q (.initialized ChN.yN.cls :: ChN.site))
theorem movedChN {Z s : State} {a0 args : Array Value} (hZ : Z.Warmed39 s.vm) (hw : ∀ d ∈ wordsChN, d.before a0 Z = true) : ∀ d ∈ wordsChN, d.before args s = true := fun d hd => by
  have t : ∀ d ∈ wordsChN, (d.onTables && d.keepsFace) = true := by decide +kernel
  exact RoadKit.mv hZ (hw d hd) (t d hd)
/-- **charAt(i) OF A LATIN-1 STRING**, i < n: the char -/
theorem chN {p : Program} {l : Launch} {e : Env} {R : Room} {s : State} {args : Array Value} {below : List Frame} {len W : Nat} {Z : State} {a0 : Array Value} {h : Heap} (hZ : Z.Warmed39 s.vm) (hw : ∀ d ∈ wordsChN, d.before a0 Z = true) {kI : Nat} (wi : (Jvm.Cond.instantiable ST kI).before a0 Z = true)
    {x t : Addr} {kb : ClassId} {cs : List Int32} {N2 z : Int32} {vs : List Value} {fm : Value} {i : Nat} {j : Int32} (E : RoadKit.Exa Z h x ST) (V : RoadKit.Fld Z h x ST "value" "[B" (.ref t)) (C : RoadKit.Fld Z h x ST "coder" "B" (.int 0)) (K : RoadKit.Arv Z h t kb .byte N2 vs (.int 0)) (hc : CodA cs 0 N2 vs) (hb : ∀ c ∈ cs, ¬ c < 0 ∧ ¬ (65535 : Int32) < c)
    (S : RoadKit.Sta Z h ST "COMPACT_STRINGS" "Z" (.int z)) (hz : ¬ z = 0) (F : RoadKit.Sta Z h "jdk/internal/util/Preconditions" "SIOOBE_FORMATTER" "Ljava/util/function/BiFunction;" fm) (rf : fm.isRef = true) (l2 : cs.length ≤ 4000) (hi : i < cs.length) (hj : j = Int32.ofNat i) (hfr : 4 ≤ R.frames) (hlo : W + 53 ≤ R.locals) :
    Back l R p e below s args (⟨"java/lang/String", "charAt", "(I)C"⟩ : MethodName) len W (fun P a => a = #[.ref x, .int j] ∧ P.U.heap = h ∧ P.cells + 0 ≤ R.cells ∧ P.slots + 0 ≤ R.slots)
      (fun P _ v B => ∃ L, (v = some (.int (cs.getD i 0)) ∧ L = [] ∧ B.U.heap = h) ∧ B.locs = P.locs ++ L ∧ B.cells = P.cells + 0 ∧ B.slots = P.slots + 0) := by
  subst hj
  intro m meth c P g ig mk a X hg hsize hdg hW hn hp'
  obtain ⟨rfl, rfl, r1, r2⟩ := hp'
  have al : Z.vm.Alike P.U.vm := hZ.alike.trans X.warmed.alike
  obtain ⟨A, hx⟩ := txt_of wi al E V C K hc hb l2
  obtain ⟨v, B, X', ⟨⟨hv, hh⟩, hl, hk, hs⟩, st⟩ := ChN.pays x t A cs.length (fun j => cs.getD j 0) z fm i (tabChN_of (movedChN hZ hw)) hfr hlo m meth c P g ig mk _ X hg hsize hdg hW hn ⟨r1, r2, rfl, hx, hi, sta_is al S, hz, sta_is al F, rf⟩
  exact ⟨v, B, X', ⟨[], ⟨hv, rfl, hh⟩, hl, hk, hs⟩, st⟩
/-- what backV says of its String, as the contracts of this text ask it: cs's low bytes, coder 0 -/
theorem codOf {cs : List Int32} {n : Nat} (hn : cs.length = n) (hb : ∀ c ∈ cs, ¬ 255 < c) : CodA cs 0 (Int32.ofNat n) ((cs.map lo8).map Value.int) := Or.inl ⟨rfl, by rw [hn], by simp [List.map_map, Function.comp_def], hb⟩
end StrChars.Road
end Jvm.Pilot.@@N@@
namespace Jvm.Pilot.@@N@@
open Jvm Jvm.ClassFile Sem Op Lib Jvm.Free Jvm.Stand Jvm.LawKit Jvm.RoadKit Bundle Jvm.OwnKit Jvm.Pilot.@@N@@.Jvm.D
/-! plain facts on ints -/
theorem own_and255 (x : Int32) : ∃ k : Nat, k < 256 ∧ x &&& 255 = Int32.ofNat k := by
  have e : (x &&& 255).toBitVec.toNat = x.toBitVec.toNat &&& 255 := by
    show (x.toBitVec &&& (255#32)).toNat = _
    rw [BitVec.toNat_and]; rfl
  refine ⟨x.toBitVec.toNat &&& 255, Nat.lt_of_le_of_lt Nat.and_le_right (by decide), ?_⟩
  apply Int32.toBitVec_inj.mp
  apply BitVec.eq_of_toNat_eq
  rw [e]
  show _ = (BitVec.ofNat 32 _).toNat
  rw [BitVec.toNat_ofNat, Nat.mod_eq_of_lt (Nat.lt_of_le_of_lt Nat.and_le_right (by decide))]
theorem own_ch (x : Int32) : nar .char ((x &&& (255 : Int32)).toUInt32.toUInt16.toUInt32.toInt32) = x &&& 255 := by
  show ((x &&& (255 : Int32)).toUInt32.toUInt16.toUInt32.toInt32).toUInt32.toUInt16.toUInt32.toInt32 = _
  rw [i2c_mask, i2c_mask]
theorem own_b255 (x : Int32) : ¬ (x &&& 255) < 0 ∧ ¬ (255 : Int32) < (x &&& 255) := by
  obtain ⟨k, hk, e⟩ := own_and255 x
  rw [e]
  have t : ∀ k : Fin 256, ¬ Int32.ofNat k.val < 0 ∧ ¬ (255 : Int32) < Int32.ofNat k.val := by decide +kernel
  exact t ⟨k, hk⟩
theorem own_ch255 (x : Int32) : ¬ nar .char ((x &&& (255 : Int32)).toUInt32.toUInt16.toUInt32.toInt32) < 0 ∧ ¬ (255 : Int32) < nar .char ((x &&& (255 : Int32)).toUInt32.toUInt16.toUInt32.toInt32) := by
  rw [own_ch]; exact own_b255 x
theorem own_nar_obj {n : String} {v : Value} (h : v.isRef = true) : narrow (.object n) v = v := by rcases ref_cases h with rfl | ⟨_, rfl⟩ <;> rfl
theorem own_fit_obj {n : String} {v : Value} (h : v.isRef = true) : fits (.object n) v = true := by rcases ref_cases h with rfl | ⟨_, rfl⟩ <;> rfl
theorem own_nar255 (x : Int32) : nar .char (x &&& (255 : Int32)) = x &&& 255 := by
  show (x &&& (255 : Int32)).toUInt32.toUInt16.toUInt32.toInt32 = _
  rw [i2c_mask]
theorem own_narc {c : Int32} (h : ¬ c < 0 ∧ ¬ (255 : Int32) < c) : nar .char c = c := by
  have e : c = c &&& 255 := by
    obtain ⟨k, hk⟩ : ∃ k : Fin 256, c = Int32.ofNat k.val := by
      have h1 := h.1; have h2 := h.2
      rw [Int32.lt_iff_toInt_lt] at h1 h2
      have e0 : (0 : Int32).toInt = 0 := rfl
      have e1 : (255 : Int32).toInt = 255 := rfl
      refine ⟨⟨c.toInt.toNat, by omega⟩, ?_⟩
      apply Int32.toInt_inj.mp
      show c.toInt = (Int32.ofNat c.toInt.toNat).toInt
      rw [Int32.toInt_ofNat_of_lt (by omega)]
      omega
    subst hk
    have t : ∀ k : Fin 256, Int32.ofNat k.val = Int32.ofNat k.val &&& 255 := by decide +kernel
    exact t k
  rw [e]; exact own_nar255 c
theorem own_i2c {c : Int32} (h : ¬ c < 0 ∧ ¬ (255 : Int32) < c) : c.toUInt32.toUInt16.toUInt32.toInt32 = c := own_narc h
theorem own_andk (x : Int32) (m : Nat) (hm : m < 2147483648) : ∃ k : Nat, k ≤ m ∧ x &&& Int32.ofNat m = Int32.ofNat k := by
  have e : (x &&& Int32.ofNat m).toBitVec.toNat = x.toBitVec.toNat &&& m := by
    show (x.toBitVec &&& BitVec.ofNat 32 m).toNat = _
    rw [BitVec.toNat_and, BitVec.toNat_ofNat, Nat.mod_eq_of_lt (by omega)]
  refine ⟨x.toBitVec.toNat &&& m, Nat.and_le_right, ?_⟩
  apply Int32.toBitVec_inj.mp
  apply BitVec.eq_of_toNat_eq
  rw [e]
  show _ = (BitVec.ofNat 32 _).toNat
  rw [BitVec.toNat_ofNat, Nat.mod_eq_of_lt (Nat.lt_of_le_of_lt Nat.and_le_right (by omega))]
theorem own_and3 (x : Int32) : x &&& (3 : Int32) = 0 ∨ x &&& (3 : Int32) = 1 ∨ x &&& (3 : Int32) = 2 ∨ x &&& (3 : Int32) = 3 := by
  obtain ⟨k, hk, e⟩ := own_andk x 3 (by decide)
  have e' : x &&& (3 : Int32) = Int32.ofNat k := e
  rw [e']
  have t : ∀ k : Fin 4, Int32.ofNat k.val = 0 ∨ Int32.ofNat k.val = 1 ∨ Int32.ofNat k.val = 2 ∨ Int32.ofNat k.val = 3 := by decide
  exact t ⟨k, by omega⟩
theorem own_rem3 (x : Int32) : (x &&& (3 : Int32)) - (x &&& (3 : Int32)) / 3 * 3 = 0 ∨ (x &&& (3 : Int32)) - (x &&& (3 : Int32)) / 3 * 3 = 1 ∨ (x &&& (3 : Int32)) - (x &&& (3 : Int32)) / 3 * 3 = 2 := by
  rcases own_and3 x with e | e | e | e <;> rw [e] <;> decide
/-- the chars of mk(n, c0, c1) -/
def own_cs (n c0 c1 : Int32) : List Int32 := if n = 0 then [] else if n = 1 then [c0] else [c0, c1]
theorem own_acmp_ne {v : Value} (h : v.isRef = true) : Jvm.Free.XT.acmp .ne v v = false := by simp [Jvm.Free.XT.acmp]
theorem own_acmp_eq {v : Value} (h : v.isRef = true) : Jvm.Free.XT.acmp .eq v v = true := by simp [Jvm.Free.XT.acmp]
theorem own_narb (x : Int32) : nar .byte (x.toInt8.toInt32) = x.toInt8.toInt32 := by
  show x.toInt8.toInt32.toInt8.toInt32 = _
  rw [Int8.toInt8_toInt32]
/-- the chars of mk(n, c0, c1, c2) -/
def own_cs4 (n c0 c1 c2 : Int32) : List Int32 := if n = 0 then [] else if n = 1 then [c0] else if n = 2 then [c0, c1] else [c0, c1, c2]
theorem own_rem (x m d : Int32) (hm : 0 ≤ m.toInt) (hd : 0 < d.toInt) : 0 ≤ ((x &&& m) - (x &&& m) / d * d).toInt ∧ ((x &&& m) - (x &&& m) / d * d).toInt < d.toInt := by
  rw [irem_eq_mod]
  have h1 := (c_and x m hm).1
  rw [(c_irem (x &&& m) d _ rfl).1 h1]
  exact ⟨Int.emod_nonneg _ (by omega), Int.emod_lt_of_pos _ hd⟩
theorem own_enum3 {r : Int32} (h : 0 ≤ r.toInt ∧ r.toInt < (3 : Int32).toInt) : r = 0 ∨ r = 1 ∨ r = 2 := by
  have e3 : (3 : Int32).toInt = 3 := rfl
  have : r.toInt = 0 ∨ r.toInt = 1 ∨ r.toInt = 2 := by omega
  rcases this with e | e | e
  · exact Or.inl (Int32.toInt_inj.mp e)
  · exact Or.inr (Or.inl (Int32.toInt_inj.mp e))
  · exact Or.inr (Or.inr (Int32.toInt_inj.mp e))
theorem own_enum5 {r : Int32} (h : 0 ≤ r.toInt ∧ r.toInt < (5 : Int32).toInt) : r = 0 ∨ r = 1 ∨ r = 2 ∨ r = 3 ∨ r = 4 := by
  have e3 : (5 : Int32).toInt = 5 := rfl
  have : r.toInt = 0 ∨ r.toInt = 1 ∨ r.toInt = 2 ∨ r.toInt = 3 ∨ r.toInt = 4 := by omega
  rcases this with e | e | e | e | e
  · exact Or.inl (Int32.toInt_inj.mp e)
  · exact Or.inr (Or.inl (Int32.toInt_inj.mp e))
  · exact Or.inr (Or.inr (Or.inl (Int32.toInt_inj.mp e)))
  · exact Or.inr (Or.inr (Or.inr (Or.inl (Int32.toInt_inj.mp e))))
  · exact Or.inr (Or.inr (Or.inr (Or.inr (Int32.toInt_inj.mp e))))
theorem own_enum6 {r : Int32} (h : 0 ≤ r.toInt ∧ r.toInt < (6 : Int32).toInt) : r = 0 ∨ r = 1 ∨ r = 2 ∨ r = 3 ∨ r = 4 ∨ r = 5 := by
  have e3 : (6 : Int32).toInt = 6 := rfl
  have : r.toInt = 0 ∨ r.toInt = 1 ∨ r.toInt = 2 ∨ r.toInt = 3 ∨ r.toInt = 4 ∨ r.toInt = 5 := by omega
  rcases this with e | e | e | e | e | e
  · exact Or.inl (Int32.toInt_inj.mp e)
  · exact Or.inr (Or.inl (Int32.toInt_inj.mp e))
  · exact Or.inr (Or.inr (Or.inl (Int32.toInt_inj.mp e)))
  · exact Or.inr (Or.inr (Or.inr (Or.inl (Int32.toInt_inj.mp e))))
  · exact Or.inr (Or.inr (Or.inr (Or.inr (Or.inl (Int32.toInt_inj.mp e)))))
  · exact Or.inr (Or.inr (Or.inr (Or.inr (Or.inr (Int32.toInt_inj.mp e)))))
theorem own_fldstart {Z : State} {args : Array Value} {t : Term} {a : Addr} {C n d : String} {k : Int32} (ev : t.eval args Z none [] Z = some (.ref a)) (h : (Jvm.Cond.eq (.field t C n d) (.int k)).value args Z none Z [] = some true) : Fld Z Z.heap a C n d (.int k) := by
  have h2 := Cond.eq_int (first := Z) (t := Z) (args := args) (Cond.before_iff.mpr h) rfl
  rw [fld_at ev] at h2
  exact Fld.start h2
theorem own_up {cs : List Int32} (hp : ∀ c ∈ cs, ¬ c < 0 ∧ ¬ (255 : Int32) < c) : ∀ c ∈ cs, ¬ c < 0 ∧ ¬ (65535 : Int32) < c := fun c hc => ⟨(hp c hc).1, fun q => (hp c hc).2 (Int32.lt_trans (by decide) q)⟩
theorem own_n10 : ¬ ((1 : Int32) = 0) := by decide
theorem own_n20 : ¬ ((2 : Int32) = 0) := by decide
theorem own_n21 : ¬ ((2 : Int32) = 1) := by decide
theorem own_n30 : ¬ ((3 : Int32) = 0) := by decide
theorem own_n31 : ¬ ((3 : Int32) = 1) := by decide
theorem own_n32 : ¬ ((3 : Int32) = 2) := by decide
theorem own_bite {P : Prop} [Decidable P] {a b : Int32} (ha : ¬ a < 0 ∧ ¬ (255 : Int32) < a) (hb : ¬ b < 0 ∧ ¬ (255 : Int32) < b) : ¬ (if P then a else b) < 0 ∧ ¬ (255 : Int32) < (if P then a else b) := by
  by_cases h : P
  · rw [if_pos h]; exact ha
  · rw [if_neg h]; exact hb
theorem own_ite4 {P : Prop} [Decidable P] {a b : Int32} (ha : a = 0 ∨ a = 1 ∨ a = 2 ∨ a = 3) (hb : b = 0 ∨ b = 1 ∨ b = 2 ∨ b = 3) : (if P then a else b) = 0 ∨ (if P then a else b) = 1 ∨ (if P then a else b) = 2 ∨ (if P then a else b) = 3 := by
  by_cases h : P
  · rw [if_pos h]; exact ha
  · rw [if_neg h]; exact hb
theorem own_newP {p : Program} {l : Launch} {e : Env} {R : Room} {s : State} {args : Array Value} {below : List Frame} {len W : Nat} {Z : State} {a0 : Array Value} {h : Heap} (hws : ∀ d ∈ StrChars.Road.words, d.before a0 Z = true) {kI : Nat} (wi : (Jvm.Cond.instantiable "java/lang/String" kI).before a0 Z = true) {x b : Addr} {kC : ClassId} {cs : List Int32} {d v0 c0 : Value} {N : Int32} {n : Nat} (hx0 : Z.heap.size ≤ x) (hO : Ext Z.heap h) (E : Exa Z h x "java/lang/String") (V : Fld Z h x "java/lang/String" "value" "[B" v0) (C : Fld Z h x "java/lang/String" "coder" "B" c0) (K : Arv Z h b kC .char N (cs.map Value.int) d) {G1 : Int32} (O2 : Sta Z Z.heap "java/lang/String" "COMPACT_STRINGS" "Z" (.int G1)) (P5 : ¬ G1 = 0)
    (hn : cs.length = n) (hN : N = Int32.ofNat n) (l0 : 0 < n) (l2 : n ≤ 4000) (hp : ∀ c ∈ cs, ¬ c < 0 ∧ ¬ (255 : Int32) < c) (hfr : 4 ≤ R.frames) (hlo : W + 65 ≤ R.locals) :
    Pays l R p e below s args Z (⟨"java/lang/String", "<init>", "([C)V"⟩ : MethodName) len W #[.ref x, .ref b] h 1 n (fun v h' L => v = none ∧ Fr Z.heap.size L ∧ Keep h h' [x] ∧ LStr Z h' x cs) := by
  subst hn hN
  intro vm0 hv
  refine Back.mono (StrChars.Road.backV (s := s.setVm vm0) (W := W) hv hws wi (bs := cs.map fun c => c.toInt8.toInt32) (n0 := Z.heap.size) hx0 hO.1 E V C K (O2.ext hO) P5 rfl rfl l0 l2 hp rfl hfr hlo) (fun _ _ q => q) (fun P a v B _ q => ?_)
  obtain ⟨L, ⟨q1, q2, q3, q4, q5, t, kb, -, -, -, q6, q7⟩, r⟩ := q
  exact ⟨L, ⟨q1, q2, q3, q4, q5, ⟨t, kb, q6, q7⟩, hp, l2⟩, r⟩
theorem own_lenP {p : Program} {l : Launch} {e : Env} {R : Room} {s : State} {args : Array Value} {below : List Frame} {len W : Nat} {Z : State} {a0 : Array Value} {h : Heap} (hws : ∀ d ∈ StrChars.Road.wordsLen, d.before a0 Z = true) {kI : Nat} (wi : (Jvm.Cond.instantiable "java/lang/String" kI).before a0 Z = true) {x : Addr} {cs : List Int32} (S : LStr Z h x cs) {G1 : Int32} (O2 : Sta Z Z.heap "java/lang/String" "COMPACT_STRINGS" "Z" (.int G1)) (P5 : ¬ G1 = 0) (hO : Ext Z.heap h) (hfr : 2 ≤ R.frames) (hlo : W + 25 ≤ R.locals) :
    Pays l R p e below s args Z (⟨"java/lang/String", "length", "()I"⟩ : MethodName) len W #[.ref x] h 0 0 (fun v h' L => v = some (.int (Int32.ofNat cs.length)) ∧ L = [] ∧ h' = h) := by
  obtain ⟨Es, Cs, ⟨t, kb, Vs, Ks⟩, hp, hl⟩ := S
  exact fun vm0 hv => StrChars.Road.lenW (s := s.setVm vm0) (W := W) hv hws wi Es Vs Cs Ks (StrChars.Road.codOf rfl (fun c hc => (hp c hc).2)) (own_up hp) (O2.ext hO) P5 hl hfr hlo
theorem own_chP {p : Program} {l : Launch} {e : Env} {R : Room} {s : State} {args : Array Value} {below : List Frame} {len W : Nat} {Z : State} {a0 : Array Value} {h : Heap} (hws : ∀ d ∈ StrChars.Road.wordsChN, d.before a0 Z = true) {kI : Nat} (wi : (Jvm.Cond.instantiable "java/lang/String" kI).before a0 Z = true) {x : Addr} {cs : List Int32} (S : LStr Z h x cs) {G1 : Int32} (O2 : Sta Z Z.heap "java/lang/String" "COMPACT_STRINGS" "Z" (.int G1)) (P5 : ¬ G1 = 0) (hO : Ext Z.heap h) {G3 : Value} (O4 : Sta Z Z.heap "jdk/internal/util/Preconditions" "SIOOBE_FORMATTER" "Ljava/util/function/BiFunction;" G3) (rG3 : G3.isRef = true) {i : Nat} {j : Int32} (hi : i < cs.length) (hj : j = Int32.ofNat i) (hfr : 4 ≤ R.frames) (hlo : W + 53 ≤ R.locals) :
    Pays l R p e below s args Z (⟨"java/lang/String", "charAt", "(I)C"⟩ : MethodName) len W #[.ref x, .int j] h 0 0 (fun v h' L => v = some (.int (cs.getD i 0)) ∧ L = [] ∧ h' = h) := by
  obtain ⟨Es, Cs, ⟨t, kb, Vs, Ks⟩, hp, hl⟩ := S
  exact fun vm0 hv => StrChars.Road.chN (s := s.setVm vm0) (W := W) hv hws wi Es Vs Cs Ks (StrChars.Road.codOf rfl (fun c hc => (hp c hc).2)) (own_up hp) (O2.ext hO) P5 (O4.ext hO) rG3 hl hi hj hfr hlo
theorem w_0 {Z : State} {a0 : Array Value} (hw : ∀ d ∈ tables_1, d.before a0 Z = true) : (Jvm.Cond.methodLink "com/example/relaywright/relaywright/outbox/EventIdsEncodePinLaw" (7 : Nat) ({ cls := "com/example/relaywright/relaywright/outbox/EventIds", name := "encode", desc := "(JJJ)Ljava/lang/String;" } : Jvm.MethodName)).before a0 Z = true := hw _ (List.mem_of_getElem? (i := 0) rfl)
theorem w_1 {Z : State} {a0 : Array Value} (hw : ∀ d ∈ tables_1, d.before a0 Z = true) : (Jvm.Cond.static ({ cls := "com/example/relaywright/relaywright/outbox/EventIds", name := "encode", desc := "(JJJ)Ljava/lang/String;" } : Jvm.MethodName)).before a0 Z = true := hw _ (List.mem_of_getElem? (i := 1) rfl)
theorem w_2 {Z : State} {a0 : Array Value} (hw : ∀ d ∈ tables_1, d.before a0 Z = true) : (Jvm.Cond.initialized "com/example/relaywright/relaywright/outbox/EventIds").before a0 Z = true := hw _ (List.mem_of_getElem? (i := 2) rfl)
theorem w_3 {Z : State} {a0 : Array Value} (hw : ∀ d ∈ tables_1, d.before a0 Z = true) : (Jvm.Cond.code ({ cls := "com/example/relaywright/relaywright/outbox/EventIds", name := "encode", desc := "(JJJ)Ljava/lang/String;" } : Jvm.MethodName) prog_16_method_4_code (15 : Nat) (Option.some (Jvm.ClassFile.FieldType.object "java/lang/String"))).before a0 Z = true := hw _ (List.mem_of_getElem? (i := 3) rfl)
theorem w_4 {Z : State} {a0 : Array Value} (hw : ∀ d ∈ tables_1, d.before a0 Z = true) : (Jvm.Cond.arrayClass Jvm.ClassFile.FieldType.char).before a0 Z = true := hw _ (List.mem_of_getElem? (i := 4) rfl)
theorem w_5 {Z : State} {a0 : Array Value} (hw : ∀ d ∈ tables_1, d.before a0 Z = true) : (Jvm.Cond.constantLong "com/example/relaywright/relaywright/outbox/EventIds" (51 : Nat) (281474976710655 : Int64)).before a0 Z = true := hw _ (List.mem_of_getElem? (i := 5) rfl)
theorem w_6 {Z : State} {a0 : Array Value} (hw : ∀ d ∈ tables_1, d.before a0 Z = true) : (Jvm.Cond.fieldLink "com/example/relaywright/relaywright/outbox/EventIds" (53 : Nat) "com/example/relaywright/relaywright/outbox/EventIds" "ALPHABET" "[C").before a0 Z = true := hw _ (List.mem_of_getElem? (i := 6) rfl)
theorem w_7 {Z : State} {a0 : Array Value} (hw : ∀ d ∈ tables_1, d.before a0 Z = true) : (Jvm.Cond.laysStatic "com/example/relaywright/relaywright/outbox/EventIds" "ALPHABET" "[C").before a0 Z = true := hw _ (List.mem_of_getElem? (i := 7) rfl)
theorem w_8 {Z : State} {a0 : Array Value} (hw : ∀ d ∈ tables_1, d.before a0 Z = true) : (Jvm.Cond.constantLong "com/example/relaywright/relaywright/outbox/EventIds" (36 : Nat) (65535 : Int64)).before a0 Z = true := hw _ (List.mem_of_getElem? (i := 8) rfl)
theorem w_9 {Z : State} {a0 : Array Value} (hw : ∀ d ∈ tables_1, d.before a0 Z = true) : (Jvm.Cond.classLink "com/example/relaywright/relaywright/outbox/EventIds" (57 : Nat) "java/lang/String").before a0 Z = true := hw _ (List.mem_of_getElem? (i := 9) rfl)
theorem w_10 {Z : State} {a0 : Array Value} (hw : ∀ d ∈ tables_1, d.before a0 Z = true) : (Jvm.Cond.instantiable "java/lang/String" (4 : Nat)).before a0 Z = true := hw _ (List.mem_of_getElem? (i := 10) rfl)
theorem w_11 {Z : State} {a0 : Array Value} (hw : ∀ d ∈ tables_1, d.before a0 Z = true) : (Jvm.Cond.initialized "java/lang/String").before a0 Z = true := hw _ (List.mem_of_getElem? (i := 11) rfl)
theorem w_12 {Z : State} {a0 : Array Value} (hw : ∀ d ∈ tables_1, d.before a0 Z = true) : (Jvm.Cond.methodLink "com/example/relaywright/relaywright/outbox/EventIds" (59 : Nat) ({ cls := "java/lang/String", name := "<init>", desc := "([C)V" } : Jvm.MethodName)).before a0 Z = true := hw _ (List.mem_of_getElem? (i := 12) rfl)
theorem w_13 {Z : State} {a0 : Array Value} (hw : ∀ d ∈ tables_1, d.before a0 Z = true) : (Jvm.Cond.instanceMethod ({ cls := "java/lang/String", name := "<init>", desc := "([C)V" } : Jvm.MethodName)).before a0 Z = true := hw _ (List.mem_of_getElem? (i := 13) rfl)
theorem w_14 {Z : State} {a0 : Array Value} (hw : ∀ d ∈ tables_1, d.before a0 Z = true) : (Jvm.Cond.code ({ cls := "java/lang/String", name := "<init>", desc := "([C)V" } : Jvm.MethodName) jdk_42_method_3_code (2 : Nat) (Option.none : Option Jvm.ClassFile.FieldType)).before a0 Z = true := hw _ (List.mem_of_getElem? (i := 14) rfl)
theorem w_35 {Z : State} {a0 : Array Value} (hw : ∀ d ∈ tables_1, d.before a0 Z = true) : (Jvm.Cond.laysFinal "java/lang/String" "java/lang/String" "coder" "B").before a0 Z = true := hw _ (List.mem_of_getElem? (i := 35) rfl)
theorem w_37 {Z : State} {a0 : Array Value} (hw : ∀ d ∈ tables_1, d.before a0 Z = true) : (Jvm.Cond.laysFinal "java/lang/String" "java/lang/String" "value" "[B").before a0 Z = true := hw _ (List.mem_of_getElem? (i := 37) rfl)
theorem w_38 {Z : State} {a0 : Array Value} (hw : ∀ d ∈ tables_1, d.before a0 Z = true) : (Jvm.Cond.methodLink "com/example/relaywright/relaywright/outbox/EventIdsEncodePinLaw" (13 : Nat) ({ cls := "java/lang/String", name := "length", desc := "()I" } : Jvm.MethodName)).before a0 Z = true := hw _ (List.mem_of_getElem? (i := 38) rfl)
theorem w_39 {Z : State} {a0 : Array Value} (hw : ∀ d ∈ tables_1, d.before a0 Z = true) : (Jvm.Cond.declares ({ cls := "java/lang/String", name := "length", desc := "()I" } : Jvm.MethodName)).before a0 Z = true := hw _ (List.mem_of_getElem? (i := 39) rfl)
theorem w_40 {Z : State} {a0 : Array Value} (hw : ∀ d ∈ tables_1, d.before a0 Z = true) : (Jvm.Cond.instanceMethod ({ cls := "java/lang/String", name := "length", desc := "()I" } : Jvm.MethodName)).before a0 Z = true := hw _ (List.mem_of_getElem? (i := 40) rfl)
theorem w_41 {Z : State} {a0 : Array Value} (hw : ∀ d ∈ tables_1, d.before a0 Z = true) : (Jvm.Cond.selects "java/lang/String" ({ cls := "java/lang/String", name := "length", desc := "()I" } : Jvm.MethodName) ({ cls := "java/lang/String", name := "length", desc := "()I" } : Jvm.MethodName)).before a0 Z = true := hw _ (List.mem_of_getElem? (i := 41) rfl)
theorem w_48 {Z : State} {a0 : Array Value} (hw : ∀ d ∈ tables_1, d.before a0 Z = true) : (Jvm.Cond.constant "com/example/relaywright/relaywright/outbox/EventIdsEncodePinLaw" (19 : Nat) (2147483647 : Int32)).before a0 Z = true := hw _ (List.mem_of_getElem? (i := 48) rfl)
theorem w_49 {Z : State} {a0 : Array Value} (hw : ∀ d ∈ tables_1, d.before a0 Z = true) : (Jvm.Cond.methodLink "com/example/relaywright/relaywright/outbox/EventIdsEncodePinLaw" (20 : Nat) ({ cls := "com/example/relaywright/relaywright/outbox/EventIdsEncodePinLaw", name := "bit", desc := "(JJJI)J" } : Jvm.MethodName)).before a0 Z = true := hw _ (List.mem_of_getElem? (i := 49) rfl)
theorem w_50 {Z : State} {a0 : Array Value} (hw : ∀ d ∈ tables_1, d.before a0 Z = true) : (Jvm.Cond.static ({ cls := "com/example/relaywright/relaywright/outbox/EventIdsEncodePinLaw", name := "bit", desc := "(JJJI)J" } : Jvm.MethodName)).before a0 Z = true := hw _ (List.mem_of_getElem? (i := 50) rfl)
theorem w_51 {Z : State} {a0 : Array Value} (hw : ∀ d ∈ tables_1, d.before a0 Z = true) : (Jvm.Cond.initialized "com/example/relaywright/relaywright/outbox/EventIdsEncodePinLaw").before a0 Z = true := hw _ (List.mem_of_getElem? (i := 51) rfl)
theorem w_52 {Z : State} {a0 : Array Value} (hw : ∀ d ∈ tables_1, d.before a0 Z = true) : (Jvm.Cond.code ({ cls := "com/example/relaywright/relaywright/outbox/EventIdsEncodePinLaw", name := "bit", desc := "(JJJI)J" } : Jvm.MethodName) method_2_code (7 : Nat) (Option.some Jvm.ClassFile.FieldType.long)).before a0 Z = true := hw _ (List.mem_of_getElem? (i := 52) rfl)
theorem w_53 {Z : State} {a0 : Array Value} (hw : ∀ d ∈ tables_1, d.before a0 Z = true) : (Jvm.Cond.methodLink "com/example/relaywright/relaywright/outbox/EventIdsEncodePinLaw" (26 : Nat) ({ cls := "java/lang/String", name := "charAt", desc := "(I)C" } : Jvm.MethodName)).before a0 Z = true := hw _ (List.mem_of_getElem? (i := 53) rfl)
theorem w_54 {Z : State} {a0 : Array Value} (hw : ∀ d ∈ tables_1, d.before a0 Z = true) : (Jvm.Cond.declares ({ cls := "java/lang/String", name := "charAt", desc := "(I)C" } : Jvm.MethodName)).before a0 Z = true := hw _ (List.mem_of_getElem? (i := 54) rfl)
theorem w_55 {Z : State} {a0 : Array Value} (hw : ∀ d ∈ tables_1, d.before a0 Z = true) : (Jvm.Cond.instanceMethod ({ cls := "java/lang/String", name := "charAt", desc := "(I)C" } : Jvm.MethodName)).before a0 Z = true := hw _ (List.mem_of_getElem? (i := 55) rfl)
theorem w_56 {Z : State} {a0 : Array Value} (hw : ∀ d ∈ tables_1, d.before a0 Z = true) : (Jvm.Cond.selects "java/lang/String" ({ cls := "java/lang/String", name := "charAt", desc := "(I)C" } : Jvm.MethodName) ({ cls := "java/lang/String", name := "charAt", desc := "(I)C" } : Jvm.MethodName)).before a0 Z = true := hw _ (List.mem_of_getElem? (i := 56) rfl)
theorem w_75 {Z : State} {a0 : Array Value} (hw : ∀ d ∈ tables_1, d.before a0 Z = true) : (Jvm.Cond.methodLink "com/example/relaywright/relaywright/outbox/EventIdsEncodePinLaw" (30 : Nat) ({ cls := "com/example/relaywright/relaywright/outbox/EventIdsEncodePinLaw", name := "sym", desc := "(I)C" } : Jvm.MethodName)).before a0 Z = true := hw _ (List.mem_of_getElem? (i := 75) rfl)
theorem w_76 {Z : State} {a0 : Array Value} (hw : ∀ d ∈ tables_1, d.before a0 Z = true) : (Jvm.Cond.static ({ cls := "com/example/relaywright/relaywright/outbox/EventIdsEncodePinLaw", name := "sym", desc := "(I)C" } : Jvm.MethodName)).before a0 Z = true := hw _ (List.mem_of_getElem? (i := 76) rfl)
theorem w_77 {Z : State} {a0 : Array Value} (hw : ∀ d ∈ tables_1, d.before a0 Z = true) : (Jvm.Cond.code ({ cls := "com/example/relaywright/relaywright/outbox/EventIdsEncodePinLaw", name := "sym", desc := "(I)C" } : Jvm.MethodName) method_3_code (1 : Nat) (Option.some Jvm.ClassFile.FieldType.char)).before a0 Z = true := hw _ (List.mem_of_getElem? (i := 77) rfl)
theorem d_prog_16_method_4_0 : decode prog_16_method_4_code 0 = .ok (.bipush 26, 2) := by decide +kernel
theorem d_prog_16_method_4_2 : decode prog_16_method_4_code 2 = .ok (.newarray .char, 2) := by decide +kernel
theorem d_prog_16_method_4_4 : decode prog_16_method_4_code 4 = .ok (.astore 6, 2) := by decide +kernel
theorem d_prog_16_method_4_6 : decode prog_16_method_4_code 6 = .ok (.lload_n 0, 1) := by decide +kernel
theorem d_prog_16_method_4_7 : decode prog_16_method_4_code 7 = .ok (.ldc2_w 51, 3) := by decide +kernel
theorem d_prog_16_method_4_10 : decode prog_16_method_4_code 10 = .ok (.land, 1) := by decide +kernel
theorem d_prog_16_method_4_11 : decode prog_16_method_4_code 11 = .ok (.lstore 7, 2) := by decide +kernel
theorem d_prog_16_method_4_13 : decode prog_16_method_4_code 13 = .ok (.iconst 0, 1) := by decide +kernel
theorem d_prog_16_method_4_14 : decode prog_16_method_4_code 14 = .ok (.istore 9, 2) := by decide +kernel
theorem d_prog_16_method_4_16 : decode prog_16_method_4_code 16 = .ok (.iload 9, 2) := by decide +kernel
theorem d_prog_16_method_4_18 : decode prog_16_method_4_code 18 = .ok (.bipush 10, 2) := by decide +kernel
theorem d_prog_16_method_4_20 : decode prog_16_method_4_code 20 = .ok (.if_icmp .ge 36, 3) := by decide +kernel
theorem d_prog_16_method_4_23 : decode prog_16_method_4_code 23 = .ok (.iconst 5, 1) := by decide +kernel
theorem d_prog_16_method_4_24 : decode prog_16_method_4_code 24 = .ok (.bipush 9, 2) := by decide +kernel
theorem d_prog_16_method_4_26 : decode prog_16_method_4_code 26 = .ok (.iload 9, 2) := by decide +kernel
theorem d_prog_16_method_4_28 : decode prog_16_method_4_code 28 = .ok (.isub, 1) := by decide +kernel
theorem d_prog_16_method_4_29 : decode prog_16_method_4_code 29 = .ok (.imul, 1) := by decide +kernel
theorem d_prog_16_method_4_30 : decode prog_16_method_4_code 30 = .ok (.istore 10, 2) := by decide +kernel
theorem d_prog_16_method_4_32 : decode prog_16_method_4_code 32 = .ok (.aload 6, 2) := by decide +kernel
theorem d_prog_16_method_4_34 : decode prog_16_method_4_code 34 = .ok (.iload 9, 2) := by decide +kernel
theorem d_prog_16_method_4_36 : decode prog_16_method_4_code 36 = .ok (.getstatic 53, 3) := by decide +kernel
theorem d_prog_16_method_4_39 : decode prog_16_method_4_code 39 = .ok (.lload 7, 2) := by decide +kernel
theorem d_prog_16_method_4_41 : decode prog_16_method_4_code 41 = .ok (.iload 10, 2) := by decide +kernel
theorem d_prog_16_method_4_43 : decode prog_16_method_4_code 43 = .ok (.lushr, 1) := by decide +kernel
theorem d_prog_16_method_4_44 : decode prog_16_method_4_code 44 = .ok (.l2i, 1) := by decide +kernel
theorem d_prog_16_method_4_45 : decode prog_16_method_4_code 45 = .ok (.bipush 31, 2) := by decide +kernel
theorem d_prog_16_method_4_47 : decode prog_16_method_4_code 47 = .ok (.iand, 1) := by decide +kernel
theorem d_prog_16_method_4_48 : decode prog_16_method_4_code 48 = .ok (.caload, 1) := by decide +kernel
theorem d_prog_16_method_4_49 : decode prog_16_method_4_code 49 = .ok (.castore, 1) := by decide +kernel
theorem d_prog_16_method_4_50 : decode prog_16_method_4_code 50 = .ok (.iinc 9 1, 3) := by decide +kernel
theorem d_prog_16_method_4_53 : decode prog_16_method_4_code 53 = .ok (.goto (-37), 3) := by decide +kernel
theorem d_prog_16_method_4_56 : decode prog_16_method_4_code 56 = .ok (.lload_n 2, 1) := by decide +kernel
theorem d_prog_16_method_4_57 : decode prog_16_method_4_code 57 = .ok (.ldc2_w 36, 3) := by decide +kernel
theorem d_prog_16_method_4_60 : decode prog_16_method_4_code 60 = .ok (.land, 1) := by decide +kernel
theorem d_prog_16_method_4_61 : decode prog_16_method_4_code 61 = .ok (.lstore 9, 2) := by decide +kernel
theorem d_prog_16_method_4_63 : decode prog_16_method_4_code 63 = .ok (.bipush 10, 2) := by decide +kernel
theorem d_prog_16_method_4_65 : decode prog_16_method_4_code 65 = .ok (.istore 11, 2) := by decide +kernel
theorem d_prog_16_method_4_67 : decode prog_16_method_4_code 67 = .ok (.iload 11, 2) := by decide +kernel
theorem d_prog_16_method_4_69 : decode prog_16_method_4_code 69 = .ok (.bipush 26, 2) := by decide +kernel
theorem d_prog_16_method_4_71 : decode prog_16_method_4_code 71 = .ok (.if_icmp .ge 86, 3) := by decide +kernel
theorem d_prog_16_method_4_74 : decode prog_16_method_4_code 74 = .ok (.iconst 5, 1) := by decide +kernel
theorem d_prog_16_method_4_75 : decode prog_16_method_4_code 75 = .ok (.bipush 25, 2) := by decide +kernel
theorem d_prog_16_method_4_77 : decode prog_16_method_4_code 77 = .ok (.iload 11, 2) := by decide +kernel
theorem d_prog_16_method_4_79 : decode prog_16_method_4_code 79 = .ok (.isub, 1) := by decide +kernel
theorem d_prog_16_method_4_80 : decode prog_16_method_4_code 80 = .ok (.imul, 1) := by decide +kernel
theorem d_prog_16_method_4_81 : decode prog_16_method_4_code 81 = .ok (.istore 12, 2) := by decide +kernel
theorem d_prog_16_method_4_83 : decode prog_16_method_4_code 83 = .ok (.iload 12, 2) := by decide +kernel
theorem d_prog_16_method_4_85 : decode prog_16_method_4_code 85 = .ok (.bipush 64, 2) := by decide +kernel
theorem d_prog_16_method_4_87 : decode prog_16_method_4_code 87 = .ok (.if_icmp .lt 16, 3) := by decide +kernel
theorem d_prog_16_method_4_90 : decode prog_16_method_4_code 90 = .ok (.lload 9, 2) := by decide +kernel
theorem d_prog_16_method_4_92 : decode prog_16_method_4_code 92 = .ok (.iload 12, 2) := by decide +kernel
theorem d_prog_16_method_4_94 : decode prog_16_method_4_code 94 = .ok (.bipush 64, 2) := by decide +kernel
theorem d_prog_16_method_4_96 : decode prog_16_method_4_code 96 = .ok (.isub, 1) := by decide +kernel
theorem d_prog_16_method_4_97 : decode prog_16_method_4_code 97 = .ok (.lushr, 1) := by decide +kernel
theorem d_prog_16_method_4_98 : decode prog_16_method_4_code 98 = .ok (.lstore 13, 2) := by decide +kernel
theorem d_prog_16_method_4_100 : decode prog_16_method_4_code 100 = .ok (.goto 36, 3) := by decide +kernel
theorem d_prog_16_method_4_136 : decode prog_16_method_4_code 136 = .ok (.aload 6, 2) := by decide +kernel
theorem d_prog_16_method_4_138 : decode prog_16_method_4_code 138 = .ok (.iload 11, 2) := by decide +kernel
theorem d_prog_16_method_4_140 : decode prog_16_method_4_code 140 = .ok (.getstatic 53, 3) := by decide +kernel
theorem d_prog_16_method_4_143 : decode prog_16_method_4_code 143 = .ok (.lload 13, 2) := by decide +kernel
theorem d_prog_16_method_4_145 : decode prog_16_method_4_code 145 = .ok (.l2i, 1) := by decide +kernel
theorem d_prog_16_method_4_146 : decode prog_16_method_4_code 146 = .ok (.bipush 31, 2) := by decide +kernel
theorem d_prog_16_method_4_148 : decode prog_16_method_4_code 148 = .ok (.iand, 1) := by decide +kernel
theorem d_prog_16_method_4_149 : decode prog_16_method_4_code 149 = .ok (.caload, 1) := by decide +kernel
theorem d_prog_16_method_4_150 : decode prog_16_method_4_code 150 = .ok (.castore, 1) := by decide +kernel
theorem d_prog_16_method_4_151 : decode prog_16_method_4_code 151 = .ok (.iinc 11 1, 3) := by decide +kernel
theorem d_prog_16_method_4_154 : decode prog_16_method_4_code 154 = .ok (.goto (-87), 3) := by decide +kernel
theorem d_prog_16_method_4_103 : decode prog_16_method_4_code 103 = .ok (.iload 12, 2) := by decide +kernel
theorem d_prog_16_method_4_105 : decode prog_16_method_4_code 105 = .ok (.bipush 59, 2) := by decide +kernel
theorem d_prog_16_method_4_107 : decode prog_16_method_4_code 107 = .ok (.if_icmp .le 22, 3) := by decide +kernel
theorem d_prog_16_method_4_110 : decode prog_16_method_4_code 110 = .ok (.lload 9, 2) := by decide +kernel
theorem d_prog_16_method_4_112 : decode prog_16_method_4_code 112 = .ok (.bipush 64, 2) := by decide +kernel
theorem d_prog_16_method_4_114 : decode prog_16_method_4_code 114 = .ok (.iload 12, 2) := by decide +kernel
theorem d_prog_16_method_4_116 : decode prog_16_method_4_code 116 = .ok (.isub, 1) := by decide +kernel
theorem d_prog_16_method_4_117 : decode prog_16_method_4_code 117 = .ok (.lshl, 1) := by decide +kernel
theorem d_prog_16_method_4_118 : decode prog_16_method_4_code 118 = .ok (.lload 4, 2) := by decide +kernel
theorem d_prog_16_method_4_120 : decode prog_16_method_4_code 120 = .ok (.iload 12, 2) := by decide +kernel
theorem d_prog_16_method_4_122 : decode prog_16_method_4_code 122 = .ok (.lushr, 1) := by decide +kernel
theorem d_prog_16_method_4_123 : decode prog_16_method_4_code 123 = .ok (.lor, 1) := by decide +kernel
theorem d_prog_16_method_4_124 : decode prog_16_method_4_code 124 = .ok (.lstore 13, 2) := by decide +kernel
theorem d_prog_16_method_4_126 : decode prog_16_method_4_code 126 = .ok (.goto 10, 3) := by decide +kernel
theorem d_prog_16_method_4_129 : decode prog_16_method_4_code 129 = .ok (.lload 4, 2) := by decide +kernel
theorem d_prog_16_method_4_131 : decode prog_16_method_4_code 131 = .ok (.iload 12, 2) := by decide +kernel
theorem d_prog_16_method_4_133 : decode prog_16_method_4_code 133 = .ok (.lushr, 1) := by decide +kernel
theorem d_prog_16_method_4_134 : decode prog_16_method_4_code 134 = .ok (.lstore 13, 2) := by decide +kernel
theorem d_prog_16_method_4_157 : decode prog_16_method_4_code 157 = .ok (.new 57, 3) := by decide +kernel
theorem d_prog_16_method_4_160 : decode prog_16_method_4_code 160 = .ok (.dup, 1) := by decide +kernel
theorem d_prog_16_method_4_161 : decode prog_16_method_4_code 161 = .ok (.aload 6, 2) := by decide +kernel
theorem d_prog_16_method_4_163 : decode prog_16_method_4_code 163 = .ok (.invokespecial 59, 3) := by decide +kernel
theorem d_prog_16_method_4_166 : decode prog_16_method_4_code 166 = .ok (.areturn, 1) := by decide +kernel
theorem d_method_2_0 : decode method_2_code 0 = .ok (.iload 6, 2) := by decide +kernel
theorem d_method_2_2 : decode method_2_code 2 = .ok (.bipush 64, 2) := by decide +kernel
theorem d_method_2_4 : decode method_2_code 4 = .ok (.if_icmp .ge 11, 3) := by decide +kernel
theorem d_method_2_15 : decode method_2_code 15 = .ok (.iload 6, 2) := by decide +kernel
theorem d_method_2_17 : decode method_2_code 17 = .ok (.bipush 80, 2) := by decide +kernel
theorem d_method_2_19 : decode method_2_code 19 = .ok (.if_icmp .ge 13, 3) := by decide +kernel
theorem d_method_2_32 : decode method_2_code 32 = .ok (.iload 6, 2) := by decide +kernel
theorem d_method_2_34 : decode method_2_code 34 = .ok (.sipush 128, 3) := by decide +kernel
theorem d_method_2_37 : decode method_2_code 37 = .ok (.if_icmp .ge 13, 3) := by decide +kernel
theorem d_method_2_50 : decode method_2_code 50 = .ok (.lconst 0, 1) := by decide +kernel
theorem d_method_2_51 : decode method_2_code 51 = .ok (.lreturn, 1) := by decide +kernel
theorem d_method_2_40 : decode method_2_code 40 = .ok (.lload_n 0, 1) := by decide +kernel
theorem d_method_2_41 : decode method_2_code 41 = .ok (.iload 6, 2) := by decide +kernel
theorem d_method_2_43 : decode method_2_code 43 = .ok (.bipush 80, 2) := by decide +kernel
theorem d_method_2_45 : decode method_2_code 45 = .ok (.isub, 1) := by decide +kernel
theorem d_method_2_46 : decode method_2_code 46 = .ok (.lushr, 1) := by decide +kernel
theorem d_method_2_47 : decode method_2_code 47 = .ok (.lconst 1, 1) := by decide +kernel
theorem d_method_2_48 : decode method_2_code 48 = .ok (.land, 1) := by decide +kernel
theorem d_method_2_49 : decode method_2_code 49 = .ok (.lreturn, 1) := by decide +kernel
theorem d_method_2_22 : decode method_2_code 22 = .ok (.lload_n 2, 1) := by decide +kernel
theorem d_method_2_23 : decode method_2_code 23 = .ok (.iload 6, 2) := by decide +kernel
theorem d_method_2_25 : decode method_2_code 25 = .ok (.bipush 64, 2) := by decide +kernel
theorem d_method_2_27 : decode method_2_code 27 = .ok (.isub, 1) := by decide +kernel
theorem d_method_2_28 : decode method_2_code 28 = .ok (.lushr, 1) := by decide +kernel
theorem d_method_2_29 : decode method_2_code 29 = .ok (.lconst 1, 1) := by decide +kernel
theorem d_method_2_30 : decode method_2_code 30 = .ok (.land, 1) := by decide +kernel
theorem d_method_2_31 : decode method_2_code 31 = .ok (.lreturn, 1) := by decide +kernel
theorem d_method_2_7 : decode method_2_code 7 = .ok (.lload 4, 2) := by decide +kernel
theorem d_method_2_9 : decode method_2_code 9 = .ok (.iload 6, 2) := by decide +kernel
theorem d_method_2_11 : decode method_2_code 11 = .ok (.lushr, 1) := by decide +kernel
theorem d_method_2_12 : decode method_2_code 12 = .ok (.lconst 1, 1) := by decide +kernel
theorem d_method_2_13 : decode method_2_code 13 = .ok (.land, 1) := by decide +kernel
theorem d_method_2_14 : decode method_2_code 14 = .ok (.lreturn, 1) := by decide +kernel
theorem d_method_3_0 : decode method_3_code 0 = .ok (.iload_n 0, 1) := by decide +kernel
theorem d_method_3_1 : decode method_3_code 1 = .ok (.bipush 10, 2) := by decide +kernel
theorem d_method_3_3 : decode method_3_code 3 = .ok (.if_icmp .ge 9, 3) := by decide +kernel
theorem d_method_3_12 : decode method_3_code 12 = .ok (.iload_n 0, 1) := by decide +kernel
theorem d_method_3_13 : decode method_3_code 13 = .ok (.bipush 18, 2) := by decide +kernel
theorem d_method_3_15 : decode method_3_code 15 = .ok (.if_icmp .ge 12, 3) := by decide +kernel
theorem d_method_3_27 : decode method_3_code 27 = .ok (.iload_n 0, 1) := by decide +kernel
theorem d_method_3_28 : decode method_3_code 28 = .ok (.bipush 20, 2) := by decide +kernel
theorem d_method_3_30 : decode method_3_code 30 = .ok (.if_icmp .ge 12, 3) := by decide +kernel
theorem d_method_3_42 : decode method_3_code 42 = .ok (.iload_n 0, 1) := by decide +kernel
theorem d_method_3_43 : decode method_3_code 43 = .ok (.bipush 22, 2) := by decide +kernel
theorem d_method_3_45 : decode method_3_code 45 = .ok (.if_icmp .ge 12, 3) := by decide +kernel
theorem d_method_3_57 : decode method_3_code 57 = .ok (.iload_n 0, 1) := by decide +kernel
theorem d_method_3_58 : decode method_3_code 58 = .ok (.bipush 27, 2) := by decide +kernel
theorem d_method_3_60 : decode method_3_code 60 = .ok (.if_icmp .ge 12, 3) := by decide +kernel
theorem d_method_3_72 : decode method_3_code 72 = .ok (.bipush 86, 2) := by decide +kernel
theorem d_method_3_74 : decode method_3_code 74 = .ok (.iload_n 0, 1) := by decide +kernel
theorem d_method_3_75 : decode method_3_code 75 = .ok (.bipush 27, 2) := by decide +kernel
theorem d_method_3_77 : decode method_3_code 77 = .ok (.isub, 1) := by decide +kernel
theorem d_method_3_78 : decode method_3_code 78 = .ok (.iadd, 1) := by decide +kernel
theorem d_method_3_79 : decode method_3_code 79 = .ok (.i2c, 1) := by decide +kernel
theorem d_method_3_80 : decode method_3_code 80 = .ok (.ireturn, 1) := by decide +kernel
theorem d_method_3_63 : decode method_3_code 63 = .ok (.bipush 80, 2) := by decide +kernel
theorem d_method_3_65 : decode method_3_code 65 = .ok (.iload_n 0, 1) := by decide +kernel
theorem d_method_3_66 : decode method_3_code 66 = .ok (.bipush 22, 2) := by decide +kernel
theorem d_method_3_68 : decode method_3_code 68 = .ok (.isub, 1) := by decide +kernel
theorem d_method_3_69 : decode method_3_code 69 = .ok (.iadd, 1) := by decide +kernel
theorem d_method_3_70 : decode method_3_code 70 = .ok (.i2c, 1) := by decide +kernel
theorem d_method_3_71 : decode method_3_code 71 = .ok (.ireturn, 1) := by decide +kernel
theorem d_method_3_48 : decode method_3_code 48 = .ok (.bipush 77, 2) := by decide +kernel
theorem d_method_3_50 : decode method_3_code 50 = .ok (.iload_n 0, 1) := by decide +kernel
theorem d_method_3_51 : decode method_3_code 51 = .ok (.bipush 20, 2) := by decide +kernel
theorem d_method_3_53 : decode method_3_code 53 = .ok (.isub, 1) := by decide +kernel
theorem d_method_3_54 : decode method_3_code 54 = .ok (.iadd, 1) := by decide +kernel
theorem d_method_3_55 : decode method_3_code 55 = .ok (.i2c, 1) := by decide +kernel
theorem d_method_3_56 : decode method_3_code 56 = .ok (.ireturn, 1) := by decide +kernel
theorem d_method_3_33 : decode method_3_code 33 = .ok (.bipush 74, 2) := by decide +kernel
theorem d_method_3_35 : decode method_3_code 35 = .ok (.iload_n 0, 1) := by decide +kernel
theorem d_method_3_36 : decode method_3_code 36 = .ok (.bipush 18, 2) := by decide +kernel
theorem d_method_3_38 : decode method_3_code 38 = .ok (.isub, 1) := by decide +kernel
theorem d_method_3_39 : decode method_3_code 39 = .ok (.iadd, 1) := by decide +kernel
theorem d_method_3_40 : decode method_3_code 40 = .ok (.i2c, 1) := by decide +kernel
theorem d_method_3_41 : decode method_3_code 41 = .ok (.ireturn, 1) := by decide +kernel
theorem d_method_3_18 : decode method_3_code 18 = .ok (.bipush 65, 2) := by decide +kernel
theorem d_method_3_20 : decode method_3_code 20 = .ok (.iload_n 0, 1) := by decide +kernel
theorem d_method_3_21 : decode method_3_code 21 = .ok (.bipush 10, 2) := by decide +kernel
theorem d_method_3_23 : decode method_3_code 23 = .ok (.isub, 1) := by decide +kernel
theorem d_method_3_24 : decode method_3_code 24 = .ok (.iadd, 1) := by decide +kernel
theorem d_method_3_25 : decode method_3_code 25 = .ok (.i2c, 1) := by decide +kernel
theorem d_method_3_26 : decode method_3_code 26 = .ok (.ireturn, 1) := by decide +kernel
theorem d_method_3_6 : decode method_3_code 6 = .ok (.bipush 48, 2) := by decide +kernel
theorem d_method_3_8 : decode method_3_code 8 = .ok (.iload_n 0, 1) := by decide +kernel
theorem d_method_3_9 : decode method_3_code 9 = .ok (.iadd, 1) := by decide +kernel
theorem d_method_3_10 : decode method_3_code 10 = .ok (.i2c, 1) := by decide +kernel
theorem d_method_3_11 : decode method_3_code 11 = .ok (.ireturn, 1) := by decide +kernel
theorem pn_0 : plainName "com/example/relaywright/relaywright/outbox/EventIds" = true := by first | (simp [plainName, overriddenIn]; done) | decide +kernel
theorem pn_1 : plainName "com/example/relaywright/relaywright/outbox/EventIdsEncodePinLaw" = true := by first | (simp [plainName, overriddenIn]; done) | decide +kernel
theorem pd_0 : parseMethodDescriptor "([C)V" = some ⟨[(.array .char)], none⟩ := by decide +kernel
theorem pd_1 : parseMethodDescriptor "(JJJ)Ljava/lang/String;" = some ⟨[.long, .long, .long], some (.object "java/lang/String")⟩ := by decide +kernel
theorem pd_2 : parseMethodDescriptor "()I" = some ⟨[], some .int⟩ := by decide +kernel
theorem pd_3 : parseMethodDescriptor "(JJJI)J" = some ⟨[.long, .long, .long, .int], some .long⟩ := by decide +kernel
theorem pd_4 : parseMethodDescriptor "(I)C" = some ⟨[.int], some .char⟩ := by decide +kernel
theorem ef_own_encode (m : MethodId) (t : Int64) (hi : Int64) (lo : Int64) : entryFrame m #[(.long t), (.long hi), (.long lo)] 15 = mkF m 0 #[.val (.long t), .second, .val (.long hi), .second, .val (.long lo), .second, .unset, .unset, .unset, .unset, .unset, .unset, .unset, .unset, .unset] [] := by first | (simp [entryFrame, mkF, argsToLocals, Value.category, maxLocals]; done) | rfl
theorem ef_own_bitc (m : MethodId) (t : Int64) (hi : Int64) (lo : Int64) (k : Int32) : entryFrame m #[(.long t), (.long hi), (.long lo), (.int k)] 7 = mkF m 0 #[.val (.long t), .second, .val (.long hi), .second, .val (.long lo), .second, .val (.int k)] [] := by first | (simp [entryFrame, mkF, argsToLocals, Value.category, maxLocals]; done) | rfl
theorem ef_own_symc (m : MethodId) (n : Int32) : entryFrame m #[(.int n)] 1 = mkF m 0 #[.val (.int n)] [] := by first | (simp [entryFrame, mkF, argsToLocals, Value.category, maxLocals]; done) | rfl
theorem ef_own_law (m : MethodId) (t : Int64) (hi : Int64) (lo : Int64) (i3 : Int32) : entryFrame m #[(.long t), (.long hi), (.long lo), (.int i3)] maxLocals = mkF m 0 #[.val (.long t), .second, .val (.long hi), .second, .val (.long lo), .second, .val (.int i3), .unset, .unset, .unset, .unset, .unset] [] := by first | (simp [entryFrame, mkF, argsToLocals, Value.category, maxLocals]; done) | rfl
def own_alI : List Int32 := [48, 49, 50, 51, 52, 53, 54, 55, 56, 57, 65, 66, 67, 68, 69, 70, 71, 72, 74, 75, 77, 78, 80, 81, 82, 83, 84, 86, 87, 88, 89, 90]
def own_al : List Value := own_alI.map Value.int
def own_sym (y : Int32) : Int32 := own_alI.getD (y &&& (31 : Int32)).toNatClampNeg 0
def own_symj (n : Int32) : Int32 := if n < (10 : Int32) then ((48 : Int32) + n).toUInt32.toUInt16.toUInt32.toInt32 else if n < (18 : Int32) then ((65 : Int32) + (n - (10 : Int32))).toUInt32.toUInt16.toUInt32.toInt32 else if n < (20 : Int32) then ((74 : Int32) + (n - (18 : Int32))).toUInt32.toUInt16.toUInt32.toInt32 else if n < (22 : Int32) then ((77 : Int32) + (n - (20 : Int32))).toUInt32.toUInt16.toUInt32.toInt32 else if n < (27 : Int32) then ((80 : Int32) + (n - (22 : Int32))).toUInt32.toUInt16.toUInt32.toInt32 else ((86 : Int32) + (n - (27 : Int32))).toUInt32.toUInt16.toUInt32.toInt32
def own_bit (t hi lo : Int64) (k : Int32) : Int64 := if k < (64 : Int32) then (((lo.toUInt64 >>> (k &&& 0x3f).toInt64.toUInt64).toInt64) &&& (1 : Int64)) else if k < (80 : Int32) then (((hi.toUInt64 >>> ((k - (64 : Int32)) &&& 0x3f).toInt64.toUInt64).toInt64) &&& (1 : Int64)) else if k < (128 : Int32) then (((t.toUInt64 >>> ((k - (80 : Int32)) &&& 0x3f).toInt64.toUInt64).toInt64) &&& (1 : Int64)) else (0 : Int64)
def own_enc (t hi lo : Int64) : List Int32 := [own_sym ((((t &&& (281474976710655 : Int64)).toUInt64 >>> ((45 : Int32) &&& 0x3f).toInt64.toUInt64).toInt64).toInt32), own_sym ((((t &&& (281474976710655 : Int64)).toUInt64 >>> ((40 : Int32) &&& 0x3f).toInt64.toUInt64).toInt64).toInt32), own_sym ((((t &&& (281474976710655 : Int64)).toUInt64 >>> ((35 : Int32) &&& 0x3f).toInt64.toUInt64).toInt64).toInt32), own_sym ((((t &&& (281474976710655 : Int64)).toUInt64 >>> ((30 : Int32) &&& 0x3f).toInt64.toUInt64).toInt64).toInt32), own_sym ((((t &&& (281474976710655 : Int64)).toUInt64 >>> ((25 : Int32) &&& 0x3f).toInt64.toUInt64).toInt64).toInt32), own_sym ((((t &&& (281474976710655 : Int64)).toUInt64 >>> ((20 : Int32) &&& 0x3f).toInt64.toUInt64).toInt64).toInt32), own_sym ((((t &&& (281474976710655 : Int64)).toUInt64 >>> ((15 : Int32) &&& 0x3f).toInt64.toUInt64).toInt64).toInt32), own_sym ((((t &&& (281474976710655 : Int64)).toUInt64 >>> ((10 : Int32) &&& 0x3f).toInt64.toUInt64).toInt64).toInt32), own_sym ((((t &&& (281474976710655 : Int64)).toUInt64 >>> ((5 : Int32) &&& 0x3f).toInt64.toUInt64).toInt64).toInt32), own_sym ((((t &&& (281474976710655 : Int64)).toUInt64 >>> ((0 : Int32) &&& 0x3f).toInt64.toUInt64).toInt64).toInt32), own_sym ((((hi &&& (65535 : Int64)).toUInt64 >>> ((11 : Int32) &&& 0x3f).toInt64.toUInt64).toInt64).toInt32), own_sym ((((hi &&& (65535 : Int64)).toUInt64 >>> ((6 : Int32) &&& 0x3f).toInt64.toUInt64).toInt64).toInt32), own_sym ((((hi &&& (65535 : Int64)).toUInt64 >>> ((1 : Int32) &&& 0x3f).toInt64.toUInt64).toInt64).toInt32), own_sym ((((hi &&& (65535 : Int64)) <<< ((4 : Int32) &&& 0x3f).toInt64) ||| ((lo.toUInt64 >>> ((60 : Int32) &&& 0x3f).toInt64.toUInt64).toInt64)).toInt32), own_sym (((lo.toUInt64 >>> ((55 : Int32) &&& 0x3f).toInt64.toUInt64).toInt64).toInt32), own_sym (((lo.toUInt64 >>> ((50 : Int32) &&& 0x3f).toInt64.toUInt64).toInt64).toInt32), own_sym (((lo.toUInt64 >>> ((45 : Int32) &&& 0x3f).toInt64.toUInt64).toInt64).toInt32), own_sym (((lo.toUInt64 >>> ((40 : Int32) &&& 0x3f).toInt64.toUInt64).toInt64).toInt32), own_sym (((lo.toUInt64 >>> ((35 : Int32) &&& 0x3f).toInt64.toUInt64).toInt64).toInt32), own_sym (((lo.toUInt64 >>> ((30 : Int32) &&& 0x3f).toInt64.toUInt64).toInt64).toInt32), own_sym (((lo.toUInt64 >>> ((25 : Int32) &&& 0x3f).toInt64.toUInt64).toInt64).toInt32), own_sym (((lo.toUInt64 >>> ((20 : Int32) &&& 0x3f).toInt64.toUInt64).toInt64).toInt32), own_sym (((lo.toUInt64 >>> ((15 : Int32) &&& 0x3f).toInt64.toUInt64).toInt64).toInt32), own_sym (((lo.toUInt64 >>> ((10 : Int32) &&& 0x3f).toInt64.toUInt64).toInt64).toInt32), own_sym (((lo.toUInt64 >>> ((5 : Int32) &&& 0x3f).toInt64.toUInt64).toInt64).toInt32), own_sym (((lo.toUInt64 >>> ((0 : Int32) &&& 0x3f).toInt64.toUInt64).toInt64).toInt32)]
def own_five (t hi lo : Int64) (k : Int32) : Int32 := ((((((own_bit t hi lo k) ||| ((own_bit t hi lo (k + (1 : Int32))) <<< ((1 : Int32) &&& 0x3f).toInt64)) ||| ((own_bit t hi lo (k + (2 : Int32))) <<< ((2 : Int32) &&& 0x3f).toInt64)) ||| ((own_bit t hi lo (k + (3 : Int32))) <<< ((3 : Int32) &&& 0x3f).toInt64)) ||| ((own_bit t hi lo (k + (4 : Int32))) <<< ((4 : Int32) &&& 0x3f).toInt64)).toInt32)
theorem own_31 (y : Int32) : ∃ k : Fin 32, y &&& (31 : Int32) = Int32.ofNat k.val := by
  obtain ⟨k, hk, e⟩ := own_andk y 31 (by decide)
  exact ⟨⟨k, by omega⟩, e⟩
theorem own_b31 (y : Int32) : ¬ (y &&& (31 : Int32)) < 0 ∧ (y &&& (31 : Int32)) < (32 : Int32) := by
  obtain ⟨k, e⟩ := own_31 y
  rw [e]
  have t : ∀ k : Fin 32, ¬ Int32.ofNat k.val < 0 ∧ Int32.ofNat k.val < (32 : Int32) := by decide +kernel
  exact t k
theorem own_symv (y : Int32) : own_al.getD (y &&& (31 : Int32)).toNatClampNeg (.int (0 : Int32)) = .int (own_sym y) := by
  unfold own_al own_sym
  generalize (y &&& (31 : Int32)).toNatClampNeg = n
  rw [List.getD_eq_getElem?_getD, List.getD_eq_getElem?_getD, List.getElem?_map]
  cases own_alI[n]? <;> rfl
theorem own_symb (y : Int32) : ¬ own_sym y < 0 ∧ ¬ (255 : Int32) < own_sym y := by
  obtain ⟨k, e⟩ := own_31 y
  unfold own_sym
  rw [e]
  have t : ∀ k : Fin 32, ¬ own_alI.getD (Int32.ofNat k.val).toNatClampNeg 0 < 0 ∧ ¬ (255 : Int32) < own_alI.getD (Int32.ofNat k.val).toNatClampNeg 0 := by decide +kernel
  exact t k
theorem own_symeq {y f : Int32} (h : y &&& (31 : Int32) = f) : own_sym y = nar .char (own_symj f) := by
  subst h
  obtain ⟨k, e⟩ := own_31 y
  unfold own_sym
  rw [e]
  have t : ∀ k : Fin 32, own_alI.getD (Int32.ofNat k.val).toNatClampNeg 0 = nar .char (own_symj (Int32.ofNat k.val)) := by decide +kernel
  exact t k
theorem own_n26 {r : Int32} (h : 0 ≤ r.toInt ∧ r.toInt < (26 : Int32).toInt) : ∃ n : Nat, n < 26 ∧ r = Int32.ofNat n := by
  have e3 : (26 : Int32).toInt = 26 := by decide
  refine ⟨r.toInt.toNat, by omega, ?_⟩
  apply Int32.toInt_inj.mp
  rw [Int32.toInt_ofNat_of_lt (by omega)]
  omega
theorem own_lu0 (x : Int64) : ((x.toUInt64 >>> ((0 : Int32) &&& 0x3f).toInt64.toUInt64).toInt64) = x := by
  have e : ((0 : Int32) &&& 0x3f).toInt64.toUInt64 = 0 := by decide
  rw [e]
  simp
theorem own_lb (x : Int64) (q : Int32) (k : Nat) (P : Int) (hP : P = (2 ^ k : Nat)) (hk : q.toBitVec.toNat % 64 = k) (h0 : 0 < k) : (((x.toUInt64 >>> (q &&& 0x3f).toInt64.toUInt64).toInt64) &&& (1 : Int64)).toInt = (x.toInt % 18446744073709551616) / P % 2 := by
  rw [c_maskL _ 1 1 (by decide) (by decide), c_lushr x q k hk h0, hP]
  rfl
theorem own_l1 (x : Int64) : (x &&& (1 : Int64)).toInt = x.toInt % 2 := c_maskL x 1 1 (by decide) (by decide)
theorem own_y5 (z : Int64) : (z.toInt32 &&& (31 : Int32)).toInt = z.toInt % 32 := by
  rw [c_mask _ 31 5 (by decide) (by decide)]
  have e := c_l2i z
  have q : ((2 ^ 5 : Nat) : Int) = 32 := by decide
  rw [q]
  omega
theorem own_yl (x : Int64) (q : Int32) (k : Nat) (P : Int) (hP : P = (2 ^ k : Nat)) (hk : q.toBitVec.toNat % 64 = k) (h0 : 0 < k) : (((x.toUInt64 >>> (q &&& 0x3f).toInt64.toUInt64).toInt64).toInt32 &&& (31 : Int32)).toInt = (x.toInt % 18446744073709551616) / P % 32 := by
  rw [own_y5, c_lushr x q k hk h0, hP]
theorem own_or1 {a b : Int64} {i : Nat} {P : Int} (hi : i ≤ 31) (hP : P = (2 ^ i : Nat)) (hP2 : P ≤ 65536) {q : Int32} (hq : q.toBitVec.toNat % 64 = i) (ha : 0 ≤ a.toInt ∧ a.toInt < P) (hb : 0 ≤ b.toInt ∧ b.toInt ≤ 1) : (a ||| (b <<< (q &&& 0x3f).toInt64)).toInt = a.toInt + P * b.toInt := by
  have s := c_lshl b q i hq
  rw [← hP] at s
  have b1 := Int64.toInt_lt (b <<< (q &&& 0x3f).toInt64)
  have b2 := Int64.le_toInt (b <<< (q &&& 0x3f).toInt64)
  have s' : (b <<< (q &&& 0x3f).toInt64).toInt = P * b.toInt := by
    have : b.toInt = 0 ∨ b.toInt = 1 := by omega
    rcases this with h | h <;> rw [h] at s ⊢ <;> omega
  have e := c_orL' a (b <<< (q &&& 0x3f).toInt64) i (by omega) P hP (by rw [s']; exact Int.mul_emod_right _ _) ha.1 ha.2
  rw [s'] at e
  have b3 := Int64.toInt_lt (a ||| (b <<< (q &&& 0x3f).toInt64))
  have b4 := Int64.le_toInt (a ||| (b <<< (q &&& 0x3f).toInt64))
  have : b.toInt = 0 ∨ b.toInt = 1 := by omega
  rcases this with h | h <;> rw [h] at e ⊢ <;> omega
theorem own_bit01 (t hi lo : Int64) (k : Int32) : 0 ≤ (own_bit t hi lo k).toInt ∧ (own_bit t hi lo k).toInt ≤ 1 := by
  unfold own_bit
  split
  · rw [own_l1]; omega
  · split
    · rw [own_l1]; omega
    · split
      · rw [own_l1]; omega
      · decide
theorem own_five_j {c0 c1 c2 c3 c4 : Int64} (h0 : 0 ≤ c0.toInt ∧ c0.toInt ≤ 1) (h1 : 0 ≤ c1.toInt ∧ c1.toInt ≤ 1) (h2 : 0 ≤ c2.toInt ∧ c2.toInt ≤ 1) (h3 : 0 ≤ c3.toInt ∧ c3.toInt ≤ 1) (h4 : 0 ≤ c4.toInt ∧ c4.toInt ≤ 1) :
    (((((c0 ||| (c1 <<< ((1 : Int32) &&& 0x3f).toInt64)) ||| (c2 <<< ((2 : Int32) &&& 0x3f).toInt64)) ||| (c3 <<< ((3 : Int32) &&& 0x3f).toInt64)) ||| (c4 <<< ((4 : Int32) &&& 0x3f).toInt64)).toInt32).toInt = c0.toInt + 2 * c1.toInt + 4 * c2.toInt + 8 * c3.toInt + 16 * c4.toInt := by
  have e1 := own_or1 (a := c0) (b := c1) (i := 1) (P := 2) (by decide) (by decide) (by decide) (q := (1 : Int32)) (by decide) (by omega) h1
  have e2 := own_or1 (a := c0 ||| (c1 <<< ((1 : Int32) &&& 0x3f).toInt64)) (b := c2) (i := 2) (P := 4) (by decide) (by decide) (by decide) (q := (2 : Int32)) (by decide) (by omega) h2
  have e3 := own_or1 (a := (c0 ||| (c1 <<< ((1 : Int32) &&& 0x3f).toInt64)) ||| (c2 <<< ((2 : Int32) &&& 0x3f).toInt64)) (b := c3) (i := 3) (P := 8) (by decide) (by decide) (by decide) (q := (3 : Int32)) (by decide) (by omega) h3
  have e4 := own_or1 (a := ((c0 ||| (c1 <<< ((1 : Int32) &&& 0x3f).toInt64)) ||| (c2 <<< ((2 : Int32) &&& 0x3f).toInt64)) ||| (c3 <<< ((3 : Int32) &&& 0x3f).toInt64)) (b := c4) (i := 4) (P := 16) (by decide) (by decide) (by decide) (q := (4 : Int32)) (by decide) (by omega) h4
  generalize ((((c0 ||| (c1 <<< ((1 : Int32) &&& 0x3f).toInt64)) ||| (c2 <<< ((2 : Int32) &&& 0x3f).toInt64)) ||| (c3 <<< ((3 : Int32) &&& 0x3f).toInt64)) ||| (c4 <<< ((4 : Int32) &&& 0x3f).toInt64)) = y at e4 ⊢
  have e5 := c_l2i y
  have b1 := Int32.toInt_lt y.toInt32
  have b2 := Int32.le_toInt y.toInt32
  omega
theorem own_five_i (t hi lo : Int64) (k : Int32) : (own_five t hi lo k).toInt = (own_bit t hi lo k).toInt + 2 * (own_bit t hi lo (k + (1 : Int32))).toInt + 4 * (own_bit t hi lo (k + (2 : Int32))).toInt + 8 * (own_bit t hi lo (k + (3 : Int32))).toInt + 16 * (own_bit t hi lo (k + (4 : Int32))).toInt := by
  unfold own_five
  exact own_five_j (own_bit01 t hi lo k) (own_bit01 t hi lo _) (own_bit01 t hi lo _) (own_bit01 t hi lo _) (own_bit01 t hi lo _)
theorem own_bits0 (x : Int) : x % 32 = x % 2 + 2 * (x % 18446744073709551616 / 2 % 2) + 4 * (x % 18446744073709551616 / 4 % 2) + 8 * (x % 18446744073709551616 / 8 % 2) + 16 * (x % 18446744073709551616 / 16 % 2) := by
  rw [show x % 32 = x % 18446744073709551616 % 32 from by omega, show x % 2 = x % 18446744073709551616 % 2 from by omega]
  generalize x % 18446744073709551616 = u
  omega
theorem own_fin0 (t hi lo : Int64) : own_sym ((((t &&& (281474976710655 : Int64)).toUInt64 >>> ((45 : Int32) &&& 0x3f).toInt64.toUInt64).toInt64).toInt32) = nar .char (own_symj (own_five t hi lo ((5 : Int32) * ((25 : Int32) - Int32.ofNat 0)))) := by
  apply own_symeq
  apply Int32.toInt_inj.mp
  rw [own_five_i]
  have b0 : (own_bit t hi lo ((5 : Int32) * ((25 : Int32) - Int32.ofNat 0))).toInt = t.toInt % 18446744073709551616 / 35184372088832 % 2 := by rw [show ((5 : Int32) * ((25 : Int32) - Int32.ofNat 0) : Int32) = (125 : Int32) from by decide]; unfold own_bit; rw [if_neg (by decide), if_neg (by decide), if_pos (by decide)]; exact own_lb t _ 45 35184372088832 (by decide +kernel) (by decide) (by decide)
  have b1 : (own_bit t hi lo ((5 : Int32) * ((25 : Int32) - Int32.ofNat 0) + (1 : Int32))).toInt = t.toInt % 18446744073709551616 / 70368744177664 % 2 := by rw [show ((5 : Int32) * ((25 : Int32) - Int32.ofNat 0) + (1 : Int32) : Int32) = (126 : Int32) from by decide]; unfold own_bit; rw [if_neg (by decide), if_neg (by decide), if_pos (by decide)]; exact own_lb t _ 46 70368744177664 (by decide +kernel) (by decide) (by decide)
  have b2 : (own_bit t hi lo ((5 : Int32) * ((25 : Int32) - Int32.ofNat 0) + (2 : Int32))).toInt = t.toInt % 18446744073709551616 / 140737488355328 % 2 := by rw [show ((5 : Int32) * ((25 : Int32) - Int32.ofNat 0) + (2 : Int32) : Int32) = (127 : Int32) from by decide]; unfold own_bit; rw [if_neg (by decide), if_neg (by decide), if_pos (by decide)]; exact own_lb t _ 47 140737488355328 (by decide +kernel) (by decide) (by decide)
  have b3 : (own_bit t hi lo ((5 : Int32) * ((25 : Int32) - Int32.ofNat 0) + (3 : Int32))).toInt = 0 := by rw [show ((5 : Int32) * ((25 : Int32) - Int32.ofNat 0) + (3 : Int32) : Int32) = (128 : Int32) from by decide]; unfold own_bit; rw [if_neg (by decide), if_neg (by decide), if_neg (by decide)] <;> decide
  have b4 : (own_bit t hi lo ((5 : Int32) * ((25 : Int32) - Int32.ofNat 0) + (4 : Int32))).toInt = 0 := by rw [show ((5 : Int32) * ((25 : Int32) - Int32.ofNat 0) + (4 : Int32) : Int32) = (129 : Int32) from by decide]; unfold own_bit; rw [if_neg (by decide), if_neg (by decide), if_neg (by decide)] <;> decide
  have m : (t &&& (281474976710655 : Int64)).toInt = t.toInt % 281474976710656 := (c_maskL t 281474976710655 48 (by decide) (by decide +kernel)).trans (by rw [show ((2 ^ 48 : Nat) : Int) = 281474976710656 from by decide +kernel])
  have yy := own_yl (t &&& (281474976710655 : Int64)) (45 : Int32) 45 35184372088832 (by decide +kernel) (by decide) (by decide)
  rw [yy, b0, b1, b2, b3, b4, m]
  rw [show t.toInt % 281474976710656 % 18446744073709551616 = t.toInt % 281474976710656 from by omega, show t.toInt % 281474976710656 = t.toInt % 18446744073709551616 % 281474976710656 from by omega]
  clear yy b0 b1 b2 b3 b4 m
  have hu0 : 0 ≤ t.toInt % 18446744073709551616 := by omega
  have hu1 : t.toInt % 18446744073709551616 < 18446744073709551616 := by omega
  generalize t.toInt % 18446744073709551616 = u at hu0 hu1 ⊢
  rw [show u % 281474976710656 / 35184372088832 % 32 = u / 35184372088832 % 8 from by omega]
  rw [show u / 70368744177664 = u / 35184372088832 / 2 from by omega, show u / 140737488355328 = u / 35184372088832 / 4 from by omega]
  generalize u / 35184372088832 = w
  omega
theorem own_fin1 (t hi lo : Int64) : own_sym ((((t &&& (281474976710655 : Int64)).toUInt64 >>> ((40 : Int32) &&& 0x3f).toInt64.toUInt64).toInt64).toInt32) = nar .char (own_symj (own_five t hi lo ((5 : Int32) * ((25 : Int32) - Int32.ofNat 1)))) := by
  apply own_symeq
  apply Int32.toInt_inj.mp
  rw [own_five_i]
  have b0 : (own_bit t hi lo ((5 : Int32) * ((25 : Int32) - Int32.ofNat 1))).toInt = t.toInt % 18446744073709551616 / 1099511627776 % 2 := by rw [show ((5 : Int32) * ((25 : Int32) - Int32.ofNat 1) : Int32) = (120 : Int32) from by decide]; unfold own_bit; rw [if_neg (by decide), if_neg (by decide), if_pos (by decide)]; exact own_lb t _ 40 1099511627776 (by decide +kernel) (by decide) (by decide)
  have b1 : (own_bit t hi lo ((5 : Int32) * ((25 : Int32) - Int32.ofNat 1) + (1 : Int32))).toInt = t.toInt % 18446744073709551616 / 2199023255552 % 2 := by rw [show ((5 : Int32) * ((25 : Int32) - Int32.ofNat 1) + (1 : Int32) : Int32) = (121 : Int32) from by decide]; unfold own_bit; rw [if_neg (by decide), if_neg (by decide), if_pos (by decide)]; exact own_lb t _ 41 2199023255552 (by decide +kernel) (by decide) (by decide)
  have b2 : (own_bit t hi lo ((5 : Int32) * ((25 : Int32) - Int32.ofNat 1) + (2 : Int32))).toInt = t.toInt % 18446744073709551616 / 4398046511104 % 2 := by rw [show ((5 : Int32) * ((25 : Int32) - Int32.ofNat 1) + (2 : Int32) : Int32) = (122 : Int32) from by decide]; unfold own_bit; rw [if_neg (by decide), if_neg (by decide), if_pos (by decide)]; exact own_lb t _ 42 4398046511104 (by decide +kernel) (by decide) (by decide)
  have b3 : (own_bit t hi lo ((5 : Int32) * ((25 : Int32) - Int32.ofNat 1) + (3 : Int32))).toInt = t.toInt % 18446744073709551616 / 8796093022208 % 2 := by rw [show ((5 : Int32) * ((25 : Int32) - Int32.ofNat 1) + (3 : Int32) : Int32) = (123 : Int32) from by decide]; unfold own_bit; rw [if_neg (by decide), if_neg (by decide), if_pos (by decide)]; exact own_lb t _ 43 8796093022208 (by decide +kernel) (by decide) (by decide)
  have b4 : (own_bit t hi lo ((5 : Int32) * ((25 : Int32) - Int32.ofNat 1) + (4 : Int32))).toInt = t.toInt % 18446744073709551616 / 17592186044416 % 2 := by rw [show ((5 : Int32) * ((25 : Int32) - Int32.ofNat 1) + (4 : Int32) : Int32) = (124 : Int32) from by decide]; unfold own_bit; rw [if_neg (by decide), if_neg (by decide), if_pos (by decide)]; exact own_lb t _ 44 17592186044416 (by decide +kernel) (by decide) (by decide)
  have m : (t &&& (281474976710655 : Int64)).toInt = t.toInt % 281474976710656 := (c_maskL t 281474976710655 48 (by decide) (by decide +kernel)).trans (by rw [show ((2 ^ 48 : Nat) : Int) = 281474976710656 from by decide +kernel])
  have yy := own_yl (t &&& (281474976710655 : Int64)) (40 : Int32) 40 1099511627776 (by decide +kernel) (by decide) (by decide)
  rw [yy, b0, b1, b2, b3, b4, m]
  rw [show t.toInt % 281474976710656 % 18446744073709551616 = t.toInt % 281474976710656 from by omega, show t.toInt % 281474976710656 = t.toInt % 18446744073709551616 % 281474976710656 from by omega]
  clear yy b0 b1 b2 b3 b4 m
  have hu0 : 0 ≤ t.toInt % 18446744073709551616 := by omega
  have hu1 : t.toInt % 18446744073709551616 < 18446744073709551616 := by omega
  generalize t.toInt % 18446744073709551616 = u at hu0 hu1 ⊢
  rw [show u % 281474976710656 / 1099511627776 % 32 = u / 1099511627776 % 32 from by omega]
  rw [show u / 2199023255552 = u / 1099511627776 / 2 from by omega, show u / 4398046511104 = u / 1099511627776 / 4 from by omega, show u / 8796093022208 = u / 1099511627776 / 8 from by omega, show u / 17592186044416 = u / 1099511627776 / 16 from by omega]
  generalize u / 1099511627776 = w
  omega
theorem own_fin2 (t hi lo : Int64) : own_sym ((((t &&& (281474976710655 : Int64)).toUInt64 >>> ((35 : Int32) &&& 0x3f).toInt64.toUInt64).toInt64).toInt32) = nar .char (own_symj (own_five t hi lo ((5 : Int32) * ((25 : Int32) - Int32.ofNat 2)))) := by
  apply own_symeq
  apply Int32.toInt_inj.mp
  rw [own_five_i]
  have b0 : (own_bit t hi lo ((5 : Int32) * ((25 : Int32) - Int32.ofNat 2))).toInt = t.toInt % 18446744073709551616 / 34359738368 % 2 := by rw [show ((5 : Int32) * ((25 : Int32) - Int32.ofNat 2) : Int32) = (115 : Int32) from by decide]; unfold own_bit; rw [if_neg (by decide), if_neg (by decide), if_pos (by decide)]; exact own_lb t _ 35 34359738368 (by decide +kernel) (by decide) (by decide)
  have b1 : (own_bit t hi lo ((5 : Int32) * ((25 : Int32) - Int32.ofNat 2) + (1 : Int32))).toInt = t.toInt % 18446744073709551616 / 68719476736 % 2 := by rw [show ((5 : Int32) * ((25 : Int32) - Int32.ofNat 2) + (1 : Int32) : Int32) = (116 : Int32) from by decide]; unfold own_bit; rw [if_neg (by decide), if_neg (by decide), if_pos (by decide)]; exact own_lb t _ 36 68719476736 (by decide +kernel) (by decide) (by decide)
  have b2 : (own_bit t hi lo ((5 : Int32) * ((25 : Int32) - Int32.ofNat 2) + (2 : Int32))).toInt = t.toInt % 18446744073709551616 / 137438953472 % 2 := by rw [show ((5 : Int32) * ((25 : Int32) - Int32.ofNat 2) + (2 : Int32) : Int32) = (117 : Int32) from by decide]; unfold own_bit; rw [if_neg (by decide), if_neg (by decide), if_pos (by decide)]; exact own_lb t _ 37 137438953472 (by decide +kernel) (by decide) (by decide)
  have b3 : (own_bit t hi lo ((5 : Int32) * ((25 : Int32) - Int32.ofNat 2) + (3 : Int32))).toInt = t.toInt % 18446744073709551616 / 274877906944 % 2 := by rw [show ((5 : Int32) * ((25 : Int32) - Int32.ofNat 2) + (3 : Int32) : Int32) = (118 : Int32) from by decide]; unfold own_bit; rw [if_neg (by decide), if_neg (by decide), if_pos (by decide)]; exact own_lb t _ 38 274877906944 (by decide +kernel) (by decide) (by decide)
  have b4 : (own_bit t hi lo ((5 : Int32) * ((25 : Int32) - Int32.ofNat 2) + (4 : Int32))).toInt = t.toInt % 18446744073709551616 / 549755813888 % 2 := by rw [show ((5 : Int32) * ((25 : Int32) - Int32.ofNat 2) + (4 : Int32) : Int32) = (119 : Int32) from by decide]; unfold own_bit; rw [if_neg (by decide), if_neg (by decide), if_pos (by decide)]; exact own_lb t _ 39 549755813888 (by decide +kernel) (by decide) (by decide)
  have m : (t &&& (281474976710655 : Int64)).toInt = t.toInt % 281474976710656 := (c_maskL t 281474976710655 48 (by decide) (by decide +kernel)).trans (by rw [show ((2 ^ 48 : Nat) : Int) = 281474976710656 from by decide +kernel])
  have yy := own_yl (t &&& (281474976710655 : Int64)) (35 : Int32) 35 34359738368 (by decide +kernel) (by decide) (by decide)
  rw [yy, b0, b1, b2, b3, b4, m]
  rw [show t.toInt % 281474976710656 % 18446744073709551616 = t.toInt % 281474976710656 from by omega, show t.toInt % 281474976710656 = t.toInt % 18446744073709551616 % 281474976710656 from by omega]
  clear yy b0 b1 b2 b3 b4 m
  have hu0 : 0 ≤ t.toInt % 18446744073709551616 := by omega
  have hu1 : t.toInt % 18446744073709551616 < 18446744073709551616 := by omega
  generalize t.toInt % 18446744073709551616 = u at hu0 hu1 ⊢
  rw [show u % 281474976710656 / 34359738368 % 32 = u / 34359738368 % 32 from by omega]
  rw [show u / 68719476736 = u / 34359738368 / 2 from by omega, show u / 137438953472 = u / 34359738368 / 4 from by omega, show u / 274877906944 = u / 34359738368 / 8 from by omega, show u / 549755813888 = u / 34359738368 / 16 from by omega]
  generalize u / 34359738368 = w
  omega
theorem own_fin3 (t hi lo : Int64) : own_sym ((((t &&& (281474976710655 : Int64)).toUInt64 >>> ((30 : Int32) &&& 0x3f).toInt64.toUInt64).toInt64).toInt32) = nar .char (own_symj (own_five t hi lo ((5 : Int32) * ((25 : Int32) - Int32.ofNat 3)))) := by
  apply own_symeq
  apply Int32.toInt_inj.mp
  rw [own_five_i]
  have b0 : (own_bit t hi lo ((5 : Int32) * ((25 : Int32) - Int32.ofNat 3))).toInt = t.toInt % 18446744073709551616 / 1073741824 % 2 := by rw [show ((5 : Int32) * ((25 : Int32) - Int32.ofNat 3) : Int32) = (110 : Int32) from by decide]; unfold own_bit; rw [if_neg (by decide), if_neg (by decide), if_pos (by decide)]; exact own_lb t _ 30 1073741824 (by decide +kernel) (by decide) (by decide)
  have b1 : (own_bit t hi lo ((5 : Int32) * ((25 : Int32) - Int32.ofNat 3) + (1 : Int32))).toInt = t.toInt % 18446744073709551616 / 2147483648 % 2 := by rw [show ((5 : Int32) * ((25 : Int32) - Int32.ofNat 3) + (1 : Int32) : Int32) = (111 : Int32) from by decide]; unfold own_bit; rw [if_neg (by decide), if_neg (by decide), if_pos (by decide)]; exact own_lb t _ 31 2147483648 (by decide +kernel) (by decide) (by decide)
  have b2 : (own_bit t hi lo ((5 : Int32) * ((25 : Int32) - Int32.ofNat 3) + (2 : Int32))).toInt = t.toInt % 18446744073709551616 / 4294967296 % 2 := by rw [show ((5 : Int32) * ((25 : Int32) - Int32.ofNat 3) + (2 : Int32) : Int32) = (112 : Int32) from by decide]; unfold own_bit; rw [if_neg (by decide), if_neg (by decide), if_pos (by decide)]; exact own_lb t _ 32 4294967296 (by decide +kernel) (by decide) (by decide)
  have b3 : (own_bit t hi lo ((5 : Int32) * ((25 : Int32) - Int32.ofNat 3) + (3 : Int32))).toInt = t.toInt % 18446744073709551616 / 8589934592 % 2 := by rw [show ((5 : Int32) * ((25 : Int32) - Int32.ofNat 3) + (3 : Int32) : Int32) = (113 : Int32) from by decide]; unfold own_bit; rw [if_neg (by decide), if_neg (by decide), if_pos (by decide)]; exact own_lb t _ 33 8589934592 (by decide +kernel) (by decide) (by decide)
  have b4 : (own_bit t hi lo ((5 : Int32) * ((25 : Int32) - Int32.ofNat 3) + (4 : Int32))).toInt = t.toInt % 18446744073709551616 / 17179869184 % 2 := by rw [show ((5 : Int32) * ((25 : Int32) - Int32.ofNat 3) + (4 : Int32) : Int32) = (114 : Int32) from by decide]; unfold own_bit; rw [if_neg (by decide), if_neg (by decide), if_pos (by decide)]; exact own_lb t _ 34 17179869184 (by decide +kernel) (by decide) (by decide)
  have m : (t &&& (281474976710655 : Int64)).toInt = t.toInt % 281474976710656 := (c_maskL t 281474976710655 48 (by decide) (by decide +kernel)).trans (by rw [show ((2 ^ 48 : Nat) : Int) = 281474976710656 from by decide +kernel])
  have yy := own_yl (t &&& (281474976710655 : Int64)) (30 : Int32) 30 1073741824 (by decide +kernel) (by decide) (by decide)
  rw [yy, b0, b1, b2, b3, b4, m]
  rw [show t.toInt % 281474976710656 % 18446744073709551616 = t.toInt % 281474976710656 from by omega, show t.toInt % 281474976710656 = t.toInt % 18446744073709551616 % 281474976710656 from by omega]
  clear yy b0 b1 b2 b3 b4 m
  have hu0 : 0 ≤ t.toInt % 18446744073709551616 := by omega
  have hu1 : t.toInt % 18446744073709551616 < 18446744073709551616 := by omega
  generalize t.toInt % 18446744073709551616 = u at hu0 hu1 ⊢
  rw [show u % 281474976710656 / 1073741824 % 32 = u / 1073741824 % 32 from by omega]
  rw [show u / 2147483648 = u / 1073741824 / 2 from by omega, show u / 4294967296 = u / 1073741824 / 4 from by omega, show u / 8589934592 = u / 1073741824 / 8 from by omega, show u / 17179869184 = u / 1073741824 / 16 from by omega]
  generalize u / 1073741824 = w
  omega
theorem own_fin4 (t hi lo : Int64) : own_sym ((((t &&& (281474976710655 : Int64)).toUInt64 >>> ((25 : Int32) &&& 0x3f).toInt64.toUInt64).toInt64).toInt32) = nar .char (own_symj (own_five t hi lo ((5 : Int32) * ((25 : Int32) - Int32.ofNat 4)))) := by
  apply own_symeq
  apply Int32.toInt_inj.mp
  rw [own_five_i]
  have b0 : (own_bit t hi lo ((5 : Int32) * ((25 : Int32) - Int32.ofNat 4))).toInt = t.toInt % 18446744073709551616 / 33554432 % 2 := by rw [show ((5 : Int32) * ((25 : Int32) - Int32.ofNat 4) : Int32) = (105 : Int32) from by decide]; unfold own_bit; rw [if_neg (by decide), if_neg (by decide), if_pos (by decide)]; exact own_lb t _ 25 33554432 (by decide +kernel) (by decide) (by decide)
  have b1 : (own_bit t hi lo ((5 : Int32) * ((25 : Int32) - Int32.ofNat 4) + (1 : Int32))).toInt = t.toInt % 18446744073709551616 / 67108864 % 2 := by rw [show ((5 : Int32) * ((25 : Int32) - Int32.ofNat 4) + (1 : Int32) : Int32) = (106 : Int32) from by decide]; unfold own_bit; rw [if_neg (by decide), if_neg (by decide), if_pos (by decide)]; exact own_lb t _ 26 67108864 (by decide +kernel) (by decide) (by decide)
  have b2 : (own_bit t hi lo ((5 : Int32) * ((25 : Int32) - Int32.ofNat 4) + (2 : Int32))).toInt = t.toInt % 18446744073709551616 / 134217728 % 2 := by rw [show ((5 : Int32) * ((25 : Int32) - Int32.ofNat 4) + (2 : Int32) : Int32) = (107 : Int32) from by decide]; unfold own_bit; rw [if_neg (by decide), if_neg (by decide), if_pos (by decide)]; exact own_lb t _ 27 134217728 (by decide +kernel) (by decide) (by decide)
  have b3 : (own_bit t hi lo ((5 : Int32) * ((25 : Int32) - Int32.ofNat 4) + (3 : Int32))).toInt = t.toInt % 18446744073709551616 / 268435456 % 2 := by rw [show ((5 : Int32) * ((25 : Int32) - Int32.ofNat 4) + (3 : Int32) : Int32) = (108 : Int32) from by decide]; unfold own_bit; rw [if_neg (by decide), if_neg (by decide), if_pos (by decide)]; exact own_lb t _ 28 268435456 (by decide +kernel) (by decide) (by decide)
  have b4 : (own_bit t hi lo ((5 : Int32) * ((25 : Int32) - Int32.ofNat 4) + (4 : Int32))).toInt = t.toInt % 18446744073709551616 / 536870912 % 2 := by rw [show ((5 : Int32) * ((25 : Int32) - Int32.ofNat 4) + (4 : Int32) : Int32) = (109 : Int32) from by decide]; unfold own_bit; rw [if_neg (by decide), if_neg (by decide), if_pos (by decide)]; exact own_lb t _ 29 536870912 (by decide +kernel) (by decide) (by decide)
  have m : (t &&& (281474976710655 : Int64)).toInt = t.toInt % 281474976710656 := (c_maskL t 281474976710655 48 (by decide) (by decide +kernel)).trans (by rw [show ((2 ^ 48 : Nat) : Int) = 281474976710656 from by decide +kernel])
  have yy := own_yl (t &&& (281474976710655 : Int64)) (25 : Int32) 25 33554432 (by decide +kernel) (by decide) (by decide)
  rw [yy, b0, b1, b2, b3, b4, m]
  rw [show t.toInt % 281474976710656 % 18446744073709551616 = t.toInt % 281474976710656 from by omega, show t.toInt % 281474976710656 = t.toInt % 18446744073709551616 % 281474976710656 from by omega]
  clear yy b0 b1 b2 b3 b4 m
  have hu0 : 0 ≤ t.toInt % 18446744073709551616 := by omega
  have hu1 : t.toInt % 18446744073709551616 < 18446744073709551616 := by omega
  generalize t.toInt % 18446744073709551616 = u at hu0 hu1 ⊢
  rw [show u % 281474976710656 / 33554432 % 32 = u / 33554432 % 32 from by omega]
  rw [show u / 67108864 = u / 33554432 / 2 from by omega, show u / 134217728 = u / 33554432 / 4 from by omega, show u / 268435456 = u / 33554432 / 8 from by omega, show u / 536870912 = u / 33554432 / 16 from by omega]
  generalize u / 33554432 = w
  omega
theorem own_fin5 (t hi lo : Int64) : own_sym ((((t &&& (281474976710655 : Int64)).toUInt64 >>> ((20 : Int32) &&& 0x3f).toInt64.toUInt64).toInt64).toInt32) = nar .char (own_symj (own_five t hi lo ((5 : Int32) * ((25 : Int32) - Int32.ofNat 5)))) := by
  apply own_symeq
  apply Int32.toInt_inj.mp
  rw [own_five_i]
  have b0 : (own_bit t hi lo ((5 : Int32) * ((25 : Int32) - Int32.ofNat 5))).toInt = t.toInt % 18446744073709551616 / 1048576 % 2 := by rw [show ((5 : Int32) * ((25 : Int32) - Int32.ofNat 5) : Int32) = (100 : Int32) from by decide]; unfold own_bit; rw [if_neg (by decide), if_neg (by decide), if_pos (by decide)]; exact own_lb t _ 20 1048576 (by decide +kernel) (by decide) (by decide)
  have b1 : (own_bit t hi lo ((5 : Int32) * ((25 : Int32) - Int32.ofNat 5) + (1 : Int32))).toInt = t.toInt % 18446744073709551616 / 2097152 % 2 := by rw [show ((5 : Int32) * ((25 : Int32) - Int32.ofNat 5) + (1 : Int32) : Int32) = (101 : Int32) from by decide]; unfold own_bit; rw [if_neg (by decide), if_neg (by decide), if_pos (by decide)]; exact own_lb t _ 21 2097152 (by decide +kernel) (by decide) (by decide)
  have b2 : (own_bit t hi lo ((5 : Int32) * ((25 : Int32) - Int32.ofNat 5) + (2 : Int32))).toInt = t.toInt % 18446744073709551616 / 4194304 % 2 := by rw [show ((5 : Int32) * ((25 : Int32) - Int32.ofNat 5) + (2 : Int32) : Int32) = (102 : Int32) from by decide]; unfold own_bit; rw [if_neg (by decide), if_neg (by decide), if_pos (by decide)]; exact own_lb t _ 22 4194304 (by decide +kernel) (by decide) (by decide)
  have b3 : (own_bit t hi lo ((5 : Int32) * ((25 : Int32) - Int32.ofNat 5) + (3 : Int32))).toInt = t.toInt % 18446744073709551616 / 8388608 % 2 := by rw [show ((5 : Int32) * ((25 : Int32) - Int32.ofNat 5) + (3 : Int32) : Int32) = (103 : Int32) from by decide]; unfold own_bit; rw [if_neg (by decide), if_neg (by decide), if_pos (by decide)]; exact own_lb t _ 23 8388608 (by decide +kernel) (by decide) (by decide)
  have b4 : (own_bit t hi lo ((5 : Int32) * ((25 : Int32) - Int32.ofNat 5) + (4 : Int32))).toInt = t.toInt % 18446744073709551616 / 16777216 % 2 := by rw [show ((5 : Int32) * ((25 : Int32) - Int32.ofNat 5) + (4 : Int32) : Int32) = (104 : Int32) from by decide]; unfold own_bit; rw [if_neg (by decide), if_neg (by decide), if_pos (by decide)]; exact own_lb t _ 24 16777216 (by decide +kernel) (by decide) (by decide)
  have m : (t &&& (281474976710655 : Int64)).toInt = t.toInt % 281474976710656 := (c_maskL t 281474976710655 48 (by decide) (by decide +kernel)).trans (by rw [show ((2 ^ 48 : Nat) : Int) = 281474976710656 from by decide +kernel])
  have yy := own_yl (t &&& (281474976710655 : Int64)) (20 : Int32) 20 1048576 (by decide +kernel) (by decide) (by decide)
  rw [yy, b0, b1, b2, b3, b4, m]
  rw [show t.toInt % 281474976710656 % 18446744073709551616 = t.toInt % 281474976710656 from by omega, show t.toInt % 281474976710656 = t.toInt % 18446744073709551616 % 281474976710656 from by omega]
  clear yy b0 b1 b2 b3 b4 m
  have hu0 : 0 ≤ t.toInt % 18446744073709551616 := by omega
  have hu1 : t.toInt % 18446744073709551616 < 18446744073709551616 := by omega
  generalize t.toInt % 18446744073709551616 = u at hu0 hu1 ⊢
  rw [show u % 281474976710656 / 1048576 % 32 = u / 1048576 % 32 from by omega]
  rw [show u / 2097152 = u / 1048576 / 2 from by omega, show u / 4194304 = u / 1048576 / 4 from by omega, show u / 8388608 = u / 1048576 / 8 from by omega, show u / 16777216 = u / 1048576 / 16 from by omega]
  generalize u / 1048576 = w
  omega
theorem own_fin6 (t hi lo : Int64) : own_sym ((((t &&& (281474976710655 : Int64)).toUInt64 >>> ((15 : Int32) &&& 0x3f).toInt64.toUInt64).toInt64).toInt32) = nar .char (own_symj (own_five t hi lo ((5 : Int32) * ((25 : Int32) - Int32.ofNat 6)))) := by
  apply own_symeq
  apply Int32.toInt_inj.mp
  rw [own_five_i]
  have b0 : (own_bit t hi lo ((5 : Int32) * ((25 : Int32) - Int32.ofNat 6))).toInt = t.toInt % 18446744073709551616 / 32768 % 2 := by rw [show ((5 : Int32) * ((25 : Int32) - Int32.ofNat 6) : Int32) = (95 : Int32) from by decide]; unfold own_bit; rw [if_neg (by decide), if_neg (by decide), if_pos (by decide)]; exact own_lb t _ 15 32768 (by decide +kernel) (by decide) (by decide)
  have b1 : (own_bit t hi lo ((5 : Int32) * ((25 : Int32) - Int32.ofNat 6) + (1 : Int32))).toInt = t.toInt % 18446744073709551616 / 65536 % 2 := by rw [show ((5 : Int32) * ((25 : Int32) - Int32.ofNat 6) + (1 : Int32) : Int32) = (96 : Int32) from by decide]; unfold own_bit; rw [if_neg (by decide), if_neg (by decide), if_pos (by decide)]; exact own_lb t _ 16 65536 (by decide +kernel) (by decide) (by decide)
  have b2 : (own_bit t hi lo ((5 : Int32) * ((25 : Int32) - Int32.ofNat 6) + (2 : Int32))).toInt = t.toInt % 18446744073709551616 / 131072 % 2 := by rw [show ((5 : Int32) * ((25 : Int32) - Int32.ofNat 6) + (2 : Int32) : Int32) = (97 : Int32) from by decide]; unfold own_bit; rw [if_neg (by decide), if_neg (by decide), if_pos (by decide)]; exact own_lb t _ 17 131072 (by decide +kernel) (by decide) (by decide)
  have b3 : (own_bit t hi lo ((5 : Int32) * ((25 : Int32) - Int32.ofNat 6) + (3 : Int32))).toInt = t.toInt % 18446744073709551616 / 262144 % 2 := by rw [show ((5 : Int32) * ((25 : Int32) - Int32.ofNat 6) + (3 : Int32) : Int32) = (98 : Int32) from by decide]; unfold own_bit; rw [if_neg (by decide), if_neg (by decide), if_pos (by decide)]; exact own_lb t _ 18 262144 (by decide +kernel) (by decide) (by decide)
  have b4 : (own_bit t hi lo ((5 : Int32) * ((25 : Int32) - Int32.ofNat 6) + (4 : Int32))).toInt = t.toInt % 18446744073709551616 / 524288 % 2 := by rw [show ((5 : Int32) * ((25 : Int32) - Int32.ofNat 6) + (4 : Int32) : Int32) = (99 : Int32) from by decide]; unfold own_bit; rw [if_neg (by decide), if_neg (by decide), if_pos (by decide)]; exact own_lb t _ 19 524288 (by decide +kernel) (by decide) (by decide)
  have m : (t &&& (281474976710655 : Int64)).toInt = t.toInt % 281474976710656 := (c_maskL t 281474976710655 48 (by decide) (by decide +kernel)).trans (by rw [show ((2 ^ 48 : Nat) : Int) = 281474976710656 from by decide +kernel])
  have yy := own_yl (t &&& (281474976710655 : Int64)) (15 : Int32) 15 32768 (by decide +kernel) (by decide) (by decide)
  rw [yy, b0, b1, b2, b3, b4, m]
  rw [show t.toInt % 281474976710656 % 18446744073709551616 = t.toInt % 281474976710656 from by omega, show t.toInt % 281474976710656 = t.toInt % 18446744073709551616 % 281474976710656 from by omega]
  clear yy b0 b1 b2 b3 b4 m
  have hu0 : 0 ≤ t.toInt % 18446744073709551616 := by omega
  have hu1 : t.toInt % 18446744073709551616 < 18446744073709551616 := by omega
  generalize t.toInt % 18446744073709551616 = u at hu0 hu1 ⊢
  rw [show u % 281474976710656 / 32768 % 32 = u / 32768 % 32 from by omega]
  rw [show u / 65536 = u / 32768 / 2 from by omega, show u / 131072 = u / 32768 / 4 from by omega, show u / 262144 = u / 32768 / 8 from by omega, show u / 524288 = u / 32768 / 16 from by omega]
  generalize u / 32768 = w
  omega
theorem own_fin7 (t hi lo : Int64) : own_sym ((((t &&& (281474976710655 : Int64)).toUInt64 >>> ((10 : Int32) &&& 0x3f).toInt64.toUInt64).toInt64).toInt32) = nar .char (own_symj (own_five t hi lo ((5 : Int32) * ((25 : Int32) - Int32.ofNat 7)))) := by
  apply own_symeq
  apply Int32.toInt_inj.mp
  rw [own_five_i]
  have b0 : (own_bit t hi lo ((5 : Int32) * ((25 : Int32) - Int32.ofNat 7))).toInt = t.toInt % 18446744073709551616 / 1024 % 2 := by rw [show ((5 : Int32) * ((25 : Int32) - Int32.ofNat 7) : Int32) = (90 : Int32) from by decide]; unfold own_bit; rw [if_neg (by decide), if_neg (by decide), if_pos (by decide)]; exact own_lb t _ 10 1024 (by decide +kernel) (by decide) (by decide)
  have b1 : (own_bit t hi lo ((5 : Int32) * ((25 : Int32) - Int32.ofNat 7) + (1 : Int32))).toInt = t.toInt % 18446744073709551616 / 2048 % 2 := by rw [show ((5 : Int32) * ((25 : Int32) - Int32.ofNat 7) + (1 : Int32) : Int32) = (91 : Int32) from by decide]; unfold own_bit; rw [if_neg (by decide), if_neg (by decide), if_pos (by decide)]; exact own_lb t _ 11 2048 (by decide +kernel) (by decide) (by decide)
  have b2 : (own_bit t hi lo ((5 : Int32) * ((25 : Int32) - Int32.ofNat 7) + (2 : Int32))).toInt = t.toInt % 18446744073709551616 / 4096 % 2 := by rw [show ((5 : Int32) * ((25 : Int32) - Int32.ofNat 7) + (2 : Int32) : Int32) = (92 : Int32) from by decide]; unfold own_bit; rw [if_neg (by decide), if_neg (by decide), if_pos (by decide)]; exact own_lb t _ 12 4096 (by decide +kernel) (by decide) (by decide)
  have b3 : (own_bit t hi lo ((5 : Int32) * ((25 : Int32) - Int32.ofNat 7) + (3 : Int32))).toInt = t.toInt % 18446744073709551616 / 8192 % 2 := by rw [show ((5 : Int32) * ((25 : Int32) - Int32.ofNat 7) + (3 : Int32) : Int32) = (93 : Int32) from by decide]; unfold own_bit; rw [if_neg (by decide), if_neg (by decide), if_pos (by decide)]; exact own_lb t _ 13 8192 (by decide +kernel) (by decide) (by decide)
  have b4 : (own_bit t hi lo ((5 : Int32) * ((25 : Int32) - Int32.ofNat 7) + (4 : Int32))).toInt = t.toInt % 18446744073709551616 / 16384 % 2 := by rw [show ((5 : Int32) * ((25 : Int32) - Int32.ofNat 7) + (4 : Int32) : Int32) = (94 : Int32) from by decide]; unfold own_bit; rw [if_neg (by decide), if_neg (by decide), if_pos (by decide)]; exact own_lb t _ 14 16384 (by decide +kernel) (by decide) (by decide)
  have m : (t &&& (281474976710655 : Int64)).toInt = t.toInt % 281474976710656 := (c_maskL t 281474976710655 48 (by decide) (by decide +kernel)).trans (by rw [show ((2 ^ 48 : Nat) : Int) = 281474976710656 from by decide +kernel])
  have yy := own_yl (t &&& (281474976710655 : Int64)) (10 : Int32) 10 1024 (by decide +kernel) (by decide) (by decide)
  rw [yy, b0, b1, b2, b3, b4, m]
  rw [show t.toInt % 281474976710656 % 18446744073709551616 = t.toInt % 281474976710656 from by omega, show t.toInt % 281474976710656 = t.toInt % 18446744073709551616 % 281474976710656 from by omega]
  clear yy b0 b1 b2 b3 b4 m
  have hu0 : 0 ≤ t.toInt % 18446744073709551616 := by omega
  have hu1 : t.toInt % 18446744073709551616 < 18446744073709551616 := by omega
  generalize t.toInt % 18446744073709551616 = u at hu0 hu1 ⊢
  rw [show u % 281474976710656 / 1024 % 32 = u / 1024 % 32 from by omega]
  rw [show u / 2048 = u / 1024 / 2 from by omega, show u / 4096 = u / 1024 / 4 from by omega, show u / 8192 = u / 1024 / 8 from by omega, show u / 16384 = u / 1024 / 16 from by omega]
  generalize u / 1024 = w
  omega
theorem own_fin8 (t hi lo : Int64) : own_sym ((((t &&& (281474976710655 : Int64)).toUInt64 >>> ((5 : Int32) &&& 0x3f).toInt64.toUInt64).toInt64).toInt32) = nar .char (own_symj (own_five t hi lo ((5 : Int32) * ((25 : Int32) - Int32.ofNat 8)))) := by
  apply own_symeq
  apply Int32.toInt_inj.mp
  rw [own_five_i]
  have b0 : (own_bit t hi lo ((5 : Int32) * ((25 : Int32) - Int32.ofNat 8))).toInt = t.toInt % 18446744073709551616 / 32 % 2 := by rw [show ((5 : Int32) * ((25 : Int32) - Int32.ofNat 8) : Int32) = (85 : Int32) from by decide]; unfold own_bit; rw [if_neg (by decide), if_neg (by decide), if_pos (by decide)]; exact own_lb t _ 5 32 (by decide +kernel) (by decide) (by decide)
  have b1 : (own_bit t hi lo ((5 : Int32) * ((25 : Int32) - Int32.ofNat 8) + (1 : Int32))).toInt = t.toInt % 18446744073709551616 / 64 % 2 := by rw [show ((5 : Int32) * ((25 : Int32) - Int32.ofNat 8) + (1 : Int32) : Int32) = (86 : Int32) from by decide]; unfold own_bit; rw [if_neg (by decide), if_neg (by decide), if_pos (by decide)]; exact own_lb t _ 6 64 (by decide +kernel) (by decide) (by decide)
  have b2 : (own_bit t hi lo ((5 : Int32) * ((25 : Int32) - Int32.ofNat 8) + (2 : Int32))).toInt = t.toInt % 18446744073709551616 / 128 % 2 := by rw [show ((5 : Int32) * ((25 : Int32) - Int32.ofNat 8) + (2 : Int32) : Int32) = (87 : Int32) from by decide]; unfold own_bit; rw [if_neg (by decide), if_neg (by decide), if_pos (by decide)]; exact own_lb t _ 7 128 (by decide +kernel) (by decide) (by decide)
  have b3 : (own_bit t hi lo ((5 : Int32) * ((25 : Int32) - Int32.ofNat 8) + (3 : Int32))).toInt = t.toInt % 18446744073709551616 / 256 % 2 := by rw [show ((5 : Int32) * ((25 : Int32) - Int32.ofNat 8) + (3 : Int32) : Int32) = (88 : Int32) from by decide]; unfold own_bit; rw [if_neg (by decide), if_neg (by decide), if_pos (by decide)]; exact own_lb t _ 8 256 (by decide +kernel) (by decide) (by decide)
  have b4 : (own_bit t hi lo ((5 : Int32) * ((25 : Int32) - Int32.ofNat 8) + (4 : Int32))).toInt = t.toInt % 18446744073709551616 / 512 % 2 := by rw [show ((5 : Int32) * ((25 : Int32) - Int32.ofNat 8) + (4 : Int32) : Int32) = (89 : Int32) from by decide]; unfold own_bit; rw [if_neg (by decide), if_neg (by decide), if_pos (by decide)]; exact own_lb t _ 9 512 (by decide +kernel) (by decide) (by decide)
  have m : (t &&& (281474976710655 : Int64)).toInt = t.toInt % 281474976710656 := (c_maskL t 281474976710655 48 (by decide) (by decide +kernel)).trans (by rw [show ((2 ^ 48 : Nat) : Int) = 281474976710656 from by decide +kernel])
  have yy := own_yl (t &&& (281474976710655 : Int64)) (5 : Int32) 5 32 (by decide +kernel) (by decide) (by decide)
  rw [yy, b0, b1, b2, b3, b4, m]
  rw [show t.toInt % 281474976710656 % 18446744073709551616 = t.toInt % 281474976710656 from by omega, show t.toInt % 281474976710656 = t.toInt % 18446744073709551616 % 281474976710656 from by omega]
  clear yy b0 b1 b2 b3 b4 m
  have hu0 : 0 ≤ t.toInt % 18446744073709551616 := by omega
  have hu1 : t.toInt % 18446744073709551616 < 18446744073709551616 := by omega
  generalize t.toInt % 18446744073709551616 = u at hu0 hu1 ⊢
  rw [show u % 281474976710656 / 32 % 32 = u / 32 % 32 from by omega]
  rw [show u / 64 = u / 32 / 2 from by omega, show u / 128 = u / 32 / 4 from by omega, show u / 256 = u / 32 / 8 from by omega, show u / 512 = u / 32 / 16 from by omega]
  generalize u / 32 = w
  omega
theorem own_fin9 (t hi lo : Int64) : own_sym ((((t &&& (281474976710655 : Int64)).toUInt64 >>> ((0 : Int32) &&& 0x3f).toInt64.toUInt64).toInt64).toInt32) = nar .char (own_symj (own_five t hi lo ((5 : Int32) * ((25 : Int32) - Int32.ofNat 9)))) := by
  apply own_symeq
  apply Int32.toInt_inj.mp
  rw [own_five_i]
  have b0 : (own_bit t hi lo ((5 : Int32) * ((25 : Int32) - Int32.ofNat 9))).toInt = t.toInt % 2 := by rw [show ((5 : Int32) * ((25 : Int32) - Int32.ofNat 9) : Int32) = (80 : Int32) from by decide]; unfold own_bit; rw [if_neg (by decide), if_neg (by decide), if_pos (by decide)]; rw [show ((80 : Int32) - (80 : Int32)) = (0 : Int32) from by decide]; rw [own_lu0, own_l1]
  have b1 : (own_bit t hi lo ((5 : Int32) * ((25 : Int32) - Int32.ofNat 9) + (1 : Int32))).toInt = t.toInt % 18446744073709551616 / 2 % 2 := by rw [show ((5 : Int32) * ((25 : Int32) - Int32.ofNat 9) + (1 : Int32) : Int32) = (81 : Int32) from by decide]; unfold own_bit; rw [if_neg (by decide), if_neg (by decide), if_pos (by decide)]; exact own_lb t _ 1 2 (by decide +kernel) (by decide) (by decide)
  have b2 : (own_bit t hi lo ((5 : Int32) * ((25 : Int32) - Int32.ofNat 9) + (2 : Int32))).toInt = t.toInt % 18446744073709551616 / 4 % 2 := by rw [show ((5 : Int32) * ((25 : Int32) - Int32.ofNat 9) + (2 : Int32) : Int32) = (82 : Int32) from by decide]; unfold own_bit; rw [if_neg (by decide), if_neg (by decide), if_pos (by decide)]; exact own_lb t _ 2 4 (by decide +kernel) (by decide) (by decide)
  have b3 : (own_bit t hi lo ((5 : Int32) * ((25 : Int32) - Int32.ofNat 9) + (3 : Int32))).toInt = t.toInt % 18446744073709551616 / 8 % 2 := by rw [show ((5 : Int32) * ((25 : Int32) - Int32.ofNat 9) + (3 : Int32) : Int32) = (83 : Int32) from by decide]; unfold own_bit; rw [if_neg (by decide), if_neg (by decide), if_pos (by decide)]; exact own_lb t _ 3 8 (by decide +kernel) (by decide) (by decide)
  have b4 : (own_bit t hi lo ((5 : Int32) * ((25 : Int32) - Int32.ofNat 9) + (4 : Int32))).toInt = t.toInt % 18446744073709551616 / 16 % 2 := by rw [show ((5 : Int32) * ((25 : Int32) - Int32.ofNat 9) + (4 : Int32) : Int32) = (84 : Int32) from by decide]; unfold own_bit; rw [if_neg (by decide), if_neg (by decide), if_pos (by decide)]; exact own_lb t _ 4 16 (by decide +kernel) (by decide) (by decide)
  have m : (t &&& (281474976710655 : Int64)).toInt = t.toInt % 281474976710656 := (c_maskL t 281474976710655 48 (by decide) (by decide +kernel)).trans (by rw [show ((2 ^ 48 : Nat) : Int) = 281474976710656 from by decide +kernel])
  have yy := own_y5 (((t &&& (281474976710655 : Int64)).toUInt64 >>> ((0 : Int32) &&& 0x3f).toInt64.toUInt64).toInt64)
  rw [own_lu0] at yy
  rw [own_lu0, yy, b0, b1, b2, b3, b4, m]
  rw [show t.toInt % 281474976710656 % 32 = t.toInt % 32 from by omega]
  exact own_bits0 _
theorem own_fin10 (t hi lo : Int64) : own_sym ((((hi &&& (65535 : Int64)).toUInt64 >>> ((11 : Int32) &&& 0x3f).toInt64.toUInt64).toInt64).toInt32) = nar .char (own_symj (own_five t hi lo ((5 : Int32) * ((25 : Int32) - Int32.ofNat 10)))) := by
  apply own_symeq
  apply Int32.toInt_inj.mp
  rw [own_five_i]
  have b0 : (own_bit t hi lo ((5 : Int32) * ((25 : Int32) - Int32.ofNat 10))).toInt = hi.toInt % 18446744073709551616 / 2048 % 2 := by rw [show ((5 : Int32) * ((25 : Int32) - Int32.ofNat 10) : Int32) = (75 : Int32) from by decide]; unfold own_bit; rw [if_neg (by decide), if_pos (by decide)]; exact own_lb hi _ 11 2048 (by decide +kernel) (by decide) (by decide)
  have b1 : (own_bit t hi lo ((5 : Int32) * ((25 : Int32) - Int32.ofNat 10) + (1 : Int32))).toInt = hi.toInt % 18446744073709551616 / 4096 % 2 := by rw [show ((5 : Int32) * ((25 : Int32) - Int32.ofNat 10) + (1 : Int32) : Int32) = (76 : Int32) from by decide]; unfold own_bit; rw [if_neg (by decide), if_pos (by decide)]; exact own_lb hi _ 12 4096 (by decide +kernel) (by decide) (by decide)
  have b2 : (own_bit t hi lo ((5 : Int32) * ((25 : Int32) - Int32.ofNat 10) + (2 : Int32))).toInt = hi.toInt % 18446744073709551616 / 8192 % 2 := by rw [show ((5 : Int32) * ((25 : Int32) - Int32.ofNat 10) + (2 : Int32) : Int32) = (77 : Int32) from by decide]; unfold own_bit; rw [if_neg (by decide), if_pos (by decide)]; exact own_lb hi _ 13 8192 (by decide +kernel) (by decide) (by decide)
  have b3 : (own_bit t hi lo ((5 : Int32) * ((25 : Int32) - Int32.ofNat 10) + (3 : Int32))).toInt = hi.toInt % 18446744073709551616 / 16384 % 2 := by rw [show ((5 : Int32) * ((25 : Int32) - Int32.ofNat 10) + (3 : Int32) : Int32) = (78 : Int32) from by decide]; unfold own_bit; rw [if_neg (by decide), if_pos (by decide)]; exact own_lb hi _ 14 16384 (by decide +kernel) (by decide) (by decide)
  have b4 : (own_bit t hi lo ((5 : Int32) * ((25 : Int32) - Int32.ofNat 10) + (4 : Int32))).toInt = hi.toInt % 18446744073709551616 / 32768 % 2 := by rw [show ((5 : Int32) * ((25 : Int32) - Int32.ofNat 10) + (4 : Int32) : Int32) = (79 : Int32) from by decide]; unfold own_bit; rw [if_neg (by decide), if_pos (by decide)]; exact own_lb hi _ 15 32768 (by decide +kernel) (by decide) (by decide)
  have m : (hi &&& (65535 : Int64)).toInt = hi.toInt % 65536 := (c_maskL hi 65535 16 (by decide) (by decide +kernel)).trans (by rw [show ((2 ^ 16 : Nat) : Int) = 65536 from by decide +kernel])
  have yy := own_yl (hi &&& (65535 : Int64)) (11 : Int32) 11 2048 (by decide +kernel) (by decide) (by decide)
  rw [yy, b0, b1, b2, b3, b4, m]
  rw [show hi.toInt % 65536 % 18446744073709551616 = hi.toInt % 65536 from by omega, show hi.toInt % 65536 = hi.toInt % 18446744073709551616 % 65536 from by omega]
  clear yy b0 b1 b2 b3 b4 m
  have hu0 : 0 ≤ hi.toInt % 18446744073709551616 := by omega
  have hu1 : hi.toInt % 18446744073709551616 < 18446744073709551616 := by omega
  generalize hi.toInt % 18446744073709551616 = u at hu0 hu1 ⊢
  rw [show u % 65536 / 2048 % 32 = u / 2048 % 32 from by omega]
  rw [show u / 4096 = u / 2048 / 2 from by omega, show u / 8192 = u / 2048 / 4 from by omega, show u / 16384 = u / 2048 / 8 from by omega, show u / 32768 = u / 2048 / 16 from by omega]
  generalize u / 2048 = w
  omega
theorem own_fin11 (t hi lo : Int64) : own_sym ((((hi &&& (65535 : Int64)).toUInt64 >>> ((6 : Int32) &&& 0x3f).toInt64.toUInt64).toInt64).toInt32) = nar .char (own_symj (own_five t hi lo ((5 : Int32) * ((25 : Int32) - Int32.ofNat 11)))) := by
  apply own_symeq
  apply Int32.toInt_inj.mp
  rw [own_five_i]
  have b0 : (own_bit t hi lo ((5 : Int32) * ((25 : Int32) - Int32.ofNat 11))).toInt = hi.toInt % 18446744073709551616 / 64 % 2 := by rw [show ((5 : Int32) * ((25 : Int32) - Int32.ofNat 11) : Int32) = (70 : Int32) from by decide]; unfold own_bit; rw [if_neg (by decide), if_pos (by decide)]; exact own_lb hi _ 6 64 (by decide +kernel) (by decide) (by decide)
  have b1 : (own_bit t hi lo ((5 : Int32) * ((25 : Int32) - Int32.ofNat 11) + (1 : Int32))).toInt = hi.toInt % 18446744073709551616 / 128 % 2 := by rw [show ((5 : Int32) * ((25 : Int32) - Int32.ofNat 11) + (1 : Int32) : Int32) = (71 : Int32) from by decide]; unfold own_bit; rw [if_neg (by decide), if_pos (by decide)]; exact own_lb hi _ 7 128 (by decide +kernel) (by decide) (by decide)
  have b2 : (own_bit t hi lo ((5 : Int32) * ((25 : Int32) - Int32.ofNat 11) + (2 : Int32))).toInt = hi.toInt % 18446744073709551616 / 256 % 2 := by rw [show ((5 : Int32) * ((25 : Int32) - Int32.ofNat 11) + (2 : Int32) : Int32) = (72 : Int32) from by decide]; unfold own_bit; rw [if_neg (by decide), if_pos (by decide)]; exact own_lb hi _ 8 256 (by decide +kernel) (by decide) (by decide)
  have b3 : (own_bit t hi lo ((5 : Int32) * ((25 : Int32) - Int32.ofNat 11) + (3 : Int32))).toInt = hi.toInt % 18446744073709551616 / 512 % 2 := by rw [show ((5 : Int32) * ((25 : Int32) - Int32.ofNat 11) + (3 : Int32) : Int32) = (73 : Int32) from by decide]; unfold own_bit; rw [if_neg (by decide), if_pos (by decide)]; exact own_lb hi _ 9 512 (by decide +kernel) (by decide) (by decide)
  have b4 : (own_bit t hi lo ((5 : Int32) * ((25 : Int32) - Int32.ofNat 11) + (4 : Int32))).toInt = hi.toInt % 18446744073709551616 / 1024 % 2 := by rw [show ((5 : Int32) * ((25 : Int32) - Int32.ofNat 11) + (4 : Int32) : Int32) = (74 : Int32) from by decide]; unfold own_bit; rw [if_neg (by decide), if_pos (by decide)]; exact own_lb hi _ 10 1024 (by decide +kernel) (by decide) (by decide)
  have m : (hi &&& (65535 : Int64)).toInt = hi.toInt % 65536 := (c_maskL hi 65535 16 (by decide) (by decide +kernel)).trans (by rw [show ((2 ^ 16 : Nat) : Int) = 65536 from by decide +kernel])
  have yy := own_yl (hi &&& (65535 : Int64)) (6 : Int32) 6 64 (by decide +kernel) (by decide) (by decide)
  rw [yy, b0, b1, b2, b3, b4, m]
  rw [show hi.toInt % 65536 % 18446744073709551616 = hi.toInt % 65536 from by omega, show hi.toInt % 65536 = hi.toInt % 18446744073709551616 % 65536 from by omega]
  clear yy b0 b1 b2 b3 b4 m
  have hu0 : 0 ≤ hi.toInt % 18446744073709551616 := by omega
  have hu1 : hi.toInt % 18446744073709551616 < 18446744073709551616 := by omega
  generalize hi.toInt % 18446744073709551616 = u at hu0 hu1 ⊢
  rw [show u % 65536 / 64 % 32 = u / 64 % 32 from by omega]
  rw [show u / 128 = u / 64 / 2 from by omega, show u / 256 = u / 64 / 4 from by omega, show u / 512 = u / 64 / 8 from by omega, show u / 1024 = u / 64 / 16 from by omega]
  generalize u / 64 = w
  omega
theorem own_fin12 (t hi lo : Int64) : own_sym ((((hi &&& (65535 : Int64)).toUInt64 >>> ((1 : Int32) &&& 0x3f).toInt64.toUInt64).toInt64).toInt32) = nar .char (own_symj (own_five t hi lo ((5 : Int32) * ((25 : Int32) - Int32.ofNat 12)))) := by
  apply own_symeq
  apply Int32.toInt_inj.mp
  rw [own_five_i]
  have b0 : (own_bit t hi lo ((5 : Int32) * ((25 : Int32) - Int32.ofNat 12))).toInt = hi.toInt % 18446744073709551616 / 2 % 2 := by rw [show ((5 : Int32) * ((25 : Int32) - Int32.ofNat 12) : Int32) = (65 : Int32) from by decide]; unfold own_bit; rw [if_neg (by decide), if_pos (by decide)]; exact own_lb hi _ 1 2 (by decide +kernel) (by decide) (by decide)
  have b1 : (own_bit t hi lo ((5 : Int32) * ((25 : Int32) - Int32.ofNat 12) + (1 : Int32))).toInt = hi.toInt % 18446744073709551616 / 4 % 2 := by rw [show ((5 : Int32) * ((25 : Int32) - Int32.ofNat 12) + (1 : Int32) : Int32) = (66 : Int32) from by decide]; unfold own_bit; rw [if_neg (by decide), if_pos (by decide)]; exact own_lb hi _ 2 4 (by decide +kernel) (by decide) (by decide)
  have b2 : (own_bit t hi lo ((5 : Int32) * ((25 : Int32) - Int32.ofNat 12) + (2 : Int32))).toInt = hi.toInt % 18446744073709551616 / 8 % 2 := by rw [show ((5 : Int32) * ((25 : Int32) - Int32.ofNat 12) + (2 : Int32) : Int32) = (67 : Int32) from by decide]; unfold own_bit; rw [if_neg (by decide), if_pos (by decide)]; exact own_lb hi _ 3 8 (by decide +kernel) (by decide) (by decide)
  have b3 : (own_bit t hi lo ((5 : Int32) * ((25 : Int32) - Int32.ofNat 12) + (3 : Int32))).toInt = hi.toInt % 18446744073709551616 / 16 % 2 := by rw [show ((5 : Int32) * ((25 : Int32) - Int32.ofNat 12) + (3 : Int32) : Int32) = (68 : Int32) from by decide]; unfold own_bit; rw [if_neg (by decide), if_pos (by decide)]; exact own_lb hi _ 4 16 (by decide +kernel) (by decide) (by decide)
  have b4 : (own_bit t hi lo ((5 : Int32) * ((25 : Int32) - Int32.ofNat 12) + (4 : Int32))).toInt = hi.toInt % 18446744073709551616 / 32 % 2 := by rw [show ((5 : Int32) * ((25 : Int32) - Int32.ofNat 12) + (4 : Int32) : Int32) = (69 : Int32) from by decide]; unfold own_bit; rw [if_neg (by decide), if_pos (by decide)]; exact own_lb hi _ 5 32 (by decide +kernel) (by decide) (by decide)
  have m : (hi &&& (65535 : Int64)).toInt = hi.toInt % 65536 := (c_maskL hi 65535 16 (by decide) (by decide +kernel)).trans (by rw [show ((2 ^ 16 : Nat) : Int) = 65536 from by decide +kernel])
  have yy := own_yl (hi &&& (65535 : Int64)) (1 : Int32) 1 2 (by decide +kernel) (by decide) (by decide)
  rw [yy, b0, b1, b2, b3, b4, m]
  rw [show hi.toInt % 65536 % 18446744073709551616 = hi.toInt % 65536 from by omega, show hi.toInt % 65536 = hi.toInt % 18446744073709551616 % 65536 from by omega]
  clear yy b0 b1 b2 b3 b4 m
  have hu0 : 0 ≤ hi.toInt % 18446744073709551616 := by omega
  have hu1 : hi.toInt % 18446744073709551616 < 18446744073709551616 := by omega
  generalize hi.toInt % 18446744073709551616 = u at hu0 hu1 ⊢
  rw [show u % 65536 / 2 % 32 = u / 2 % 32 from by omega]
  rw [show u / 4 = u / 2 / 2 from by omega, show u / 8 = u / 2 / 4 from by omega, show u / 16 = u / 2 / 8 from by omega, show u / 32 = u / 2 / 16 from by omega]
  generalize u / 2 = w
  omega
theorem own_fin13 (t hi lo : Int64) : own_sym ((((hi &&& (65535 : Int64)) <<< ((4 : Int32) &&& 0x3f).toInt64) ||| ((lo.toUInt64 >>> ((60 : Int32) &&& 0x3f).toInt64.toUInt64).toInt64)).toInt32) = nar .char (own_symj (own_five t hi lo ((5 : Int32) * ((25 : Int32) - Int32.ofNat 13)))) := by
  apply own_symeq
  apply Int32.toInt_inj.mp
  rw [own_five_i]
  have b0 : (own_bit t hi lo ((5 : Int32) * ((25 : Int32) - Int32.ofNat 13))).toInt = lo.toInt % 18446744073709551616 / 1152921504606846976 % 2 := by rw [show ((5 : Int32) * ((25 : Int32) - Int32.ofNat 13) : Int32) = (60 : Int32) from by decide]; unfold own_bit; rw [if_pos (by decide)]; exact own_lb lo _ 60 1152921504606846976 (by decide +kernel) (by decide) (by decide)
  have b1 : (own_bit t hi lo ((5 : Int32) * ((25 : Int32) - Int32.ofNat 13) + (1 : Int32))).toInt = lo.toInt % 18446744073709551616 / 2305843009213693952 % 2 := by rw [show ((5 : Int32) * ((25 : Int32) - Int32.ofNat 13) + (1 : Int32) : Int32) = (61 : Int32) from by decide]; unfold own_bit; rw [if_pos (by decide)]; exact own_lb lo _ 61 2305843009213693952 (by decide +kernel) (by decide) (by decide)
  have b2 : (own_bit t hi lo ((5 : Int32) * ((25 : Int32) - Int32.ofNat 13) + (2 : Int32))).toInt = lo.toInt % 18446744073709551616 / 4611686018427387904 % 2 := by rw [show ((5 : Int32) * ((25 : Int32) - Int32.ofNat 13) + (2 : Int32) : Int32) = (62 : Int32) from by decide]; unfold own_bit; rw [if_pos (by decide)]; exact own_lb lo _ 62 4611686018427387904 (by decide +kernel) (by decide) (by decide)
  have b3 : (own_bit t hi lo ((5 : Int32) * ((25 : Int32) - Int32.ofNat 13) + (3 : Int32))).toInt = lo.toInt % 18446744073709551616 / 9223372036854775808 % 2 := by rw [show ((5 : Int32) * ((25 : Int32) - Int32.ofNat 13) + (3 : Int32) : Int32) = (63 : Int32) from by decide]; unfold own_bit; rw [if_pos (by decide)]; exact own_lb lo _ 63 9223372036854775808 (by decide +kernel) (by decide) (by decide)
  have b4 : (own_bit t hi lo ((5 : Int32) * ((25 : Int32) - Int32.ofNat 13) + (4 : Int32))).toInt = hi.toInt % 2 := by rw [show ((5 : Int32) * ((25 : Int32) - Int32.ofNat 13) + (4 : Int32) : Int32) = (64 : Int32) from by decide]; unfold own_bit; rw [if_neg (by decide), if_pos (by decide)]; rw [show ((64 : Int32) - (64 : Int32)) = (0 : Int32) from by decide]; rw [own_lu0, own_l1]
  have m : (hi &&& (65535 : Int64)).toInt = hi.toInt % 65536 := (c_maskL hi 65535 16 (by decide) (by decide +kernel)).trans (by rw [show ((2 ^ 16 : Nat) : Int) = 65536 from by decide +kernel])
  have yy := own_y5 (((hi &&& (65535 : Int64)) <<< ((4 : Int32) &&& 0x3f).toInt64) ||| ((lo.toUInt64 >>> ((60 : Int32) &&& 0x3f).toInt64.toUInt64).toInt64))
  have l0 := c_lushr lo (60 : Int32) 60 (by decide) (by decide)
  have p60 : ((2 ^ 60 : Nat) : Int) = 1152921504606846976 := by decide +kernel
  rw [p60] at l0
  have sl := c_lshl (hi &&& (65535 : Int64)) (4 : Int32) 4 (by decide)
  have p4 : ((2 ^ 4 : Nat) : Int) = 16 := by decide
  rw [p4] at sl
  have c1 := Int64.toInt_lt ((hi &&& (65535 : Int64)) <<< ((4 : Int32) &&& 0x3f).toInt64)
  have c2 := Int64.le_toInt ((hi &&& (65535 : Int64)) <<< ((4 : Int32) &&& 0x3f).toInt64)
  have sl' : ((hi &&& (65535 : Int64)) <<< ((4 : Int32) &&& 0x3f).toInt64).toInt = 16 * (hi &&& (65535 : Int64)).toInt := by omega
  have oo := c_orL ((hi &&& (65535 : Int64)) <<< ((4 : Int32) &&& 0x3f).toInt64) ((lo.toUInt64 >>> ((60 : Int32) &&& 0x3f).toInt64.toUInt64).toInt64) 4 (by decide) 16 (by decide) (by omega) (by omega) (by omega)
  have c3 := Int64.toInt_lt (((hi &&& (65535 : Int64)) <<< ((4 : Int32) &&& 0x3f).toInt64) ||| ((lo.toUInt64 >>> ((60 : Int32) &&& 0x3f).toInt64.toUInt64).toInt64))
  have c4 := Int64.le_toInt (((hi &&& (65535 : Int64)) <<< ((4 : Int32) &&& 0x3f).toInt64) ||| ((lo.toUInt64 >>> ((60 : Int32) &&& 0x3f).toInt64.toUInt64).toInt64))
  have oo' : (((hi &&& (65535 : Int64)) <<< ((4 : Int32) &&& 0x3f).toInt64) ||| ((lo.toUInt64 >>> ((60 : Int32) &&& 0x3f).toInt64.toUInt64).toInt64)).toInt = 16 * (hi &&& (65535 : Int64)).toInt + ((lo.toUInt64 >>> ((60 : Int32) &&& 0x3f).toInt64.toUInt64).toInt64).toInt := by omega
  rw [yy, b0, b1, b2, b3, b4, oo', l0, m]
  clear yy b0 b1 b2 b3 b4 l0 p60 sl p4 c1 c2 sl' oo c3 c4 oo' m
  have hu0 : 0 ≤ lo.toInt % 18446744073709551616 := by omega
  have hu1 : lo.toInt % 18446744073709551616 < 18446744073709551616 := by omega
  generalize lo.toInt % 18446744073709551616 = u at hu0 hu1 ⊢
  have hw : 0 ≤ u / 1152921504606846976 ∧ u / 1152921504606846976 < 16 := by omega
  rw [show u / 2305843009213693952 = u / 1152921504606846976 / 2 from by omega, show u / 4611686018427387904 = u / 1152921504606846976 / 4 from by omega, show u / 9223372036854775808 = u / 1152921504606846976 / 8 from by omega]
  generalize u / 1152921504606846976 = w at hw ⊢
  clear hu0 hu1
  omega
theorem own_fin14 (t hi lo : Int64) : own_sym (((lo.toUInt64 >>> ((55 : Int32) &&& 0x3f).toInt64.toUInt64).toInt64).toInt32) = nar .char (own_symj (own_five t hi lo ((5 : Int32) * ((25 : Int32) - Int32.ofNat 14)))) := by
  apply own_symeq
  apply Int32.toInt_inj.mp
  rw [own_five_i]
  have b0 : (own_bit t hi lo ((5 : Int32) * ((25 : Int32) - Int32.ofNat 14))).toInt = lo.toInt % 18446744073709551616 / 36028797018963968 % 2 := by rw [show ((5 : Int32) * ((25 : Int32) - Int32.ofNat 14) : Int32) = (55 : Int32) from by decide]; unfold own_bit; rw [if_pos (by decide)]; exact own_lb lo _ 55 36028797018963968 (by decide +kernel) (by decide) (by decide)
  have b1 : (own_bit t hi lo ((5 : Int32) * ((25 : Int32) - Int32.ofNat 14) + (1 : Int32))).toInt = lo.toInt % 18446744073709551616 / 72057594037927936 % 2 := by rw [show ((5 : Int32) * ((25 : Int32) - Int32.ofNat 14) + (1 : Int32) : Int32) = (56 : Int32) from by decide]; unfold own_bit; rw [if_pos (by decide)]; exact own_lb lo _ 56 72057594037927936 (by decide +kernel) (by decide) (by decide)
  have b2 : (own_bit t hi lo ((5 : Int32) * ((25 : Int32) - Int32.ofNat 14) + (2 : Int32))).toInt = lo.toInt % 18446744073709551616 / 144115188075855872 % 2 := by rw [show ((5 : Int32) * ((25 : Int32) - Int32.ofNat 14) + (2 : Int32) : Int32) = (57 : Int32) from by decide]; unfold own_bit; rw [if_pos (by decide)]; exact own_lb lo _ 57 144115188075855872 (by decide +kernel) (by decide) (by decide)
  have b3 : (own_bit t hi lo ((5 : Int32) * ((25 : Int32) - Int32.ofNat 14) + (3 : Int32))).toInt = lo.toInt % 18446744073709551616 / 288230376151711744 % 2 := by rw [show ((5 : Int32) * ((25 : Int32) - Int32.ofNat 14) + (3 : Int32) : Int32) = (58 : Int32) from by decide]; unfold own_bit; rw [if_pos (by decide)]; exact own_lb lo _ 58 288230376151711744 (by decide +kernel) (by decide) (by decide)
  have b4 : (own_bit t hi lo ((5 : Int32) * ((25 : Int32) - Int32.ofNat 14) + (4 : Int32))).toInt = lo.toInt % 18446744073709551616 / 576460752303423488 % 2 := by rw [show ((5 : Int32) * ((25 : Int32) - Int32.ofNat 14) + (4 : Int32) : Int32) = (59 : Int32) from by decide]; unfold own_bit; rw [if_pos (by decide)]; exact own_lb lo _ 59 576460752303423488 (by decide +kernel) (by decide) (by decide)
  have yy := own_yl lo (55 : Int32) 55 36028797018963968 (by decide +kernel) (by decide) (by decide)
  rw [yy, b0, b1, b2, b3, b4]
  clear yy b0 b1 b2 b3 b4
  have hu0 : 0 ≤ lo.toInt % 18446744073709551616 := by omega
  have hu1 : lo.toInt % 18446744073709551616 < 18446744073709551616 := by omega
  generalize lo.toInt % 18446744073709551616 = u at hu0 hu1 ⊢
  rw [show u / 72057594037927936 = u / 36028797018963968 / 2 from by omega, show u / 144115188075855872 = u / 36028797018963968 / 4 from by omega, show u / 288230376151711744 = u / 36028797018963968 / 8 from by omega, show u / 576460752303423488 = u / 36028797018963968 / 16 from by omega]
  generalize u / 36028797018963968 = w
  omega
theorem own_fin15 (t hi lo : Int64) : own_sym (((lo.toUInt64 >>> ((50 : Int32) &&& 0x3f).toInt64.toUInt64).toInt64).toInt32) = nar .char (own_symj (own_five t hi lo ((5 : Int32) * ((25 : Int32) - Int32.ofNat 15)))) := by
  apply own_symeq
  apply Int32.toInt_inj.mp
  rw [own_five_i]
  have b0 : (own_bit t hi lo ((5 : Int32) * ((25 : Int32) - Int32.ofNat 15))).toInt = lo.toInt % 18446744073709551616 / 1125899906842624 % 2 := by rw [show ((5 : Int32) * ((25 : Int32) - Int32.ofNat 15) : Int32) = (50 : Int32) from by decide]; unfold own_bit; rw [if_pos (by decide)]; exact own_lb lo _ 50 1125899906842624 (by decide +kernel) (by decide) (by decide)
  have b1 : (own_bit t hi lo ((5 : Int32) * ((25 : Int32) - Int32.ofNat 15) + (1 : Int32))).toInt = lo.toInt % 18446744073709551616 / 2251799813685248 % 2 := by rw [show ((5 : Int32) * ((25 : Int32) - Int32.ofNat 15) + (1 : Int32) : Int32) = (51 : Int32) from by decide]; unfold own_bit; rw [if_pos (by decide)]; exact own_lb lo _ 51 2251799813685248 (by decide +kernel) (by decide) (by decide)
  have b2 : (own_bit t hi lo ((5 : Int32) * ((25 : Int32) - Int32.ofNat 15) + (2 : Int32))).toInt = lo.toInt % 18446744073709551616 / 4503599627370496 % 2 := by rw [show ((5 : Int32) * ((25 : Int32) - Int32.ofNat 15) + (2 : Int32) : Int32) = (52 : Int32) from by decide]; unfold own_bit; rw [if_pos (by decide)]; exact own_lb lo _ 52 4503599627370496 (by decide +kernel) (by decide) (by decide)
  have b3 : (own_bit t hi lo ((5 : Int32) * ((25 : Int32) - Int32.ofNat 15) + (3 : Int32))).toInt = lo.toInt % 18446744073709551616 / 9007199254740992 % 2 := by rw [show ((5 : Int32) * ((25 : Int32) - Int32.ofNat 15) + (3 : Int32) : Int32) = (53 : Int32) from by decide]; unfold own_bit; rw [if_pos (by decide)]; exact own_lb lo _ 53 9007199254740992 (by decide +kernel) (by decide) (by decide)
  have b4 : (own_bit t hi lo ((5 : Int32) * ((25 : Int32) - Int32.ofNat 15) + (4 : Int32))).toInt = lo.toInt % 18446744073709551616 / 18014398509481984 % 2 := by rw [show ((5 : Int32) * ((25 : Int32) - Int32.ofNat 15) + (4 : Int32) : Int32) = (54 : Int32) from by decide]; unfold own_bit; rw [if_pos (by decide)]; exact own_lb lo _ 54 18014398509481984 (by decide +kernel) (by decide) (by decide)
  have yy := own_yl lo (50 : Int32) 50 1125899906842624 (by decide +kernel) (by decide) (by decide)
  rw [yy, b0, b1, b2, b3, b4]
  clear yy b0 b1 b2 b3 b4
  have hu0 : 0 ≤ lo.toInt % 18446744073709551616 := by omega
  have hu1 : lo.toInt % 18446744073709551616 < 18446744073709551616 := by omega
  generalize lo.toInt % 18446744073709551616 = u at hu0 hu1 ⊢
  rw [show u / 2251799813685248 = u / 1125899906842624 / 2 from by omega, show u / 4503599627370496 = u / 1125899906842624 / 4 from by omega, show u / 9007199254740992 = u / 1125899906842624 / 8 from by omega, show u / 18014398509481984 = u / 1125899906842624 / 16 from by omega]
  generalize u / 1125899906842624 = w
  omega
theorem own_fin16 (t hi lo : Int64) : own_sym (((lo.toUInt64 >>> ((45 : Int32) &&& 0x3f).toInt64.toUInt64).toInt64).toInt32) = nar .char (own_symj (own_five t hi lo ((5 : Int32) * ((25 : Int32) - Int32.ofNat 16)))) := by
  apply own_symeq
  apply Int32.toInt_inj.mp
  rw [own_five_i]
  have b0 : (own_bit t hi lo ((5 : Int32) * ((25 : Int32) - Int32.ofNat 16))).toInt = lo.toInt % 18446744073709551616 / 35184372088832 % 2 := by rw [show ((5 : Int32) * ((25 : Int32) - Int32.ofNat 16) : Int32) = (45 : Int32) from by decide]; unfold own_bit; rw [if_pos (by decide)]; exact own_lb lo _ 45 35184372088832 (by decide +kernel) (by decide) (by decide)
  have b1 : (own_bit t hi lo ((5 : Int32) * ((25 : Int32) - Int32.ofNat 16) + (1 : Int32))).toInt = lo.toInt % 18446744073709551616 / 70368744177664 % 2 := by rw [show ((5 : Int32) * ((25 : Int32) - Int32.ofNat 16) + (1 : Int32) : Int32) = (46 : Int32) from by decide]; unfold own_bit; rw [if_pos (by decide)]; exact own_lb lo _ 46 70368744177664 (by decide +kernel) (by decide) (by decide)
  have b2 : (own_bit t hi lo ((5 : Int32) * ((25 : Int32) - Int32.ofNat 16) + (2 : Int32))).toInt = lo.toInt % 18446744073709551616 / 140737488355328 % 2 := by rw [show ((5 : Int32) * ((25 : Int32) - Int32.ofNat 16) + (2 : Int32) : Int32) = (47 : Int32) from by decide]; unfold own_bit; rw [if_pos (by decide)]; exact own_lb lo _ 47 140737488355328 (by decide +kernel) (by decide) (by decide)
  have b3 : (own_bit t hi lo ((5 : Int32) * ((25 : Int32) - Int32.ofNat 16) + (3 : Int32))).toInt = lo.toInt % 18446744073709551616 / 281474976710656 % 2 := by rw [show ((5 : Int32) * ((25 : Int32) - Int32.ofNat 16) + (3 : Int32) : Int32) = (48 : Int32) from by decide]; unfold own_bit; rw [if_pos (by decide)]; exact own_lb lo _ 48 281474976710656 (by decide +kernel) (by decide) (by decide)
  have b4 : (own_bit t hi lo ((5 : Int32) * ((25 : Int32) - Int32.ofNat 16) + (4 : Int32))).toInt = lo.toInt % 18446744073709551616 / 562949953421312 % 2 := by rw [show ((5 : Int32) * ((25 : Int32) - Int32.ofNat 16) + (4 : Int32) : Int32) = (49 : Int32) from by decide]; unfold own_bit; rw [if_pos (by decide)]; exact own_lb lo _ 49 562949953421312 (by decide +kernel) (by decide) (by decide)
  have yy := own_yl lo (45 : Int32) 45 35184372088832 (by decide +kernel) (by decide) (by decide)
  rw [yy, b0, b1, b2, b3, b4]
  clear yy b0 b1 b2 b3 b4
  have hu0 : 0 ≤ lo.toInt % 18446744073709551616 := by omega
  have hu1 : lo.toInt % 18446744073709551616 < 18446744073709551616 := by omega
  generalize lo.toInt % 18446744073709551616 = u at hu0 hu1 ⊢
  rw [show u / 70368744177664 = u / 35184372088832 / 2 from by omega, show u / 140737488355328 = u / 35184372088832 / 4 from by omega, show u / 281474976710656 = u / 35184372088832 / 8 from by omega, show u / 562949953421312 = u / 35184372088832 / 16 from by omega]
  generalize u / 35184372088832 = w
  omega
theorem own_fin17 (t hi lo : Int64) : own_sym (((lo.toUInt64 >>> ((40 : Int32) &&& 0x3f).toInt64.toUInt64).toInt64).toInt32) = nar .char (own_symj (own_five t hi lo ((5 : Int32) * ((25 : Int32) - Int32.ofNat 17)))) := by
  apply own_symeq
  apply Int32.toInt_inj.mp
  rw [own_five_i]
  have b0 : (own_bit t hi lo ((5 : Int32) * ((25 : Int32) - Int32.ofNat 17))).toInt = lo.toInt % 18446744073709551616 / 1099511627776 % 2 := by rw [show ((5 : Int32) * ((25 : Int32) - Int32.ofNat 17) : Int32) = (40 : Int32) from by decide]; unfold own_bit; rw [if_pos (by decide)]; exact own_lb lo _ 40 1099511627776 (by decide +kernel) (by decide) (by decide)
  have b1 : (own_bit t hi lo ((5 : Int32) * ((25 : Int32) - Int32.ofNat 17) + (1 : Int32))).toInt = lo.toInt % 18446744073709551616 / 2199023255552 % 2 := by rw [show ((5 : Int32) * ((25 : Int32) - Int32.ofNat 17) + (1 : Int32) : Int32) = (41 : Int32) from by decide]; unfold own_bit; rw [if_pos (by decide)]; exact own_lb lo _ 41 2199023255552 (by decide +kernel) (by decide) (by decide)
  have b2 : (own_bit t hi lo ((5 : Int32) * ((25 : Int32) - Int32.ofNat 17) + (2 : Int32))).toInt = lo.toInt % 18446744073709551616 / 4398046511104 % 2 := by rw [show ((5 : Int32) * ((25 : Int32) - Int32.ofNat 17) + (2 : Int32) : Int32) = (42 : Int32) from by decide]; unfold own_bit; rw [if_pos (by decide)]; exact own_lb lo _ 42 4398046511104 (by decide +kernel) (by decide) (by decide)
  have b3 : (own_bit t hi lo ((5 : Int32) * ((25 : Int32) - Int32.ofNat 17) + (3 : Int32))).toInt = lo.toInt % 18446744073709551616 / 8796093022208 % 2 := by rw [show ((5 : Int32) * ((25 : Int32) - Int32.ofNat 17) + (3 : Int32) : Int32) = (43 : Int32) from by decide]; unfold own_bit; rw [if_pos (by decide)]; exact own_lb lo _ 43 8796093022208 (by decide +kernel) (by decide) (by decide)
  have b4 : (own_bit t hi lo ((5 : Int32) * ((25 : Int32) - Int32.ofNat 17) + (4 : Int32))).toInt = lo.toInt % 18446744073709551616 / 17592186044416 % 2 := by rw [show ((5 : Int32) * ((25 : Int32) - Int32.ofNat 17) + (4 : Int32) : Int32) = (44 : Int32) from by decide]; unfold own_bit; rw [if_pos (by decide)]; exact own_lb lo _ 44 17592186044416 (by decide +kernel) (by decide) (by decide)
  have yy := own_yl lo (40 : Int32) 40 1099511627776 (by decide +kernel) (by decide) (by decide)
  rw [yy, b0, b1, b2, b3, b4]
  clear yy b0 b1 b2 b3 b4
  have hu0 : 0 ≤ lo.toInt % 18446744073709551616 := by omega
  have hu1 : lo.toInt % 18446744073709551616 < 18446744073709551616 := by omega
  generalize lo.toInt % 18446744073709551616 = u at hu0 hu1 ⊢
  rw [show u / 2199023255552 = u / 1099511627776 / 2 from by omega, show u / 4398046511104 = u / 1099511627776 / 4 from by omega, show u / 8796093022208 = u / 1099511627776 / 8 from by omega, show u / 17592186044416 = u / 1099511627776 / 16 from by omega]
  generalize u / 1099511627776 = w
  omega
theorem own_fin18 (t hi lo : Int64) : own_sym (((lo.toUInt64 >>> ((35 : Int32) &&& 0x3f).toInt64.toUInt64).toInt64).toInt32) = nar .char (own_symj (own_five t hi lo ((5 : Int32) * ((25 : Int32) - Int32.ofNat 18)))) := by
  apply own_symeq
  apply Int32.toInt_inj.mp
  rw [own_five_i]
  have b0 : (own_bit t hi lo ((5 : Int32) * ((25 : Int32) - Int32.ofNat 18))).toInt = lo.toInt % 18446744073709551616 / 34359738368 % 2 := by rw [show ((5 : Int32) * ((25 : Int32) - Int32.ofNat 18) : Int32) = (35 : Int32) from by decide]; unfold own_bit; rw [if_pos (by decide)]; exact own_lb lo _ 35 34359738368 (by decide +kernel) (by decide) (by decide)
  have b1 : (own_bit t hi lo ((5 : Int32) * ((25 : Int32) - Int32.ofNat 18) + (1 : Int32))).toInt = lo.toInt % 18446744073709551616 / 68719476736 % 2 := by rw [show ((5 : Int32) * ((25 : Int32) - Int32.ofNat 18) + (1 : Int32) : Int32) = (36 : Int32) from by decide]; unfold own_bit; rw [if_pos (by decide)]; exact own_lb lo _ 36 68719476736 (by decide +kernel) (by decide) (by decide)
  have b2 : (own_bit t hi lo ((5 : Int32) * ((25 : Int32) - Int32.ofNat 18) + (2 : Int32))).toInt = lo.toInt % 18446744073709551616 / 137438953472 % 2 := by rw [show ((5 : Int32) * ((25 : Int32) - Int32.ofNat 18) + (2 : Int32) : Int32) = (37 : Int32) from by decide]; unfold own_bit; rw [if_pos (by decide)]; exact own_lb lo _ 37 137438953472 (by decide +kernel) (by decide) (by decide)
  have b3 : (own_bit t hi lo ((5 : Int32) * ((25 : Int32) - Int32.ofNat 18) + (3 : Int32))).toInt = lo.toInt % 18446744073709551616 / 274877906944 % 2 := by rw [show ((5 : Int32) * ((25 : Int32) - Int32.ofNat 18) + (3 : Int32) : Int32) = (38 : Int32) from by decide]; unfold own_bit; rw [if_pos (by decide)]; exact own_lb lo _ 38 274877906944 (by decide +kernel) (by decide) (by decide)
  have b4 : (own_bit t hi lo ((5 : Int32) * ((25 : Int32) - Int32.ofNat 18) + (4 : Int32))).toInt = lo.toInt % 18446744073709551616 / 549755813888 % 2 := by rw [show ((5 : Int32) * ((25 : Int32) - Int32.ofNat 18) + (4 : Int32) : Int32) = (39 : Int32) from by decide]; unfold own_bit; rw [if_pos (by decide)]; exact own_lb lo _ 39 549755813888 (by decide +kernel) (by decide) (by decide)
  have yy := own_yl lo (35 : Int32) 35 34359738368 (by decide +kernel) (by decide) (by decide)
  rw [yy, b0, b1, b2, b3, b4]
  clear yy b0 b1 b2 b3 b4
  have hu0 : 0 ≤ lo.toInt % 18446744073709551616 := by omega
  have hu1 : lo.toInt % 18446744073709551616 < 18446744073709551616 := by omega
  generalize lo.toInt % 18446744073709551616 = u at hu0 hu1 ⊢
  rw [show u / 68719476736 = u / 34359738368 / 2 from by omega, show u / 137438953472 = u / 34359738368 / 4 from by omega, show u / 274877906944 = u / 34359738368 / 8 from by omega, show u / 549755813888 = u / 34359738368 / 16 from by omega]
  generalize u / 34359738368 = w
  omega
theorem own_fin19 (t hi lo : Int64) : own_sym (((lo.toUInt64 >>> ((30 : Int32) &&& 0x3f).toInt64.toUInt64).toInt64).toInt32) = nar .char (own_symj (own_five t hi lo ((5 : Int32) * ((25 : Int32) - Int32.ofNat 19)))) := by
  apply own_symeq
  apply Int32.toInt_inj.mp
  rw [own_five_i]
  have b0 : (own_bit t hi lo ((5 : Int32) * ((25 : Int32) - Int32.ofNat 19))).toInt = lo.toInt % 18446744073709551616 / 1073741824 % 2 := by rw [show ((5 : Int32) * ((25 : Int32) - Int32.ofNat 19) : Int32) = (30 : Int32) from by decide]; unfold own_bit; rw [if_pos (by decide)]; exact own_lb lo _ 30 1073741824 (by decide +kernel) (by decide) (by decide)
  have b1 : (own_bit t hi lo ((5 : Int32) * ((25 : Int32) - Int32.ofNat 19) + (1 : Int32))).toInt = lo.toInt % 18446744073709551616 / 2147483648 % 2 := by rw [show ((5 : Int32) * ((25 : Int32) - Int32.ofNat 19) + (1 : Int32) : Int32) = (31 : Int32) from by decide]; unfold own_bit; rw [if_pos (by decide)]; exact own_lb lo _ 31 2147483648 (by decide +kernel) (by decide) (by decide)
  have b2 : (own_bit t hi lo ((5 : Int32) * ((25 : Int32) - Int32.ofNat 19) + (2 : Int32))).toInt = lo.toInt % 18446744073709551616 / 4294967296 % 2 := by rw [show ((5 : Int32) * ((25 : Int32) - Int32.ofNat 19) + (2 : Int32) : Int32) = (32 : Int32) from by decide]; unfold own_bit; rw [if_pos (by decide)]; exact own_lb lo _ 32 4294967296 (by decide +kernel) (by decide) (by decide)
  have b3 : (own_bit t hi lo ((5 : Int32) * ((25 : Int32) - Int32.ofNat 19) + (3 : Int32))).toInt = lo.toInt % 18446744073709551616 / 8589934592 % 2 := by rw [show ((5 : Int32) * ((25 : Int32) - Int32.ofNat 19) + (3 : Int32) : Int32) = (33 : Int32) from by decide]; unfold own_bit; rw [if_pos (by decide)]; exact own_lb lo _ 33 8589934592 (by decide +kernel) (by decide) (by decide)
  have b4 : (own_bit t hi lo ((5 : Int32) * ((25 : Int32) - Int32.ofNat 19) + (4 : Int32))).toInt = lo.toInt % 18446744073709551616 / 17179869184 % 2 := by rw [show ((5 : Int32) * ((25 : Int32) - Int32.ofNat 19) + (4 : Int32) : Int32) = (34 : Int32) from by decide]; unfold own_bit; rw [if_pos (by decide)]; exact own_lb lo _ 34 17179869184 (by decide +kernel) (by decide) (by decide)
  have yy := own_yl lo (30 : Int32) 30 1073741824 (by decide +kernel) (by decide) (by decide)
  rw [yy, b0, b1, b2, b3, b4]
  clear yy b0 b1 b2 b3 b4
  have hu0 : 0 ≤ lo.toInt % 18446744073709551616 := by omega
  have hu1 : lo.toInt % 18446744073709551616 < 18446744073709551616 := by omega
  generalize lo.toInt % 18446744073709551616 = u at hu0 hu1 ⊢
  rw [show u / 2147483648 = u / 1073741824 / 2 from by omega, show u / 4294967296 = u / 1073741824 / 4 from by omega, show u / 8589934592 = u / 1073741824 / 8 from by omega, show u / 17179869184 = u / 1073741824 / 16 from by omega]
  generalize u / 1073741824 = w
  omega
theorem own_fin20 (t hi lo : Int64) : own_sym (((lo.toUInt64 >>> ((25 : Int32) &&& 0x3f).toInt64.toUInt64).toInt64).toInt32) = nar .char (own_symj (own_five t hi lo ((5 : Int32) * ((25 : Int32) - Int32.ofNat 20)))) := by
  apply own_symeq
  apply Int32.toInt_inj.mp
  rw [own_five_i]
  have b0 : (own_bit t hi lo ((5 : Int32) * ((25 : Int32) - Int32.ofNat 20))).toInt = lo.toInt % 18446744073709551616 / 33554432 % 2 := by rw [show ((5 : Int32) * ((25 : Int32) - Int32.ofNat 20) : Int32) = (25 : Int32) from by decide]; unfold own_bit; rw [if_pos (by decide)]; exact own_lb lo _ 25 33554432 (by decide +kernel) (by decide) (by decide)
  have b1 : (own_bit t hi lo ((5 : Int32) * ((25 : Int32) - Int32.ofNat 20) + (1 : Int32))).toInt = lo.toInt % 18446744073709551616 / 67108864 % 2 := by rw [show ((5 : Int32) * ((25 : Int32) - Int32.ofNat 20) + (1 : Int32) : Int32) = (26 : Int32) from by decide]; unfold own_bit; rw [if_pos (by decide)]; exact own_lb lo _ 26 67108864 (by decide +kernel) (by decide) (by decide)
  have b2 : (own_bit t hi lo ((5 : Int32) * ((25 : Int32) - Int32.ofNat 20) + (2 : Int32))).toInt = lo.toInt % 18446744073709551616 / 134217728 % 2 := by rw [show ((5 : Int32) * ((25 : Int32) - Int32.ofNat 20) + (2 : Int32) : Int32) = (27 : Int32) from by decide]; unfold own_bit; rw [if_pos (by decide)]; exact own_lb lo _ 27 134217728 (by decide +kernel) (by decide) (by decide)
  have b3 : (own_bit t hi lo ((5 : Int32) * ((25 : Int32) - Int32.ofNat 20) + (3 : Int32))).toInt = lo.toInt % 18446744073709551616 / 268435456 % 2 := by rw [show ((5 : Int32) * ((25 : Int32) - Int32.ofNat 20) + (3 : Int32) : Int32) = (28 : Int32) from by decide]; unfold own_bit; rw [if_pos (by decide)]; exact own_lb lo _ 28 268435456 (by decide +kernel) (by decide) (by decide)
  have b4 : (own_bit t hi lo ((5 : Int32) * ((25 : Int32) - Int32.ofNat 20) + (4 : Int32))).toInt = lo.toInt % 18446744073709551616 / 536870912 % 2 := by rw [show ((5 : Int32) * ((25 : Int32) - Int32.ofNat 20) + (4 : Int32) : Int32) = (29 : Int32) from by decide]; unfold own_bit; rw [if_pos (by decide)]; exact own_lb lo _ 29 536870912 (by decide +kernel) (by decide) (by decide)
  have yy := own_yl lo (25 : Int32) 25 33554432 (by decide +kernel) (by decide) (by decide)
  rw [yy, b0, b1, b2, b3, b4]
  clear yy b0 b1 b2 b3 b4
  have hu0 : 0 ≤ lo.toInt % 18446744073709551616 := by omega
  have hu1 : lo.toInt % 18446744073709551616 < 18446744073709551616 := by omega
  generalize lo.toInt % 18446744073709551616 = u at hu0 hu1 ⊢
  rw [show u / 67108864 = u / 33554432 / 2 from by omega, show u / 134217728 = u / 33554432 / 4 from by omega, show u / 268435456 = u / 33554432 / 8 from by omega, show u / 536870912 = u / 33554432 / 16 from by omega]
  generalize u / 33554432 = w
  omega
theorem own_fin21 (t hi lo : Int64) : own_sym (((lo.toUInt64 >>> ((20 : Int32) &&& 0x3f).toInt64.toUInt64).toInt64).toInt32) = nar .char (own_symj (own_five t hi lo ((5 : Int32) * ((25 : Int32) - Int32.ofNat 21)))) := by
  apply own_symeq
  apply Int32.toInt_inj.mp
  rw [own_five_i]
  have b0 : (own_bit t hi lo ((5 : Int32) * ((25 : Int32) - Int32.ofNat 21))).toInt = lo.toInt % 18446744073709551616 / 1048576 % 2 := by rw [show ((5 : Int32) * ((25 : Int32) - Int32.ofNat 21) : Int32) = (20 : Int32) from by decide]; unfold own_bit; rw [if_pos (by decide)]; exact own_lb lo _ 20 1048576 (by decide +kernel) (by decide) (by decide)
  have b1 : (own_bit t hi lo ((5 : Int32) * ((25 : Int32) - Int32.ofNat 21) + (1 : Int32))).toInt = lo.toInt % 18446744073709551616 / 2097152 % 2 := by rw [show ((5 : Int32) * ((25 : Int32) - Int32.ofNat 21) + (1 : Int32) : Int32) = (21 : Int32) from by decide]; unfold own_bit; rw [if_pos (by decide)]; exact own_lb lo _ 21 2097152 (by decide +kernel) (by decide) (by decide)
  have b2 : (own_bit t hi lo ((5 : Int32) * ((25 : Int32) - Int32.ofNat 21) + (2 : Int32))).toInt = lo.toInt % 18446744073709551616 / 4194304 % 2 := by rw [show ((5 : Int32) * ((25 : Int32) - Int32.ofNat 21) + (2 : Int32) : Int32) = (22 : Int32) from by decide]; unfold own_bit; rw [if_pos (by decide)]; exact own_lb lo _ 22 4194304 (by decide +kernel) (by decide) (by decide)
  have b3 : (own_bit t hi lo ((5 : Int32) * ((25 : Int32) - Int32.ofNat 21) + (3 : Int32))).toInt = lo.toInt % 18446744073709551616 / 8388608 % 2 := by rw [show ((5 : Int32) * ((25 : Int32) - Int32.ofNat 21) + (3 : Int32) : Int32) = (23 : Int32) from by decide]; unfold own_bit; rw [if_pos (by decide)]; exact own_lb lo _ 23 8388608 (by decide +kernel) (by decide) (by decide)
  have b4 : (own_bit t hi lo ((5 : Int32) * ((25 : Int32) - Int32.ofNat 21) + (4 : Int32))).toInt = lo.toInt % 18446744073709551616 / 16777216 % 2 := by rw [show ((5 : Int32) * ((25 : Int32) - Int32.ofNat 21) + (4 : Int32) : Int32) = (24 : Int32) from by decide]; unfold own_bit; rw [if_pos (by decide)]; exact own_lb lo _ 24 16777216 (by decide +kernel) (by decide) (by decide)
  have yy := own_yl lo (20 : Int32) 20 1048576 (by decide +kernel) (by decide) (by decide)
  rw [yy, b0, b1, b2, b3, b4]
  clear yy b0 b1 b2 b3 b4
  have hu0 : 0 ≤ lo.toInt % 18446744073709551616 := by omega
  have hu1 : lo.toInt % 18446744073709551616 < 18446744073709551616 := by omega
  generalize lo.toInt % 18446744073709551616 = u at hu0 hu1 ⊢
  rw [show u / 2097152 = u / 1048576 / 2 from by omega, show u / 4194304 = u / 1048576 / 4 from by omega, show u / 8388608 = u / 1048576 / 8 from by omega, show u / 16777216 = u / 1048576 / 16 from by omega]
  generalize u / 1048576 = w
  omega
theorem own_fin22 (t hi lo : Int64) : own_sym (((lo.toUInt64 >>> ((15 : Int32) &&& 0x3f).toInt64.toUInt64).toInt64).toInt32) = nar .char (own_symj (own_five t hi lo ((5 : Int32) * ((25 : Int32) - Int32.ofNat 22)))) := by
  apply own_symeq
  apply Int32.toInt_inj.mp
  rw [own_five_i]
  have b0 : (own_bit t hi lo ((5 : Int32) * ((25 : Int32) - Int32.ofNat 22))).toInt = lo.toInt % 18446744073709551616 / 32768 % 2 := by rw [show ((5 : Int32) * ((25 : Int32) - Int32.ofNat 22) : Int32) = (15 : Int32) from by decide]; unfold own_bit; rw [if_pos (by decide)]; exact own_lb lo _ 15 32768 (by decide +kernel) (by decide) (by decide)
  have b1 : (own_bit t hi lo ((5 : Int32) * ((25 : Int32) - Int32.ofNat 22) + (1 : Int32))).toInt = lo.toInt % 18446744073709551616 / 65536 % 2 := by rw [show ((5 : Int32) * ((25 : Int32) - Int32.ofNat 22) + (1 : Int32) : Int32) = (16 : Int32) from by decide]; unfold own_bit; rw [if_pos (by decide)]; exact own_lb lo _ 16 65536 (by decide +kernel) (by decide) (by decide)
  have b2 : (own_bit t hi lo ((5 : Int32) * ((25 : Int32) - Int32.ofNat 22) + (2 : Int32))).toInt = lo.toInt % 18446744073709551616 / 131072 % 2 := by rw [show ((5 : Int32) * ((25 : Int32) - Int32.ofNat 22) + (2 : Int32) : Int32) = (17 : Int32) from by decide]; unfold own_bit; rw [if_pos (by decide)]; exact own_lb lo _ 17 131072 (by decide +kernel) (by decide) (by decide)
  have b3 : (own_bit t hi lo ((5 : Int32) * ((25 : Int32) - Int32.ofNat 22) + (3 : Int32))).toInt = lo.toInt % 18446744073709551616 / 262144 % 2 := by rw [show ((5 : Int32) * ((25 : Int32) - Int32.ofNat 22) + (3 : Int32) : Int32) = (18 : Int32) from by decide]; unfold own_bit; rw [if_pos (by decide)]; exact own_lb lo _ 18 262144 (by decide +kernel) (by decide) (by decide)
  have b4 : (own_bit t hi lo ((5 : Int32) * ((25 : Int32) - Int32.ofNat 22) + (4 : Int32))).toInt = lo.toInt % 18446744073709551616 / 524288 % 2 := by rw [show ((5 : Int32) * ((25 : Int32) - Int32.ofNat 22) + (4 : Int32) : Int32) = (19 : Int32) from by decide]; unfold own_bit; rw [if_pos (by decide)]; exact own_lb lo _ 19 524288 (by decide +kernel) (by decide) (by decide)
  have yy := own_yl lo (15 : Int32) 15 32768 (by decide +kernel) (by decide) (by decide)
  rw [yy, b0, b1, b2, b3, b4]
  clear yy b0 b1 b2 b3 b4
  have hu0 : 0 ≤ lo.toInt % 18446744073709551616 := by omega
  have hu1 : lo.toInt % 18446744073709551616 < 18446744073709551616 := by omega
  generalize lo.toInt % 18446744073709551616 = u at hu0 hu1 ⊢
  rw [show u / 65536 = u / 32768 / 2 from by omega, show u / 131072 = u / 32768 / 4 from by omega, show u / 262144 = u / 32768 / 8 from by omega, show u / 524288 = u / 32768 / 16 from by omega]
  generalize u / 32768 = w
  omega
theorem own_fin23 (t hi lo : Int64) : own_sym (((lo.toUInt64 >>> ((10 : Int32) &&& 0x3f).toInt64.toUInt64).toInt64).toInt32) = nar .char (own_symj (own_five t hi lo ((5 : Int32) * ((25 : Int32) - Int32.ofNat 23)))) := by
  apply own_symeq
  apply Int32.toInt_inj.mp
  rw [own_five_i]
  have b0 : (own_bit t hi lo ((5 : Int32) * ((25 : Int32) - Int32.ofNat 23))).toInt = lo.toInt % 18446744073709551616 / 1024 % 2 := by rw [show ((5 : Int32) * ((25 : Int32) - Int32.ofNat 23) : Int32) = (10 : Int32) from by decide]; unfold own_bit; rw [if_pos (by decide)]; exact own_lb lo _ 10 1024 (by decide +kernel) (by decide) (by decide)
  have b1 : (own_bit t hi lo ((5 : Int32) * ((25 : Int32) - Int32.ofNat 23) + (1 : Int32))).toInt = lo.toInt % 18446744073709551616 / 2048 % 2 := by rw [show ((5 : Int32) * ((25 : Int32) - Int32.ofNat 23) + (1 : Int32) : Int32) = (11 : Int32) from by decide]; unfold own_bit; rw [if_pos (by decide)]; exact own_lb lo _ 11 2048 (by decide +kernel) (by decide) (by decide)
  have b2 : (own_bit t hi lo ((5 : Int32) * ((25 : Int32) - Int32.ofNat 23) + (2 : Int32))).toInt = lo.toInt % 18446744073709551616 / 4096 % 2 := by rw [show ((5 : Int32) * ((25 : Int32) - Int32.ofNat 23) + (2 : Int32) : Int32) = (12 : Int32) from by decide]; unfold own_bit; rw [if_pos (by decide)]; exact own_lb lo _ 12 4096 (by decide +kernel) (by decide) (by decide)
  have b3 : (own_bit t hi lo ((5 : Int32) * ((25 : Int32) - Int32.ofNat 23) + (3 : Int32))).toInt = lo.toInt % 18446744073709551616 / 8192 % 2 := by rw [show ((5 : Int32) * ((25 : Int32) - Int32.ofNat 23) + (3 : Int32) : Int32) = (13 : Int32) from by decide]; unfold own_bit; rw [if_pos (by decide)]; exact own_lb lo _ 13 8192 (by decide +kernel) (by decide) (by decide)
  have b4 : (own_bit t hi lo ((5 : Int32) * ((25 : Int32) - Int32.ofNat 23) + (4 : Int32))).toInt = lo.toInt % 18446744073709551616 / 16384 % 2 := by rw [show ((5 : Int32) * ((25 : Int32) - Int32.ofNat 23) + (4 : Int32) : Int32) = (14 : Int32) from by decide]; unfold own_bit; rw [if_pos (by decide)]; exact own_lb lo _ 14 16384 (by decide +kernel) (by decide) (by decide)
  have yy := own_yl lo (10 : Int32) 10 1024 (by decide +kernel) (by decide) (by decide)
  rw [yy, b0, b1, b2, b3, b4]
  clear yy b0 b1 b2 b3 b4
  have hu0 : 0 ≤ lo.toInt % 18446744073709551616 := by omega
  have hu1 : lo.toInt % 18446744073709551616 < 18446744073709551616 := by omega
  generalize lo.toInt % 18446744073709551616 = u at hu0 hu1 ⊢
  rw [show u / 2048 = u / 1024 / 2 from by omega, show u / 4096 = u / 1024 / 4 from by omega, show u / 8192 = u / 1024 / 8 from by omega, show u / 16384 = u / 1024 / 16 from by omega]
  generalize u / 1024 = w
  omega
theorem own_fin24 (t hi lo : Int64) : own_sym (((lo.toUInt64 >>> ((5 : Int32) &&& 0x3f).toInt64.toUInt64).toInt64).toInt32) = nar .char (own_symj (own_five t hi lo ((5 : Int32) * ((25 : Int32) - Int32.ofNat 24)))) := by
  apply own_symeq
  apply Int32.toInt_inj.mp
  rw [own_five_i]
  have b0 : (own_bit t hi lo ((5 : Int32) * ((25 : Int32) - Int32.ofNat 24))).toInt = lo.toInt % 18446744073709551616 / 32 % 2 := by rw [show ((5 : Int32) * ((25 : Int32) - Int32.ofNat 24) : Int32) = (5 : Int32) from by decide]; unfold own_bit; rw [if_pos (by decide)]; exact own_lb lo _ 5 32 (by decide +kernel) (by decide) (by decide)
  have b1 : (own_bit t hi lo ((5 : Int32) * ((25 : Int32) - Int32.ofNat 24) + (1 : Int32))).toInt = lo.toInt % 18446744073709551616 / 64 % 2 := by rw [show ((5 : Int32) * ((25 : Int32) - Int32.ofNat 24) + (1 : Int32) : Int32) = (6 : Int32) from by decide]; unfold own_bit; rw [if_pos (by decide)]; exact own_lb lo _ 6 64 (by decide +kernel) (by decide) (by decide)
  have b2 : (own_bit t hi lo ((5 : Int32) * ((25 : Int32) - Int32.ofNat 24) + (2 : Int32))).toInt = lo.toInt % 18446744073709551616 / 128 % 2 := by rw [show ((5 : Int32) * ((25 : Int32) - Int32.ofNat 24) + (2 : Int32) : Int32) = (7 : Int32) from by decide]; unfold own_bit; rw [if_pos (by decide)]; exact own_lb lo _ 7 128 (by decide +kernel) (by decide) (by decide)
  have b3 : (own_bit t hi lo ((5 : Int32) * ((25 : Int32) - Int32.ofNat 24) + (3 : Int32))).toInt = lo.toInt % 18446744073709551616 / 256 % 2 := by rw [show ((5 : Int32) * ((25 : Int32) - Int32.ofNat 24) + (3 : Int32) : Int32) = (8 : Int32) from by decide]; unfold own_bit; rw [if_pos (by decide)]; exact own_lb lo _ 8 256 (by decide +kernel) (by decide) (by decide)
  have b4 : (own_bit t hi lo ((5 : Int32) * ((25 : Int32) - Int32.ofNat 24) + (4 : Int32))).toInt = lo.toInt % 18446744073709551616 / 512 % 2 := by rw [show ((5 : Int32) * ((25 : Int32) - Int32.ofNat 24) + (4 : Int32) : Int32) = (9 : Int32) from by decide]; unfold own_bit; rw [if_pos (by decide)]; exact own_lb lo _ 9 512 (by decide +kernel) (by decide) (by decide)
  have yy := own_yl lo (5 : Int32) 5 32 (by decide +kernel) (by decide) (by decide)
  rw [yy, b0, b1, b2, b3, b4]
  clear yy b0 b1 b2 b3 b4
  have hu0 : 0 ≤ lo.toInt % 18446744073709551616 := by omega
  have hu1 : lo.toInt % 18446744073709551616 < 18446744073709551616 := by omega
  generalize lo.toInt % 18446744073709551616 = u at hu0 hu1 ⊢
  rw [show u / 64 = u / 32 / 2 from by omega, show u / 128 = u / 32 / 4 from by omega, show u / 256 = u / 32 / 8 from by omega, show u / 512 = u / 32 / 16 from by omega]
  generalize u / 32 = w
  omega
theorem own_fin25 (t hi lo : Int64) : own_sym (((lo.toUInt64 >>> ((0 : Int32) &&& 0x3f).toInt64.toUInt64).toInt64).toInt32) = nar .char (own_symj (own_five t hi lo ((5 : Int32) * ((25 : Int32) - Int32.ofNat 25)))) := by
  apply own_symeq
  apply Int32.toInt_inj.mp
  rw [own_five_i]
  have b0 : (own_bit t hi lo ((5 : Int32) * ((25 : Int32) - Int32.ofNat 25))).toInt = lo.toInt % 2 := by rw [show ((5 : Int32) * ((25 : Int32) - Int32.ofNat 25) : Int32) = (0 : Int32) from by decide]; unfold own_bit; rw [if_pos (by decide)]; rw [own_lu0, own_l1]
  have b1 : (own_bit t hi lo ((5 : Int32) * ((25 : Int32) - Int32.ofNat 25) + (1 : Int32))).toInt = lo.toInt % 18446744073709551616 / 2 % 2 := by rw [show ((5 : Int32) * ((25 : Int32) - Int32.ofNat 25) + (1 : Int32) : Int32) = (1 : Int32) from by decide]; unfold own_bit; rw [if_pos (by decide)]; exact own_lb lo _ 1 2 (by decide +kernel) (by decide) (by decide)
  have b2 : (own_bit t hi lo ((5 : Int32) * ((25 : Int32) - Int32.ofNat 25) + (2 : Int32))).toInt = lo.toInt % 18446744073709551616 / 4 % 2 := by rw [show ((5 : Int32) * ((25 : Int32) - Int32.ofNat 25) + (2 : Int32) : Int32) = (2 : Int32) from by decide]; unfold own_bit; rw [if_pos (by decide)]; exact own_lb lo _ 2 4 (by decide +kernel) (by decide) (by decide)
  have b3 : (own_bit t hi lo ((5 : Int32) * ((25 : Int32) - Int32.ofNat 25) + (3 : Int32))).toInt = lo.toInt % 18446744073709551616 / 8 % 2 := by rw [show ((5 : Int32) * ((25 : Int32) - Int32.ofNat 25) + (3 : Int32) : Int32) = (3 : Int32) from by decide]; unfold own_bit; rw [if_pos (by decide)]; exact own_lb lo _ 3 8 (by decide +kernel) (by decide) (by decide)
  have b4 : (own_bit t hi lo ((5 : Int32) * ((25 : Int32) - Int32.ofNat 25) + (4 : Int32))).toInt = lo.toInt % 18446744073709551616 / 16 % 2 := by rw [show ((5 : Int32) * ((25 : Int32) - Int32.ofNat 25) + (4 : Int32) : Int32) = (4 : Int32) from by decide]; unfold own_bit; rw [if_pos (by decide)]; exact own_lb lo _ 4 16 (by decide +kernel) (by decide) (by decide)
  have yy := own_y5 ((lo.toUInt64 >>> ((0 : Int32) &&& 0x3f).toInt64.toUInt64).toInt64)
  rw [own_lu0] at yy
  rw [own_lu0, yy, b0, b1, b2, b3, b4]
  exact own_bits0 _
set_option maxRecDepth 65536 in
set_option maxHeartbeats 40000000 in
theorem own_final (t hi lo : Int64) (n : Nat) (hn : n < 26) {kk : Int32} (hk : kk = (5 : Int32) * ((25 : Int32) - Int32.ofNat n)) : (own_enc t hi lo).getD n 0 = nar .char (own_symj (own_five t hi lo kk)) := by
  subst hk
  match n, hn with
  | 0, _ =>
    unfold own_enc
    simp only [List.getD_cons_succ, List.getD_cons_zero]
    exact own_fin0 t hi lo
  | 1, _ =>
    unfold own_enc
    simp only [List.getD_cons_succ, List.getD_cons_zero]
    exact own_fin1 t hi lo
  | 2, _ =>
    unfold own_enc
    simp only [List.getD_cons_succ, List.getD_cons_zero]
    exact own_fin2 t hi lo
  | 3, _ =>
    unfold own_enc
    simp only [List.getD_cons_succ, List.getD_cons_zero]
    exact own_fin3 t hi lo
  | 4, _ =>
    unfold own_enc
    simp only [List.getD_cons_succ, List.getD_cons_zero]
    exact own_fin4 t hi lo
  | 5, _ =>
    unfold own_enc
    simp only [List.getD_cons_succ, List.getD_cons_zero]
    exact own_fin5 t hi lo
  | 6, _ =>
    unfold own_enc
    simp only [List.getD_cons_succ, List.getD_cons_zero]
    exact own_fin6 t hi lo
  | 7, _ =>
    unfold own_enc
    simp only [List.getD_cons_succ, List.getD_cons_zero]
    exact own_fin7 t hi lo
  | 8, _ =>
    unfold own_enc
    simp only [List.getD_cons_succ, List.getD_cons_zero]
    exact own_fin8 t hi lo
  | 9, _ =>
    unfold own_enc
    simp only [List.getD_cons_succ, List.getD_cons_zero]
    exact own_fin9 t hi lo
  | 10, _ =>
    unfold own_enc
    simp only [List.getD_cons_succ, List.getD_cons_zero]
    exact own_fin10 t hi lo
  | 11, _ =>
    unfold own_enc
    simp only [List.getD_cons_succ, List.getD_cons_zero]
    exact own_fin11 t hi lo
  | 12, _ =>
    unfold own_enc
    simp only [List.getD_cons_succ, List.getD_cons_zero]
    exact own_fin12 t hi lo
  | 13, _ =>
    unfold own_enc
    simp only [List.getD_cons_succ, List.getD_cons_zero]
    exact own_fin13 t hi lo
  | 14, _ =>
    unfold own_enc
    simp only [List.getD_cons_succ, List.getD_cons_zero]
    exact own_fin14 t hi lo
  | 15, _ =>
    unfold own_enc
    simp only [List.getD_cons_succ, List.getD_cons_zero]
    exact own_fin15 t hi lo
  | 16, _ =>
    unfold own_enc
    simp only [List.getD_cons_succ, List.getD_cons_zero]
    exact own_fin16 t hi lo
  | 17, _ =>
    unfold own_enc
    simp only [List.getD_cons_succ, List.getD_cons_zero]
    exact own_fin17 t hi lo
  | 18, _ =>
    unfold own_enc
    simp only [List.getD_cons_succ, List.getD_cons_zero]
    exact own_fin18 t hi lo
  | 19, _ =>
    unfold own_enc
    simp only [List.getD_cons_succ, List.getD_cons_zero]
    exact own_fin19 t hi lo
  | 20, _ =>
    unfold own_enc
    simp only [List.getD_cons_succ, List.getD_cons_zero]
    exact own_fin20 t hi lo
  | 21, _ =>
    unfold own_enc
    simp only [List.getD_cons_succ, List.getD_cons_zero]
    exact own_fin21 t hi lo
  | 22, _ =>
    unfold own_enc
    simp only [List.getD_cons_succ, List.getD_cons_zero]
    exact own_fin22 t hi lo
  | 23, _ =>
    unfold own_enc
    simp only [List.getD_cons_succ, List.getD_cons_zero]
    exact own_fin23 t hi lo
  | 24, _ =>
    unfold own_enc
    simp only [List.getD_cons_succ, List.getD_cons_zero]
    exact own_fin24 t hi lo
  | 25, _ =>
    unfold own_enc
    simp only [List.getD_cons_succ, List.getD_cons_zero]
    exact own_fin25 t hi lo
  | k + 26, h => exact absurd h (by omega)
theorem own_or_f {args : Array Value} {first s : State} {o : Option Outcome} {idx : List Nat} {c d : Jvm.Cond} (h : (Jvm.Cond.or c d).value args first o s idx = some true) (hc : c.value args first o s idx = some false) : d.value args first o s idx = some true := by
  simpa [Jvm.Cond.value, hc] using h
theorem own_lenN {args : Array Value} {first s : State} {o : Option Outcome} {idx : List Nat} {t : Term} {x : Addr} {cl : Cell} (ht : t.eval args first o idx s = some (.ref x)) (ha : s.arrayAt? x = some cl) (hl : ¬ cl.slots.size < 2 ^ 31) : (Term.length t).eval args first o idx s = none := by simp [Term.eval, ht, ha, hl]
theorem own_elem {Z : State} {args : Array Value} {t : Term} {al : Addr} {cl : Cell} (hf : Fit Z) (A : Arr Z Z.heap al cl .char) (S : cl.slots.size = 32) {i : Nat} (hi : i < 32) (ev : t.eval args Z none [i] Z = some (.ref al)) {off : Int64} {c : Int32} (hc : c.toInt = (i : Int) + off.toInt) (ho : 0 ≤ off.toInt ∧ off.toInt < 100)
    (h : (Jvm.Cond.eq (.op1 .i2l (.elem t (.index 0))) (.op2 .ladd (.op1 .i2l (.index 0)) (.long off))).value args Z none Z [i] = some true) : cl.slots[i]? = some (.int c) := by
  have harr := A.fin (State.Warmed39.refl Z).alike
  have e1 : i.toInt32.toInt = i := len_toInt (by omega)
  have hj : ¬ (i.toInt32 < 0 ∨ cl.slots.size ≤ i.toInt32.toNatClampNeg) := idx_in (by omega) (by omega)
  have en : i.toInt32.toNatClampNeg = i := by simp only [Int32.toNatClampNeg, e1]; rfl
  obtain ⟨v, hv, fv⟩ := elem_fit hf A hj
  obtain ⟨x, rfl⟩ := fit_I fv (by simp)
  have ei : (Term.index 0).eval args Z none [i] Z = some (.int i.toInt32) := by first | rfl | simp [Term.eval]
  have eE := elem_f ev ei harr (fun q => hj (Or.inl q))
  rw [hv] at eE
  have v1 : (Term.op1 .i2l (.elem t (.index 0))).eval args Z none [i] Z = some (.long x.toInt64) := (op1_f eE).trans rfl
  have v2 : (Term.op1 .i2l (.index 0)).eval args Z none [i] Z = some (.long i.toInt32.toInt64) := (op1_f ei).trans rfl
  have v3 : (Term.long off).eval args Z none [i] Z = some (.long off) := rfl
  have v4 : (Term.op2 .ladd (.op1 .i2l (.index 0)) (.long off)).eval args Z none [i] Z = some (.long (i.toInt32.toInt64 + off)) := (op2_f v2 v3).trans rfl
  have g := gotT (eq_L v1 v4) h
  have g2 := congrArg Int64.toInt g
  rw [c_i2l] at g2
  have q := c_ladd i.toInt32.toInt64 off
  rw [c_i2l, e1] at q
  have q1 := Int64.toInt_lt (i.toInt32.toInt64 + off)
  have q2 := Int64.le_toInt (i.toInt32.toInt64 + off)
  have q3 := Int32.toInt_lt x
  have q4 := Int32.le_toInt x
  have : x = c := Int32.toInt_inj.mp (by omega)
  rw [en] at hv
  rw [hv, this]
theorem own_alph {Z : State} {args : Array Value} (hf : Fit Z) {al : Addr} (ev : (Jvm.Term.static "com/example/relaywright/relaywright/outbox/EventIds" "ALPHABET" "[C").eval args Z none [] Z = some (.ref al)) (hn : narrow_1.value args Z none Z [] = some true) : ∃ k, Arv Z Z.heap al k .char (32 : Int32) own_al (.int (0 : Int32)) := by
  obtain ⟨q0, hn⟩ := and_e hn
  obtain ⟨q1, hn⟩ := and_e hn
  obtain ⟨q2, hn⟩ := and_e hn
  obtain ⟨q3, hn⟩ := and_e hn
  obtain ⟨q4, hn⟩ := and_e hn
  obtain ⟨q5, hn⟩ := and_e hn
  obtain ⟨q6, hn⟩ := and_e hn
  obtain ⟨q7, hn⟩ := and_e hn
  obtain ⟨q8, q9⟩ := and_e hn
  obtain ⟨cl, A⟩ := Arr.start ev q0
  have harr := A.fin (State.Warmed39.refl Z).alike
  have hl : (Term.length (Jvm.Term.static "com/example/relaywright/relaywright/outbox/EventIds" "ALPHABET" "[C")).eval args Z none [] Z = some (.int (32 : Int32)) := Cond.eq_int (first := Z) (t := Z) (args := args) (Cond.before_iff.mpr q1) rfl
  have hlt : cl.slots.size < 2 ^ 31 := by
    by_cases q : cl.slots.size < 2 ^ 31
    · exact q
    · rw [own_lenN ev harr q] at hl
      cases hl
  have hz : cl.slots.size.toInt32 = (32 : Int32) := by
    have e := (len_f ev harr hlt).symm.trans hl
    simpa using e
  have S : cl.slots.size = 32 := by
    have e := len_toInt hlt
    rw [hz] at e
    have t : (32 : Int32).toInt = 32 := by decide
    omega
  have evi : ∀ i : Nat, (Jvm.Term.static "com/example/relaywright/relaywright/outbox/EventIds" "ALPHABET" "[C").eval args Z none [i] Z = some (.ref al) := fun i => by simpa [Term.eval] using ev
  have c0 : cl.slots[0]? = some (.int (48 : Int32)) := own_elem hf A S (i := 0) (by decide) (evi 0) (off := (48 : Int64)) (by decide) (by decide) (own_or_f (Cond.all_elim ev harr q2 0 (by rw [S]; decide)) (by rw [Cond.le_ints (x := (10 : Int32)) (y := Nat.toInt32 0) rfl rfl]; decide))
  have c1 : cl.slots[1]? = some (.int (49 : Int32)) := own_elem hf A S (i := 1) (by decide) (evi 1) (off := (48 : Int64)) (by decide) (by decide) (own_or_f (Cond.all_elim ev harr q2 1 (by rw [S]; decide)) (by rw [Cond.le_ints (x := (10 : Int32)) (y := Nat.toInt32 1) rfl rfl]; decide))
  have c2 : cl.slots[2]? = some (.int (50 : Int32)) := own_elem hf A S (i := 2) (by decide) (evi 2) (off := (48 : Int64)) (by decide) (by decide) (own_or_f (Cond.all_elim ev harr q2 2 (by rw [S]; decide)) (by rw [Cond.le_ints (x := (10 : Int32)) (y := Nat.toInt32 2) rfl rfl]; decide))
  have c3 : cl.slots[3]? = some (.int (51 : Int32)) := own_elem hf A S (i := 3) (by decide) (evi 3) (off := (48 : Int64)) (by decide) (by decide) (own_or_f (Cond.all_elim ev harr q2 3 (by rw [S]; decide)) (by rw [Cond.le_ints (x := (10 : Int32)) (y := Nat.toInt32 3) rfl rfl]; decide))
  have c4 : cl.slots[4]? = some (.int (52 : Int32)) := own_elem hf A S (i := 4) (by decide) (evi 4) (off := (48 : Int64)) (by decide) (by decide) (own_or_f (Cond.all_elim ev harr q2 4 (by rw [S]; decide)) (by rw [Cond.le_ints (x := (10 : Int32)) (y := Nat.toInt32 4) rfl rfl]; decide))
  have c5 : cl.slots[5]? = some (.int (53 : Int32)) := own_elem hf A S (i := 5) (by decide) (evi 5) (off := (48 : Int64)) (by decide) (by decide) (own_or_f (Cond.all_elim ev harr q2 5 (by rw [S]; decide)) (by rw [Cond.le_ints (x := (10 : Int32)) (y := Nat.toInt32 5) rfl rfl]; decide))
  have c6 : cl.slots[6]? = some (.int (54 : Int32)) := own_elem hf A S (i := 6) (by decide) (evi 6) (off := (48 : Int64)) (by decide) (by decide) (own_or_f (Cond.all_elim ev harr q2 6 (by rw [S]; decide)) (by rw [Cond.le_ints (x := (10 : Int32)) (y := Nat.toInt32 6) rfl rfl]; decide))
  have c7 : cl.slots[7]? = some (.int (55 : Int32)) := own_elem hf A S (i := 7) (by decide) (evi 7) (off := (48 : Int64)) (by decide) (by decide) (own_or_f (Cond.all_elim ev harr q2 7 (by rw [S]; decide)) (by rw [Cond.le_ints (x := (10 : Int32)) (y := Nat.toInt32 7) rfl rfl]; decide))
  have c8 : cl.slots[8]? = some (.int (56 : Int32)) := own_elem hf A S (i := 8) (by decide) (evi 8) (off := (48 : Int64)) (by decide) (by decide) (own_or_f (Cond.all_elim ev harr q2 8 (by rw [S]; decide)) (by rw [Cond.le_ints (x := (10 : Int32)) (y := Nat.toInt32 8) rfl rfl]; decide))
  have c9 : cl.slots[9]? = some (.int (57 : Int32)) := own_elem hf A S (i := 9) (by decide) (evi 9) (off := (48 : Int64)) (by decide) (by decide) (own_or_f (Cond.all_elim ev harr q2 9 (by rw [S]; decide)) (by rw [Cond.le_ints (x := (10 : Int32)) (y := Nat.toInt32 9) rfl rfl]; decide))
  have c10 : cl.slots[10]? = some (.int (65 : Int32)) := own_elem hf A S (i := 10) (by decide) (evi 10) (off := (55 : Int64)) (by decide) (by decide) (own_or_f (own_or_f (Cond.all_elim ev harr q3 10 (by rw [S]; decide)) (by rw [Cond.lt_ints (x := Nat.toInt32 10) (y := (10 : Int32)) rfl rfl]; decide)) (by rw [Cond.le_ints (x := (18 : Int32)) (y := Nat.toInt32 10) rfl rfl]; decide))
  have c11 : cl.slots[11]? = some (.int (66 : Int32)) := own_elem hf A S (i := 11) (by decide) (evi 11) (off := (55 : Int64)) (by decide) (by decide) (own_or_f (own_or_f (Cond.all_elim ev harr q3 11 (by rw [S]; decide)) (by rw [Cond.lt_ints (x := Nat.toInt32 11) (y := (10 : Int32)) rfl rfl]; decide)) (by rw [Cond.le_ints (x := (18 : Int32)) (y := Nat.toInt32 11) rfl rfl]; decide))
  have c12 : cl.slots[12]? = some (.int (67 : Int32)) := own_elem hf A S (i := 12) (by decide) (evi 12) (off := (55 : Int64)) (by decide) (by decide) (own_or_f (own_or_f (Cond.all_elim ev harr q3 12 (by rw [S]; decide)) (by rw [Cond.lt_ints (x := Nat.toInt32 12) (y := (10 : Int32)) rfl rfl]; decide)) (by rw [Cond.le_ints (x := (18 : Int32)) (y := Nat.toInt32 12) rfl rfl]; decide))
  have c13 : cl.slots[13]? = some (.int (68 : Int32)) := own_elem hf A S (i := 13) (by decide) (evi 13) (off := (55 : Int64)) (by decide) (by decide) (own_or_f (own_or_f (Cond.all_elim ev harr q3 13 (by rw [S]; decide)) (by rw [Cond.lt_ints (x := Nat.toInt32 13) (y := (10 : Int32)) rfl rfl]; decide)) (by rw [Cond.le_ints (x := (18 : Int32)) (y := Nat.toInt32 13) rfl rfl]; decide))
  have c14 : cl.slots[14]? = some (.int (69 : Int32)) := own_elem hf A S (i := 14) (by decide) (evi 14) (off := (55 : Int64)) (by decide) (by decide) (own_or_f (own_or_f (Cond.all_elim ev harr q3 14 (by rw [S]; decide)) (by rw [Cond.lt_ints (x := Nat.toInt32 14) (y := (10 : Int32)) rfl rfl]; decide)) (by rw [Cond.le_ints (x := (18 : Int32)) (y := Nat.toInt32 14) rfl rfl]; decide))
  have c15 : cl.slots[15]? = some (.int (70 : Int32)) := own_elem hf A S (i := 15) (by decide) (evi 15) (off := (55 : Int64)) (by decide) (by decide) (own_or_f (own_or_f (Cond.all_elim ev harr q3 15 (by rw [S]; decide)) (by rw [Cond.lt_ints (x := Nat.toInt32 15) (y := (10 : Int32)) rfl rfl]; decide)) (by rw [Cond.le_ints (x := (18 : Int32)) (y := Nat.toInt32 15) rfl rfl]; decide))
  have c16 : cl.slots[16]? = some (.int (71 : Int32)) := own_elem hf A S (i := 16) (by decide) (evi 16) (off := (55 : Int64)) (by decide) (by decide) (own_or_f (own_or_f (Cond.all_elim ev harr q3 16 (by rw [S]; decide)) (by rw [Cond.lt_ints (x := Nat.toInt32 16) (y := (10 : Int32)) rfl rfl]; decide)) (by rw [Cond.le_ints (x := (18 : Int32)) (y := Nat.toInt32 16) rfl rfl]; decide))
  have c17 : cl.slots[17]? = some (.int (72 : Int32)) := own_elem hf A S (i := 17) (by decide) (evi 17) (off := (55 : Int64)) (by decide) (by decide) (own_or_f (own_or_f (Cond.all_elim ev harr q3 17 (by rw [S]; decide)) (by rw [Cond.lt_ints (x := Nat.toInt32 17) (y := (10 : Int32)) rfl rfl]; decide)) (by rw [Cond.le_ints (x := (18 : Int32)) (y := Nat.toInt32 17) rfl rfl]; decide))
  have c18 : cl.slots[18]? = some (.int (74 : Int32)) := (elem_in (Cond.eq_int (first := Z) (t := Z) (args := args) (Cond.before_iff.mpr q4) rfl) ev (Term.int_eval (18 : Int32)) A.1).2
  have c19 : cl.slots[19]? = some (.int (75 : Int32)) := (elem_in (Cond.eq_int (first := Z) (t := Z) (args := args) (Cond.before_iff.mpr q5) rfl) ev (Term.int_eval (19 : Int32)) A.1).2
  have c20 : cl.slots[20]? = some (.int (77 : Int32)) := (elem_in (Cond.eq_int (first := Z) (t := Z) (args := args) (Cond.before_iff.mpr q6) rfl) ev (Term.int_eval (20 : Int32)) A.1).2
  have c21 : cl.slots[21]? = some (.int (78 : Int32)) := (elem_in (Cond.eq_int (first := Z) (t := Z) (args := args) (Cond.before_iff.mpr q7) rfl) ev (Term.int_eval (21 : Int32)) A.1).2
  have c22 : cl.slots[22]? = some (.int (80 : Int32)) := own_elem hf A S (i := 22) (by decide) (evi 22) (off := (58 : Int64)) (by decide) (by decide) (own_or_f (own_or_f (Cond.all_elim ev harr q8 22 (by rw [S]; decide)) (by rw [Cond.lt_ints (x := Nat.toInt32 22) (y := (22 : Int32)) rfl rfl]; decide)) (by rw [Cond.le_ints (x := (27 : Int32)) (y := Nat.toInt32 22) rfl rfl]; decide))
  have c23 : cl.slots[23]? = some (.int (81 : Int32)) := own_elem hf A S (i := 23) (by decide) (evi 23) (off := (58 : Int64)) (by decide) (by decide) (own_or_f (own_or_f (Cond.all_elim ev harr q8 23 (by rw [S]; decide)) (by rw [Cond.lt_ints (x := Nat.toInt32 23) (y := (22 : Int32)) rfl rfl]; decide)) (by rw [Cond.le_ints (x := (27 : Int32)) (y := Nat.toInt32 23) rfl rfl]; decide))
  have c24 : cl.slots[24]? = some (.int (82 : Int32)) := own_elem hf A S (i := 24) (by decide) (evi 24) (off := (58 : Int64)) (by decide) (by decide) (own_or_f (own_or_f (Cond.all_elim ev harr q8 24 (by rw [S]; decide)) (by rw [Cond.lt_ints (x := Nat.toInt32 24) (y := (22 : Int32)) rfl rfl]; decide)) (by rw [Cond.le_ints (x := (27 : Int32)) (y := Nat.toInt32 24) rfl rfl]; decide))
  have c25 : cl.slots[25]? = some (.int (83 : Int32)) := own_elem hf A S (i := 25) (by decide) (evi 25) (off := (58 : Int64)) (by decide) (by decide) (own_or_f (own_or_f (Cond.all_elim ev harr q8 25 (by rw [S]; decide)) (by rw [Cond.lt_ints (x := Nat.toInt32 25) (y := (22 : Int32)) rfl rfl]; decide)) (by rw [Cond.le_ints (x := (27 : Int32)) (y := Nat.toInt32 25) rfl rfl]; decide))
  have c26 : cl.slots[26]? = some (.int (84 : Int32)) := own_elem hf A S (i := 26) (by decide) (evi 26) (off := (58 : Int64)) (by decide) (by decide) (own_or_f (own_or_f (Cond.all_elim ev harr q8 26 (by rw [S]; decide)) (by rw [Cond.lt_ints (x := Nat.toInt32 26) (y := (22 : Int32)) rfl rfl]; decide)) (by rw [Cond.le_ints (x := (27 : Int32)) (y := Nat.toInt32 26) rfl rfl]; decide))
  have c27 : cl.slots[27]? = some (.int (86 : Int32)) := own_elem hf A S (i := 27) (by decide) (evi 27) (off := (59 : Int64)) (by decide) (by decide) (own_or_f (Cond.all_elim ev harr q9 27 (by rw [S]; decide)) (by rw [Cond.lt_ints (x := Nat.toInt32 27) (y := (27 : Int32)) rfl rfl]; decide))
  have c28 : cl.slots[28]? = some (.int (87 : Int32)) := own_elem hf A S (i := 28) (by decide) (evi 28) (off := (59 : Int64)) (by decide) (by decide) (own_or_f (Cond.all_elim ev harr q9 28 (by rw [S]; decide)) (by rw [Cond.lt_ints (x := Nat.toInt32 28) (y := (27 : Int32)) rfl rfl]; decide))
  have c29 : cl.slots[29]? = some (.int (88 : Int32)) := own_elem hf A S (i := 29) (by decide) (evi 29) (off := (59 : Int64)) (by decide) (by decide) (own_or_f (Cond.all_elim ev harr q9 29 (by rw [S]; decide)) (by rw [Cond.lt_ints (x := Nat.toInt32 29) (y := (27 : Int32)) rfl rfl]; decide))
  have c30 : cl.slots[30]? = some (.int (89 : Int32)) := own_elem hf A S (i := 30) (by decide) (evi 30) (off := (59 : Int64)) (by decide) (by decide) (own_or_f (Cond.all_elim ev harr q9 30 (by rw [S]; decide)) (by rw [Cond.lt_ints (x := Nat.toInt32 30) (y := (27 : Int32)) rfl rfl]; decide))
  have c31 : cl.slots[31]? = some (.int (90 : Int32)) := own_elem hf A S (i := 31) (by decide) (evi 31) (off := (59 : Int64)) (by decide) (by decide) (own_or_f (Cond.all_elim ev harr q9 31 (by rw [S]; decide)) (by rw [Cond.lt_ints (x := Nat.toInt32 31) (y := (27 : Int32)) rfl rfl]; decide))
  have H : HasL cl 0 [.int (48 : Int32), .int (49 : Int32), .int (50 : Int32), .int (51 : Int32), .int (52 : Int32), .int (53 : Int32), .int (54 : Int32), .int (55 : Int32), .int (56 : Int32), .int (57 : Int32), .int (65 : Int32), .int (66 : Int32), .int (67 : Int32), .int (68 : Int32), .int (69 : Int32), .int (70 : Int32), .int (71 : Int32), .int (72 : Int32), .int (74 : Int32), .int (75 : Int32), .int (77 : Int32), .int (78 : Int32), .int (80 : Int32), .int (81 : Int32), .int (82 : Int32), .int (83 : Int32), .int (84 : Int32), .int (86 : Int32), .int (87 : Int32), .int (88 : Int32), .int (89 : Int32), .int (90 : Int32)] := ⟨c0, c1, c2, c3, c4, c5, c6, c7, c8, c9, c10, c11, c12, c13, c14, c15, c16, c17, c18, c19, c20, c21, c22, c23, c24, c25, c26, c27, c28, c29, c30, c31, trivial⟩
  exact ⟨cl.cls, Arv.start hf A hlt hz (by decide) rfl H⟩

theorem own_ws {Z : State} {a0 : Array Value} (hw : ∀ d ∈ tables_1, d.before a0 Z = true) : ∀ d ∈ StrChars.Road.words, d.before a0 Z = true := fun d hd => hw d ((by decide +kernel : ∀ d ∈ StrChars.Road.words, d ∈ tables_1) d hd)
theorem own_wsLen {Z : State} {a0 : Array Value} (hw : ∀ d ∈ tables_1, d.before a0 Z = true) : ∀ d ∈ StrChars.Road.wordsLen, d.before a0 Z = true := fun d hd => hw d ((by decide +kernel : ∀ d ∈ StrChars.Road.wordsLen, d ∈ tables_1) d hd)
theorem own_wsCh {Z : State} {a0 : Array Value} (hw : ∀ d ∈ tables_1, d.before a0 Z = true) : ∀ d ∈ StrChars.Road.wordsChN, d.before a0 Z = true := fun d hd => hw d ((by decide +kernel : ∀ d ∈ StrChars.Road.wordsChN, d ∈ tables_1) d hd)
set_option maxRecDepth 65536 in
set_option maxHeartbeats 40000000 in
theorem own_encode (l : Launch) (Z : State) (a0 : Array Value) (hw : ∀ d ∈ tables_1, d.before a0 Z = true) (h0 : Heap) (hO : Ext Z.heap h0) (t : Int64) (hi : Int64) (lo : Int64) (G1 : Int32) (al : Addr) (kA : ClassId) (O2 : Sta Z Z.heap "java/lang/String" "COMPACT_STRINGS" "Z" (.int G1)) (P5 : ¬ (G1 = (0 : Int32))) (OA : Sta Z Z.heap "com/example/relaywright/relaywright/outbox/EventIds" "ALPHABET" "[C" (.ref al)) (VA : Arv Z Z.heap al kA .char (32 : Int32) own_al (.int (0 : Int32))) :
    CtrN l Z (⟨"com/example/relaywright/relaywright/outbox/EventIds", "encode", "(JJJ)Ljava/lang/String;"⟩ : MethodName) prog_16_method_4_code 15 (some (.object "java/lang/String")) ({ frames := 4, cells := 3, slots := 56, locals := 66 } : Room) #[(.long t), (.long hi), (.long lo)] h0 (fun v h' => Keep h0 h' [] ∧ ∃ a, v = some (.ref a) ∧ LStr Z h' a (own_enc t hi lo)) := by
  refine CtrN.of (plainFor_of_name pn_0) hO ?_
  intro p e s m below meth c T0 X0 hsh hby hml hret hlk hnm
  refine Goes.cast (ef_own_encode m t hi lo) ?_
  show Goes _ _ _ _ T0 (mkF m 0 #[.val (.long t), .second, .val (.long hi), .second, .val (.long lo), .second, .unset, .unset, .unset, .unset, .unset, .unset, .unset, .unset, .unset] [])
  refine Goes.go (fun _ k => XS.bipush X0.here X0.ex rfl (hb hby d_prog_16_method_4_0) k) ?_
  show Goes _ _ _ _ T0 (mkF m 2 #[.val (.long t), .second, .val (.long hi), .second, .val (.long lo), .second, .unset, .unset, .unset, .unset, .unset, .unset, .unset, .unset, .unset] [(.int (26 : Int32))])
  refine Wk.newA (aty := .char) X0 (w_4 hw) rfl (hb hby d_prog_16_method_4_2) rfl (by decide) (cap := 26) (by decide) (by decide) (by decide) (by decide) ?_
  intro T1 h1 b1 k1 g1 X1 E1 A1 B_b1
  have V_b1 : Arv Z h1 b1 k1 .char (26 : Int32) [(.int (0 : Int32)), (.int (0 : Int32)), (.int (0 : Int32)), (.int (0 : Int32)), (.int (0 : Int32)), (.int (0 : Int32)), (.int (0 : Int32)), (.int (0 : Int32)), (.int (0 : Int32)), (.int (0 : Int32)), (.int (0 : Int32)), (.int (0 : Int32)), (.int (0 : Int32)), (.int (0 : Int32)), (.int (0 : Int32)), (.int (0 : Int32)), (.int (0 : Int32)), (.int (0 : Int32)), (.int (0 : Int32)), (.int (0 : Int32)), (.int (0 : Int32)), (.int (0 : Int32)), (.int (0 : Int32)), (.int (0 : Int32)), (.int (0 : Int32)), (.int (0 : Int32))] (.int (0 : Int32)) := A1.pad (pad_rep [] (.int (0 : Int32)) 26)
  have gz_b1 : Z.heap.size ≤ b1 := g1 ▸ X0.old.1
  have gm_b1 : h0.size ≤ b1 := g1 ▸ X0.ext.1
  show Goes _ _ _ _ T1 (mkF m 4 #[.val (.long t), .second, .val (.long hi), .second, .val (.long lo), .second, .unset, .unset, .unset, .unset, .unset, .unset, .unset, .unset, .unset] [(.ref b1)])
  refine Goes.go (fun _ k => XS.astore X1.here X1.ex rfl (hb hby d_prog_16_method_4_4) rfl rfl (l' := #[.val (.long t), .second, .val (.long hi), .second, .val (.long lo), .second, .val (.ref b1), .unset, .unset, .unset, .unset, .unset, .unset, .unset, .unset]) rfl (XS.lloadN X1.here X1.ex rfl (hb hby d_prog_16_method_4_6) rfl k)) ?_
  show Goes _ _ _ _ T1 (mkF m 7 #[.val (.long t), .second, .val (.long hi), .second, .val (.long lo), .second, .val (.ref b1), .unset, .unset, .unset, .unset, .unset, .unset, .unset, .unset] [(.long t)])
  refine Goes.go (X1.ldcL (w_5 hw) rfl (hb hby d_prog_16_method_4_7)) ?_
  show Goes _ _ _ _ T1 (mkF m 10 #[.val (.long t), .second, .val (.long hi), .second, .val (.long lo), .second, .val (.ref b1), .unset, .unset, .unset, .unset, .unset, .unset, .unset, .unset] [(.long (281474976710655 : Int64)), (.long t)])
  refine Goes.go (fun _ k => XS.land X1.here X1.ex rfl (hb hby d_prog_16_method_4_10) rfl (XS.lstore X1.here X1.ex rfl (hb hby d_prog_16_method_4_11) rfl (l' := #[.val (.long t), .second, .val (.long hi), .second, .val (.long lo), .second, .val (.ref b1), .val (.long (t &&& (281474976710655 : Int64))), .second, .unset, .unset, .unset, .unset, .unset, .unset]) rfl k)) ?_
  show Goes _ _ _ _ T1 (mkF m 13 #[.val (.long t), .second, .val (.long hi), .second, .val (.long lo), .second, .val (.ref b1), .val (.long (t &&& (281474976710655 : Int64))), .second, .unset, .unset, .unset, .unset, .unset, .unset] [])
  obtain ⟨tt, htt⟩ : ∃ z : Int64, z = (t &&& (281474976710655 : Int64)) := ⟨_, rfl⟩
  refine Goes.cast (show (mkF m 13 #[.val (.long t), .second, .val (.long hi), .second, .val (.long lo), .second, .val (.ref b1), .val (.long (t &&& (281474976710655 : Int64))), .second, .unset, .unset, .unset, .unset, .unset, .unset] []) = (mkF m 13 #[.val (.long t), .second, .val (.long hi), .second, .val (.long lo), .second, .val (.ref b1), .val (.long tt), .second, .unset, .unset, .unset, .unset, .unset, .unset] []) from by rw [htt]) ?_
  show Goes _ _ _ _ T1 (mkF m 13 #[.val (.long t), .second, .val (.long hi), .second, .val (.long lo), .second, .val (.ref b1), .val (.long tt), .second, .unset, .unset, .unset, .unset, .unset, .unset] [])
  refine Goes.go (fun _ k => XS.iconst X1.here X1.ex rfl (hb hby d_prog_16_method_4_13) (XS.istore X1.here X1.ex rfl (hb hby d_prog_16_method_4_14) rfl (l' := #[.val (.long t), .second, .val (.long hi), .second, .val (.long lo), .second, .val (.ref b1), .val (.long tt), .second, .val (.int (0 : Int32)), .unset, .unset, .unset, .unset, .unset]) rfl (XS.iload X1.here X1.ex rfl (hb hby d_prog_16_method_4_16) rfl (XS.bipush X1.here X1.ex rfl (hb hby d_prog_16_method_4_18) (XS.icmpNo X1.here X1.ex rfl (hb hby d_prog_16_method_4_20) rfl (cd_f (cd := .ge) (x := (0 : Int32)) (y := (10 : Int32)) (by decide)) (XS.iconst X1.here X1.ex rfl (hb hby d_prog_16_method_4_23) k)))))) ?_
  show Goes _ _ _ _ T1 (mkF m 24 #[.val (.long t), .second, .val (.long hi), .second, .val (.long lo), .second, .val (.ref b1), .val (.long tt), .second, .val (.int (0 : Int32)), .unset, .unset, .unset, .unset, .unset] [(.int (5 : Int32))])
  refine Goes.go (fun _ k => XS.bipush X1.here X1.ex rfl (hb hby d_prog_16_method_4_24) (XS.iload X1.here X1.ex rfl (hb hby d_prog_16_method_4_26) rfl (XS.isub X1.here X1.ex rfl (hb hby d_prog_16_method_4_28) rfl k))) ?_
  show Goes _ _ _ _ T1 (mkF m 29 #[.val (.long t), .second, .val (.long hi), .second, .val (.long lo), .second, .val (.ref b1), .val (.long tt), .second, .val (.int (0 : Int32)), .unset, .unset, .unset, .unset, .unset] [(.int ((9 : Int32) - (0 : Int32))), (.int (5 : Int32))])
  refine Goes.cast (congrArg (fun zq_ => (mkF m 29 #[.val (.long t), .second, .val (.long hi), .second, .val (.long lo), .second, .val (.ref b1), .val (.long tt), .second, .val (.int (0 : Int32)), .unset, .unset, .unset, .unset, .unset] [(.int zq_), (.int (5 : Int32))])) (show (((9 : Int32) - (0 : Int32)) : Int32) = (9 : Int32) from by decide)) ?_
  show Goes _ _ _ _ T1 (mkF m 29 #[.val (.long t), .second, .val (.long hi), .second, .val (.long lo), .second, .val (.ref b1), .val (.long tt), .second, .val (.int (0 : Int32)), .unset, .unset, .unset, .unset, .unset] [(.int (9 : Int32)), (.int (5 : Int32))])
  refine Goes.go (fun _ k => XS.imul X1.here X1.ex rfl (hb hby d_prog_16_method_4_29) rfl k) ?_
  show Goes _ _ _ _ T1 (mkF m 30 #[.val (.long t), .second, .val (.long hi), .second, .val (.long lo), .second, .val (.ref b1), .val (.long tt), .second, .val (.int (0 : Int32)), .unset, .unset, .unset, .unset, .unset] [(.int ((5 : Int32) * (9 : Int32)))])
  refine Goes.cast (congrArg (fun zq_ => (mkF m 30 #[.val (.long t), .second, .val (.long hi), .second, .val (.long lo), .second, .val (.ref b1), .val (.long tt), .second, .val (.int (0 : Int32)), .unset, .unset, .unset, .unset, .unset] [(.int zq_)])) (show (((5 : Int32) * (9 : Int32)) : Int32) = (45 : Int32) from by decide)) ?_
  show Goes _ _ _ _ T1 (mkF m 30 #[.val (.long t), .second, .val (.long hi), .second, .val (.long lo), .second, .val (.ref b1), .val (.long tt), .second, .val (.int (0 : Int32)), .unset, .unset, .unset, .unset, .unset] [(.int (45 : Int32))])
  refine Goes.go (fun _ k => XS.istore X1.here X1.ex rfl (hb hby d_prog_16_method_4_30) rfl (l' := #[.val (.long t), .second, .val (.long hi), .second, .val (.long lo), .second, .val (.ref b1), .val (.long tt), .second, .val (.int (0 : Int32)), .val (.int (45 : Int32)), .unset, .unset, .unset, .unset]) rfl (XS.aload X1.here X1.ex rfl (hb hby d_prog_16_method_4_32) rfl rfl (XS.iload X1.here X1.ex rfl (hb hby d_prog_16_method_4_34) rfl k))) ?_
  show Goes _ _ _ _ T1 (mkF m 36 #[.val (.long t), .second, .val (.long hi), .second, .val (.long lo), .second, .val (.ref b1), .val (.long tt), .second, .val (.int (0 : Int32)), .val (.int (45 : Int32)), .unset, .unset, .unset, .unset] [(.int (0 : Int32)), (.ref b1)])
  refine Wk.getS X1 (host := "") (Or.inl (w_6 hw)) Via.refl OA rfl (hb hby d_prog_16_method_4_36) ?_
  intro T2 X2
  show Goes _ _ _ _ T2 (mkF m 39 #[.val (.long t), .second, .val (.long hi), .second, .val (.long lo), .second, .val (.ref b1), .val (.long tt), .second, .val (.int (0 : Int32)), .val (.int (45 : Int32)), .unset, .unset, .unset, .unset] [(.ref al), (.int (0 : Int32)), (.ref b1)])
  refine Goes.go (fun _ k => XS.lload X2.here X2.ex rfl (hb hby d_prog_16_method_4_39) rfl (XS.iload X2.here X2.ex rfl (hb hby d_prog_16_method_4_41) rfl (XS.lushr X2.here X2.ex rfl (hb hby d_prog_16_method_4_43) rfl (XS.l2i X2.here X2.ex rfl (hb hby d_prog_16_method_4_44) rfl (XS.bipush X2.here X2.ex rfl (hb hby d_prog_16_method_4_45) (XS.iand X2.here X2.ex rfl (hb hby d_prog_16_method_4_47) rfl k)))))) ?_
  show Goes _ _ _ _ T2 (mkF m 48 #[.val (.long t), .second, .val (.long hi), .second, .val (.long lo), .second, .val (.ref b1), .val (.long tt), .second, .val (.int (0 : Int32)), .val (.int (45 : Int32)), .unset, .unset, .unset, .unset] [(.int ((((tt.toUInt64 >>> ((45 : Int32) &&& 0x3f).toInt64.toUInt64).toInt64).toInt32) &&& (31 : Int32))), (.ref al), (.int (0 : Int32)), (.ref b1)])
  obtain ⟨y0, hy0⟩ : ∃ z : Int32, z = (((tt.toUInt64 >>> ((45 : Int32) &&& 0x3f).toInt64.toUInt64).toInt64).toInt32) := ⟨_, rfl⟩
  refine Goes.cast (show (mkF m 48 #[.val (.long t), .second, .val (.long hi), .second, .val (.long lo), .second, .val (.ref b1), .val (.long tt), .second, .val (.int (0 : Int32)), .val (.int (45 : Int32)), .unset, .unset, .unset, .unset] [(.int ((((tt.toUInt64 >>> ((45 : Int32) &&& 0x3f).toInt64.toUInt64).toInt64).toInt32) &&& (31 : Int32))), (.ref al), (.int (0 : Int32)), (.ref b1)]) = (mkF m 48 #[.val (.long t), .second, .val (.long hi), .second, .val (.long lo), .second, .val (.ref b1), .val (.long tt), .second, .val (.int (0 : Int32)), .val (.int (45 : Int32)), .unset, .unset, .unset, .unset] [(.int (y0 &&& (31 : Int32))), (.ref al), (.int (0 : Int32)), (.ref b1)]) from by rw [hy0]) ?_
  show Goes _ _ _ _ T2 (mkF m 48 #[.val (.long t), .second, .val (.long hi), .second, .val (.long lo), .second, .val (.ref b1), .val (.long tt), .second, .val (.int (0 : Int32)), .val (.int (45 : Int32)), .unset, .unset, .unset, .unset] [(.int (y0 &&& (31 : Int32))), (.ref al), (.int (0 : Int32)), (.ref b1)])
  refine Goes.go (X2.caload (VA.ext X2.old) (own_b31 y0) (own_symv y0) rfl rfl (hb hby d_prog_16_method_4_48)) ?_
  show Goes _ _ _ _ T2 (mkF m 49 #[.val (.long t), .second, .val (.long hi), .second, .val (.long lo), .second, .val (.ref b1), .val (.long tt), .second, .val (.int (0 : Int32)), .val (.int (45 : Int32)), .unset, .unset, .unset, .unset] [(.int (own_sym y0)), (.int (0 : Int32)), (.ref b1)])
  refine Wk.castore (hm' := fun _ => h0) X2 V_b1 ⟨by decide, by decide⟩ (i := 0) rfl (Nat.le_of_ble_eq_true rfl) gz_b1 (fun _ => Mark.stay (allS gm_b1 all0)) rfl rfl (hb hby d_prog_16_method_4_49) ?_
  intro T3 h3 X3 W3 V3
  clear V_b1; have V_b1 : Arv Z h3 b1 _ .char (26 : Int32) [(.int (nar .char (own_sym y0))), (.int (0 : Int32)), (.int (0 : Int32)), (.int (0 : Int32)), (.int (0 : Int32)), (.int (0 : Int32)), (.int (0 : Int32)), (.int (0 : Int32)), (.int (0 : Int32)), (.int (0 : Int32)), (.int (0 : Int32)), (.int (0 : Int32)), (.int (0 : Int32)), (.int (0 : Int32)), (.int (0 : Int32)), (.int (0 : Int32)), (.int (0 : Int32)), (.int (0 : Int32)), (.int (0 : Int32)), (.int (0 : Int32)), (.int (0 : Int32)), (.int (0 : Int32)), (.int (0 : Int32)), (.int (0 : Int32)), (.int (0 : Int32)), (.int (0 : Int32))] (.int (0 : Int32)) := V3
  show Goes _ _ _ _ T3 (mkF m 50 #[.val (.long t), .second, .val (.long hi), .second, .val (.long lo), .second, .val (.ref b1), .val (.long tt), .second, .val (.int (0 : Int32)), .val (.int (45 : Int32)), .unset, .unset, .unset, .unset] [])
  refine Goes.go (fun _ k => XS.iinc X3.here X3.ex rfl (hb hby d_prog_16_method_4_50) rfl (l' := #[.val (.long t), .second, .val (.long hi), .second, .val (.long lo), .second, .val (.ref b1), .val (.long tt), .second, .val (.int ((0 : Int32) + (1 : Int32))), .val (.int (45 : Int32)), .unset, .unset, .unset, .unset]) rfl k) ?_
  show Goes _ _ _ _ T3 (mkF m 53 #[.val (.long t), .second, .val (.long hi), .second, .val (.long lo), .second, .val (.ref b1), .val (.long tt), .second, .val (.int ((0 : Int32) + (1 : Int32))), .val (.int (45 : Int32)), .unset, .unset, .unset, .unset] [])
  refine Goes.cast (congrArg (fun zq_ => (mkF m 53 #[.val (.long t), .second, .val (.long hi), .second, .val (.long lo), .second, .val (.ref b1), .val (.long tt), .second, .val (.int zq_), .val (.int (45 : Int32)), .unset, .unset, .unset, .unset] [])) (show (((0 : Int32) + (1 : Int32)) : Int32) = (1 : Int32) from by decide)) ?_
  show Goes _ _ _ _ T3 (mkF m 53 #[.val (.long t), .second, .val (.long hi), .second, .val (.long lo), .second, .val (.ref b1), .val (.long tt), .second, .val (.int (1 : Int32)), .val (.int (45 : Int32)), .unset, .unset, .unset, .unset] [])
  refine Goes.go (fun _ k => XS.goto X3.here X3.ex rfl (pc0 := 53) (pc' := 16) rfl (hb hby d_prog_16_method_4_53) (by decide) (by decide) (XS.iload X3.here X3.ex rfl (hb hby d_prog_16_method_4_16) rfl (XS.bipush X3.here X3.ex rfl (hb hby d_prog_16_method_4_18) (XS.icmpNo X3.here X3.ex rfl (hb hby d_prog_16_method_4_20) rfl (cd_f (cd := .ge) (x := (1 : Int32)) (y := (10 : Int32)) (by decide)) (XS.iconst X3.here X3.ex rfl (hb hby d_prog_16_method_4_23) (XS.bipush X3.here X3.ex rfl (hb hby d_prog_16_method_4_24) k)))))) ?_
  show Goes _ _ _ _ T3 (mkF m 26 #[.val (.long t), .second, .val (.long hi), .second, .val (.long lo), .second, .val (.ref b1), .val (.long tt), .second, .val (.int (1 : Int32)), .val (.int (45 : Int32)), .unset, .unset, .unset, .unset] [(.int (9 : Int32)), (.int (5 : Int32))])
  refine Goes.go (fun _ k => XS.iload X3.here X3.ex rfl (hb hby d_prog_16_method_4_26) rfl (XS.isub X3.here X3.ex rfl (hb hby d_prog_16_method_4_28) rfl k)) ?_
  show Goes _ _ _ _ T3 (mkF m 29 #[.val (.long t), .second, .val (.long hi), .second, .val (.long lo), .second, .val (.ref b1), .val (.long tt), .second, .val (.int (1 : Int32)), .val (.int (45 : Int32)), .unset, .unset, .unset, .unset] [(.int ((9 : Int32) - (1 : Int32))), (.int (5 : Int32))])
  refine Goes.cast (congrArg (fun zq_ => (mkF m 29 #[.val (.long t), .second, .val (.long hi), .second, .val (.long lo), .second, .val (.ref b1), .val (.long tt), .second, .val (.int (1 : Int32)), .val (.int (45 : Int32)), .unset, .unset, .unset, .unset] [(.int zq_), (.int (5 : Int32))])) (show (((9 : Int32) - (1 : Int32)) : Int32) = (8 : Int32) from by decide)) ?_
  show Goes _ _ _ _ T3 (mkF m 29 #[.val (.long t), .second, .val (.long hi), .second, .val (.long lo), .second, .val (.ref b1), .val (.long tt), .second, .val (.int (1 : Int32)), .val (.int (45 : Int32)), .unset, .unset, .unset, .unset] [(.int (8 : Int32)), (.int (5 : Int32))])
  refine Goes.go (fun _ k => XS.imul X3.here X3.ex rfl (hb hby d_prog_16_method_4_29) rfl k) ?_
  show Goes _ _ _ _ T3 (mkF m 30 #[.val (.long t), .second, .val (.long hi), .second, .val (.long lo), .second, .val (.ref b1), .val (.long tt), .second, .val (.int (1 : Int32)), .val (.int (45 : Int32)), .unset, .unset, .unset, .unset] [(.int ((5 : Int32) * (8 : Int32)))])
  refine Goes.cast (congrArg (fun zq_ => (mkF m 30 #[.val (.long t), .second, .val (.long hi), .second, .val (.long lo), .second, .val (.ref b1), .val (.long tt), .second, .val (.int (1 : Int32)), .val (.int (45 : Int32)), .unset, .unset, .unset, .unset] [(.int zq_)])) (show (((5 : Int32) * (8 : Int32)) : Int32) = (40 : Int32) from by decide)) ?_
  show Goes _ _ _ _ T3 (mkF m 30 #[.val (.long t), .second, .val (.long hi), .second, .val (.long lo), .second, .val (.ref b1), .val (.long tt), .second, .val (.int (1 : Int32)), .val (.int (45 : Int32)), .unset, .unset, .unset, .unset] [(.int (40 : Int32))])
  refine Goes.go (fun _ k => XS.istore X3.here X3.ex rfl (hb hby d_prog_16_method_4_30) rfl (l' := #[.val (.long t), .second, .val (.long hi), .second, .val (.long lo), .second, .val (.ref b1), .val (.long tt), .second, .val (.int (1 : Int32)), .val (.int (40 : Int32)), .unset, .unset, .unset, .unset]) rfl (XS.aload X3.here X3.ex rfl (hb hby d_prog_16_method_4_32) rfl rfl (XS.iload X3.here X3.ex rfl (hb hby d_prog_16_method_4_34) rfl k))) ?_
  show Goes _ _ _ _ T3 (mkF m 36 #[.val (.long t), .second, .val (.long hi), .second, .val (.long lo), .second, .val (.ref b1), .val (.long tt), .second, .val (.int (1 : Int32)), .val (.int (40 : Int32)), .unset, .unset, .unset, .unset] [(.int (1 : Int32)), (.ref b1)])
  refine Wk.getS X3 (host := "") (Or.inl (w_6 hw)) Via.refl OA rfl (hb hby d_prog_16_method_4_36) ?_
  intro T4 X4
  show Goes _ _ _ _ T4 (mkF m 39 #[.val (.long t), .second, .val (.long hi), .second, .val (.long lo), .second, .val (.ref b1), .val (.long tt), .second, .val (.int (1 : Int32)), .val (.int (40 : Int32)), .unset, .unset, .unset, .unset] [(.ref al), (.int (1 : Int32)), (.ref b1)])
  refine Goes.go (fun _ k => XS.lload X4.here X4.ex rfl (hb hby d_prog_16_method_4_39) rfl (XS.iload X4.here X4.ex rfl (hb hby d_prog_16_method_4_41) rfl (XS.lushr X4.here X4.ex rfl (hb hby d_prog_16_method_4_43) rfl (XS.l2i X4.here X4.ex rfl (hb hby d_prog_16_method_4_44) rfl (XS.bipush X4.here X4.ex rfl (hb hby d_prog_16_method_4_45) (XS.iand X4.here X4.ex rfl (hb hby d_prog_16_method_4_47) rfl k)))))) ?_
  show Goes _ _ _ _ T4 (mkF m 48 #[.val (.long t), .second, .val (.long hi), .second, .val (.long lo), .second, .val (.ref b1), .val (.long tt), .second, .val (.int (1 : Int32)), .val (.int (40 : Int32)), .unset, .unset, .unset, .unset] [(.int ((((tt.toUInt64 >>> ((40 : Int32) &&& 0x3f).toInt64.toUInt64).toInt64).toInt32) &&& (31 : Int32))), (.ref al), (.int (1 : Int32)), (.ref b1)])
  obtain ⟨y1, hy1⟩ : ∃ z : Int32, z = (((tt.toUInt64 >>> ((40 : Int32) &&& 0x3f).toInt64.toUInt64).toInt64).toInt32) := ⟨_, rfl⟩
  refine Goes.cast (show (mkF m 48 #[.val (.long t), .second, .val (.long hi), .second, .val (.long lo), .second, .val (.ref b1), .val (.long tt), .second, .val (.int (1 : Int32)), .val (.int (40 : Int32)), .unset, .unset, .unset, .unset] [(.int ((((tt.toUInt64 >>> ((40 : Int32) &&& 0x3f).toInt64.toUInt64).toInt64).toInt32) &&& (31 : Int32))), (.ref al), (.int (1 : Int32)), (.ref b1)]) = (mkF m 48 #[.val (.long t), .second, .val (.long hi), .second, .val (.long lo), .second, .val (.ref b1), .val (.long tt), .second, .val (.int (1 : Int32)), .val (.int (40 : Int32)), .unset, .unset, .unset, .unset] [(.int (y1 &&& (31 : Int32))), (.ref al), (.int (1 : Int32)), (.ref b1)]) from by rw [hy1]) ?_
  show Goes _ _ _ _ T4 (mkF m 48 #[.val (.long t), .second, .val (.long hi), .second, .val (.long lo), .second, .val (.ref b1), .val (.long tt), .second, .val (.int (1 : Int32)), .val (.int (40 : Int32)), .unset, .unset, .unset, .unset] [(.int (y1 &&& (31 : Int32))), (.ref al), (.int (1 : Int32)), (.ref b1)])
  refine Goes.go (X4.caload (VA.ext X4.old) (own_b31 y1) (own_symv y1) rfl rfl (hb hby d_prog_16_method_4_48)) ?_
  show Goes _ _ _ _ T4 (mkF m 49 #[.val (.long t), .second, .val (.long hi), .second, .val (.long lo), .second, .val (.ref b1), .val (.long tt), .second, .val (.int (1 : Int32)), .val (.int (40 : Int32)), .unset, .unset, .unset, .unset] [(.int (own_sym y1)), (.int (1 : Int32)), (.ref b1)])
  refine Wk.castore (hm' := fun _ => h0) X4 V_b1 ⟨by decide, by decide⟩ (i := 1) rfl (Nat.le_of_ble_eq_true rfl) gz_b1 (fun _ => Mark.stay (allS gm_b1 all0)) rfl rfl (hb hby d_prog_16_method_4_49) ?_
  intro T5 h5 X5 W5 V5
  clear V_b1; have V_b1 : Arv Z h5 b1 _ .char (26 : Int32) [(.int (nar .char (own_sym y0))), (.int (nar .char (own_sym y1))), (.int (0 : Int32)), (.int (0 : Int32)), (.int (0 : Int32)), (.int (0 : Int32)), (.int (0 : Int32)), (.int (0 : Int32)), (.int (0 : Int32)), (.int (0 : Int32)), (.int (0 : Int32)), (.int (0 : Int32)), (.int (0 : Int32)), (.int (0 : Int32)), (.int (0 : Int32)), (.int (0 : Int32)), (.int (0 : Int32)), (.int (0 : Int32)), (.int (0 : Int32)), (.int (0 : Int32)), (.int (0 : Int32)), (.int (0 : Int32)), (.int (0 : Int32)), (.int (0 : Int32)), (.int (0 : Int32)), (.int (0 : Int32))] (.int (0 : Int32)) := V5
  show Goes _ _ _ _ T5 (mkF m 50 #[.val (.long t), .second, .val (.long hi), .second, .val (.long lo), .second, .val (.ref b1), .val (.long tt), .second, .val (.int (1 : Int32)), .val (.int (40 : Int32)), .unset, .unset, .unset, .unset] [])
  refine Goes.go (fun _ k => XS.iinc X5.here X5.ex rfl (hb hby d_prog_16_method_4_50) rfl (l' := #[.val (.long t), .second, .val (.long hi), .second, .val (.long lo), .second, .val (.ref b1), .val (.long tt), .second, .val (.int ((1 : Int32) + (1 : Int32))), .val (.int (40 : Int32)), .unset, .unset, .unset, .unset]) rfl k) ?_
  show Goes _ _ _ _ T5 (mkF m 53 #[.val (.long t), .second, .val (.long hi), .second, .val (.long lo), .second, .val (.ref b1), .val (.long tt), .second, .val (.int ((1 : Int32) + (1 : Int32))), .val (.int (40 : Int32)), .unset, .unset, .unset, .unset] [])
  refine Goes.cast (congrArg (fun zq_ => (mkF m 53 #[.val (.long t), .second, .val (.long hi), .second, .val (.long lo), .second, .val (.ref b1), .val (.long tt), .second, .val (.int zq_), .val (.int (40 : Int32)), .unset, .unset, .unset, .unset] [])) (show (((1 : Int32) + (1 : Int32)) : Int32) = (2 : Int32) from by decide)) ?_
  show Goes _ _ _ _ T5 (mkF m 53 #[.val (.long t), .second, .val (.long hi), .second, .val (.long lo), .second, .val (.ref b1), .val (.long tt), .second, .val (.int (2 : Int32)), .val (.int (40 : Int32)), .unset, .unset, .unset, .unset] [])
  refine Goes.go (fun _ k => XS.goto X5.here X5.ex rfl (pc0 := 53) (pc' := 16) rfl (hb hby d_prog_16_method_4_53) (by decide) (by decide) (XS.iload X5.here X5.ex rfl (hb hby d_prog_16_method_4_16) rfl (XS.bipush X5.here X5.ex rfl (hb hby d_prog_16_method_4_18) (XS.icmpNo X5.here X5.ex rfl (hb hby d_prog_16_method_4_20) rfl (cd_f (cd := .ge) (x := (2 : Int32)) (y := (10 : Int32)) (by decide)) (XS.iconst X5.here X5.ex rfl (hb hby d_prog_16_method_4_23) (XS.bipush X5.here X5.ex rfl (hb hby d_prog_16_method_4_24) k)))))) ?_
  show Goes _ _ _ _ T5 (mkF m 26 #[.val (.long t), .second, .val (.long hi), .second, .val (.long lo), .second, .val (.ref b1), .val (.long tt), .second, .val (.int (2 : Int32)), .val (.int (40 : Int32)), .unset, .unset, .unset, .unset] [(.int (9 : Int32)), (.int (5 : Int32))])
  refine Goes.go (fun _ k => XS.iload X5.here X5.ex rfl (hb hby d_prog_16_method_4_26) rfl (XS.isub X5.here X5.ex rfl (hb hby d_prog_16_method_4_28) rfl k)) ?_
  show Goes _ _ _ _ T5 (mkF m 29 #[.val (.long t), .second, .val (.long hi), .second, .val (.long lo), .second, .val (.ref b1), .val (.long tt), .second, .val (.int (2 : Int32)), .val (.int (40 : Int32)), .unset, .unset, .unset, .unset] [(.int ((9 : Int32) - (2 : Int32))), (.int (5 : Int32))])
  refine Goes.cast (congrArg (fun zq_ => (mkF m 29 #[.val (.long t), .second, .val (.long hi), .second, .val (.long lo), .second, .val (.ref b1), .val (.long tt), .second, .val (.int (2 : Int32)), .val (.int (40 : Int32)), .unset, .unset, .unset, .unset] [(.int zq_), (.int (5 : Int32))])) (show (((9 : Int32) - (2 : Int32)) : Int32) = (7 : Int32) from by decide)) ?_
  show Goes _ _ _ _ T5 (mkF m 29 #[.val (.long t), .second, .val (.long hi), .second, .val (.long lo), .second, .val (.ref b1), .val (.long tt), .second, .val (.int (2 : Int32)), .val (.int (40 : Int32)), .unset, .unset, .unset, .unset] [(.int (7 : Int32)), (.int (5 : Int32))])
  refine Goes.go (fun _ k => XS.imul X5.here X5.ex rfl (hb hby d_prog_16_method_4_29) rfl k) ?_
  show Goes _ _ _ _ T5 (mkF m 30 #[.val (.long t), .second, .val (.long hi), .second, .val (.long lo), .second, .val (.ref b1), .val (.long tt), .second, .val (.int (2 : Int32)), .val (.int (40 : Int32)), .unset, .unset, .unset, .unset] [(.int ((5 : Int32) * (7 : Int32)))])
  refine Goes.cast (congrArg (fun zq_ => (mkF m 30 #[.val (.long t), .second, .val (.long hi), .second, .val (.long lo), .second, .val (.ref b1), .val (.long tt), .second, .val (.int (2 : Int32)), .val (.int (40 : Int32)), .unset, .unset, .unset, .unset] [(.int zq_)])) (show (((5 : Int32) * (7 : Int32)) : Int32) = (35 : Int32) from by decide)) ?_
  show Goes _ _ _ _ T5 (mkF m 30 #[.val (.long t), .second, .val (.long hi), .second, .val (.long lo), .second, .val (.ref b1), .val (.long tt), .second, .val (.int (2 : Int32)), .val (.int (40 : Int32)), .unset, .unset, .unset, .unset] [(.int (35 : Int32))])
  refine Goes.go (fun _ k => XS.istore X5.here X5.ex rfl (hb hby d_prog_16_method_4_30) rfl (l' := #[.val (.long t), .second, .val (.long hi), .second, .val (.long lo), .second, .val (.ref b1), .val (.long tt), .second, .val (.int (2 : Int32)), .val (.int (35 : Int32)), .unset, .unset, .unset, .unset]) rfl (XS.aload X5.here X5.ex rfl (hb hby d_prog_16_method_4_32) rfl rfl (XS.iload X5.here X5.ex rfl (hb hby d_prog_16_method_4_34) rfl k))) ?_
  show Goes _ _ _ _ T5 (mkF m 36 #[.val (.long t), .second, .val (.long hi), .second, .val (.long lo), .second, .val (.ref b1), .val (.long tt), .second, .val (.int (2 : Int32)), .val (.int (35 : Int32)), .unset, .unset, .unset, .unset] [(.int (2 : Int32)), (.ref b1)])
  refine Wk.getS X5 (host := "") (Or.inl (w_6 hw)) Via.refl OA rfl (hb hby d_prog_16_method_4_36) ?_
  intro T6 X6
  show Goes _ _ _ _ T6 (mkF m 39 #[.val (.long t), .second, .val (.long hi), .second, .val (.long lo), .second, .val (.ref b1), .val (.long tt), .second, .val (.int (2 : Int32)), .val (.int (35 : Int32)), .unset, .unset, .unset, .unset] [(.ref al), (.int (2 : Int32)), (.ref b1)])
  refine Goes.go (fun _ k => XS.lload X6.here X6.ex rfl (hb hby d_prog_16_method_4_39) rfl (XS.iload X6.here X6.ex rfl (hb hby d_prog_16_method_4_41) rfl (XS.lushr X6.here X6.ex rfl (hb hby d_prog_16_method_4_43) rfl (XS.l2i X6.here X6.ex rfl (hb hby d_prog_16_method_4_44) rfl (XS.bipush X6.here X6.ex rfl (hb hby d_prog_16_method_4_45) (XS.iand X6.here X6.ex rfl (hb hby d_prog_16_method_4_47) rfl k)))))) ?_
  show Goes _ _ _ _ T6 (mkF m 48 #[.val (.long t), .second, .val (.long hi), .second, .val (.long lo), .second, .val (.ref b1), .val (.long tt), .second, .val (.int (2 : Int32)), .val (.int (35 : Int32)), .unset, .unset, .unset, .unset] [(.int ((((tt.toUInt64 >>> ((35 : Int32) &&& 0x3f).toInt64.toUInt64).toInt64).toInt32) &&& (31 : Int32))), (.ref al), (.int (2 : Int32)), (.ref b1)])
  obtain ⟨y2, hy2⟩ : ∃ z : Int32, z = (((tt.toUInt64 >>> ((35 : Int32) &&& 0x3f).toInt64.toUInt64).toInt64).toInt32) := ⟨_, rfl⟩
  refine Goes.cast (show (mkF m 48 #[.val (.long t), .second, .val (.long hi), .second, .val (.long lo), .second, .val (.ref b1), .val (.long tt), .second, .val (.int (2 : Int32)), .val (.int (35 : Int32)), .unset, .unset, .unset, .unset] [(.int ((((tt.toUInt64 >>> ((35 : Int32) &&& 0x3f).toInt64.toUInt64).toInt64).toInt32) &&& (31 : Int32))), (.ref al), (.int (2 : Int32)), (.ref b1)]) = (mkF m 48 #[.val (.long t), .second, .val (.long hi), .second, .val (.long lo), .second, .val (.ref b1), .val (.long tt), .second, .val (.int (2 : Int32)), .val (.int (35 : Int32)), .unset, .unset, .unset, .unset] [(.int (y2 &&& (31 : Int32))), (.ref al), (.int (2 : Int32)), (.ref b1)]) from by rw [hy2]) ?_
  show Goes _ _ _ _ T6 (mkF m 48 #[.val (.long t), .second, .val (.long hi), .second, .val (.long lo), .second, .val (.ref b1), .val (.long tt), .second, .val (.int (2 : Int32)), .val (.int (35 : Int32)), .unset, .unset, .unset, .unset] [(.int (y2 &&& (31 : Int32))), (.ref al), (.int (2 : Int32)), (.ref b1)])
  refine Goes.go (X6.caload (VA.ext X6.old) (own_b31 y2) (own_symv y2) rfl rfl (hb hby d_prog_16_method_4_48)) ?_
  show Goes _ _ _ _ T6 (mkF m 49 #[.val (.long t), .second, .val (.long hi), .second, .val (.long lo), .second, .val (.ref b1), .val (.long tt), .second, .val (.int (2 : Int32)), .val (.int (35 : Int32)), .unset, .unset, .unset, .unset] [(.int (own_sym y2)), (.int (2 : Int32)), (.ref b1)])
  refine Wk.castore (hm' := fun _ => h0) X6 V_b1 ⟨by decide, by decide⟩ (i := 2) rfl (Nat.le_of_ble_eq_true rfl) gz_b1 (fun _ => Mark.stay (allS gm_b1 all0)) rfl rfl (hb hby d_prog_16_method_4_49) ?_
  intro T7 h7 X7 W7 V7
  clear V_b1; have V_b1 : Arv Z h7 b1 _ .char (26 : Int32) [(.int (nar .char (own_sym y0))), (.int (nar .char (own_sym y1))), (.int (nar .char (own_sym y2))), (.int (0 : Int32)), (.int (0 : Int32)), (.int (0 : Int32)), (.int (0 : Int32)), (.int (0 : Int32)), (.int (0 : Int32)), (.int (0 : Int32)), (.int (0 : Int32)), (.int (0 : Int32)), (.int (0 : Int32)), (.int (0 : Int32)), (.int (0 : Int32)), (.int (0 : Int32)), (.int (0 : Int32)), (.int (0 : Int32)), (.int (0 : Int32)), (.int (0 : Int32)), (.int (0 : Int32)), (.int (0 : Int32)), (.int (0 : Int32)), (.int (0 : Int32)), (.int (0 : Int32)), (.int (0 : Int32))] (.int (0 : Int32)) := V7
  show Goes _ _ _ _ T7 (mkF m 50 #[.val (.long t), .second, .val (.long hi), .second, .val (.long lo), .second, .val (.ref b1), .val (.long tt), .second, .val (.int (2 : Int32)), .val (.int (35 : Int32)), .unset, .unset, .unset, .unset] [])
  refine Goes.go (fun _ k => XS.iinc X7.here X7.ex rfl (hb hby d_prog_16_method_4_50) rfl (l' := #[.val (.long t), .second, .val (.long hi), .second, .val (.long lo), .second, .val (.ref b1), .val (.long tt), .second, .val (.int ((2 : Int32) + (1 : Int32))), .val (.int (35 : Int32)), .unset, .unset, .unset, .unset]) rfl k) ?_
  show Goes _ _ _ _ T7 (mkF m 53 #[.val (.long t), .second, .val (.long hi), .second, .val (.long lo), .second, .val (.ref b1), .val (.long tt), .second, .val (.int ((2 : Int32) + (1 : Int32))), .val (.int (35 : Int32)), .unset, .unset, .unset, .unset] [])
  refine Goes.cast (congrArg (fun zq_ => (mkF m 53 #[.val (.long t), .second, .val (.long hi), .second, .val (.long lo), .second, .val (.ref b1), .val (.long tt), .second, .val (.int zq_), .val (.int (35 : Int32)), .unset, .unset, .unset, .unset] [])) (show (((2 : Int32) + (1 : Int32)) : Int32) = (3 : Int32) from by decide)) ?_
  show Goes _ _ _ _ T7 (mkF m 53 #[.val (.long t), .second, .val (.long hi), .second, .val (.long lo), .second, .val (.ref b1), .val (.long tt), .second, .val (.int (3 : Int32)), .val (.int (35 : Int32)), .unset, .unset, .unset, .unset] [])
  refine Goes.go (fun _ k => XS.goto X7.here X7.ex rfl (pc0 := 53) (pc' := 16) rfl (hb hby d_prog_16_method_4_53) (by decide) (by decide) (XS.iload X7.here X7.ex rfl (hb hby d_prog_16_method_4_16) rfl (XS.bipush X7.here X7.ex rfl (hb hby d_prog_16_method_4_18) (XS.icmpNo X7.here X7.ex rfl (hb hby d_prog_16_method_4_20) rfl (cd_f (cd := .ge) (x := (3 : Int32)) (y := (10 : Int32)) (by decide)) (XS.iconst X7.here X7.ex rfl (hb hby d_prog_16_method_4_23) (XS.bipush X7.here X7.ex rfl (hb hby d_prog_16_method_4_24) k)))))) ?_
  show Goes _ _ _ _ T7 (mkF m 26 #[.val (.long t), .second, .val (.long hi), .second, .val (.long lo), .second, .val (.ref b1), .val (.long tt), .second, .val (.int (3 : Int32)), .val (.int (35 : Int32)), .unset, .unset, .unset, .unset] [(.int (9 : Int32)), (.int (5 : Int32))])
  refine Goes.go (fun _ k => XS.iload X7.here X7.ex rfl (hb hby d_prog_16_method_4_26) rfl (XS.isub X7.here X7.ex rfl (hb hby d_prog_16_method_4_28) rfl k)) ?_
  show Goes _ _ _ _ T7 (mkF m 29 #[.val (.long t), .second, .val (.long hi), .second, .val (.long lo), .second, .val (.ref b1), .val (.long tt), .second, .val (.int (3 : Int32)), .val (.int (35 : Int32)), .unset, .unset, .unset, .unset] [(.int ((9 : Int32) - (3 : Int32))), (.int (5 : Int32))])
  refine Goes.cast (congrArg (fun zq_ => (mkF m 29 #[.val (.long t), .second, .val (.long hi), .second, .val (.long lo), .second, .val (.ref b1), .val (.long tt), .second, .val (.int (3 : Int32)), .val (.int (35 : Int32)), .unset, .unset, .unset, .unset] [(.int zq_), (.int (5 : Int32))])) (show (((9 : Int32) - (3 : Int32)) : Int32) = (6 : Int32) from by decide)) ?_
  show Goes _ _ _ _ T7 (mkF m 29 #[.val (.long t), .second, .val (.long hi), .second, .val (.long lo), .second, .val (.ref b1), .val (.long tt), .second, .val (.int (3 : Int32)), .val (.int (35 : Int32)), .unset, .unset, .unset, .unset] [(.int (6 : Int32)), (.int (5 : Int32))])
  refine Goes.go (fun _ k => XS.imul X7.here X7.ex rfl (hb hby d_prog_16_method_4_29) rfl k) ?_
  show Goes _ _ _ _ T7 (mkF m 30 #[.val (.long t), .second, .val (.long hi), .second, .val (.long lo), .second, .val (.ref b1), .val (.long tt), .second, .val (.int (3 : Int32)), .val (.int (35 : Int32)), .unset, .unset, .unset, .unset] [(.int ((5 : Int32) * (6 : Int32)))])
  refine Goes.cast (congrArg (fun zq_ => (mkF m 30 #[.val (.long t), .second, .val (.long hi), .second, .val (.long lo), .second, .val (.ref b1), .val (.long tt), .second, .val (.int (3 : Int32)), .val (.int (35 : Int32)), .unset, .unset, .unset, .unset] [(.int zq_)])) (show (((5 : Int32) * (6 : Int32)) : Int32) = (30 : Int32) from by decide)) ?_
  show Goes _ _ _ _ T7 (mkF m 30 #[.val (.long t), .second, .val (.long hi), .second, .val (.long lo), .second, .val (.ref b1), .val (.long tt), .second, .val (.int (3 : Int32)), .val (.int (35 : Int32)), .unset, .unset, .unset, .unset] [(.int (30 : Int32))])
  refine Goes.go (fun _ k => XS.istore X7.here X7.ex rfl (hb hby d_prog_16_method_4_30) rfl (l' := #[.val (.long t), .second, .val (.long hi), .second, .val (.long lo), .second, .val (.ref b1), .val (.long tt), .second, .val (.int (3 : Int32)), .val (.int (30 : Int32)), .unset, .unset, .unset, .unset]) rfl (XS.aload X7.here X7.ex rfl (hb hby d_prog_16_method_4_32) rfl rfl (XS.iload X7.here X7.ex rfl (hb hby d_prog_16_method_4_34) rfl k))) ?_
  show Goes _ _ _ _ T7 (mkF m 36 #[.val (.long t), .second, .val (.long hi), .second, .val (.long lo), .second, .val (.ref b1), .val (.long tt), .second, .val (.int (3 : Int32)), .val (.int (30 : Int32)), .unset, .unset, .unset, .unset] [(.int (3 : Int32)), (.ref b1)])
  refine Wk.getS X7 (host := "") (Or.inl (w_6 hw)) Via.refl OA rfl (hb hby d_prog_16_method_4_36) ?_
  intro T8 X8
  show Goes _ _ _ _ T8 (mkF m 39 #[.val (.long t), .second, .val (.long hi), .second, .val (.long lo), .second, .val (.ref b1), .val (.long tt), .second, .val (.int (3 : Int32)), .val (.int (30 : Int32)), .unset, .unset, .unset, .unset] [(.ref al), (.int (3 : Int32)), (.ref b1)])
  refine Goes.go (fun _ k => XS.lload X8.here X8.ex rfl (hb hby d_prog_16_method_4_39) rfl (XS.iload X8.here X8.ex rfl (hb hby d_prog_16_method_4_41) rfl (XS.lushr X8.here X8.ex rfl (hb hby d_prog_16_method_4_43) rfl (XS.l2i X8.here X8.ex rfl (hb hby d_prog_16_method_4_44) rfl (XS.bipush X8.here X8.ex rfl (hb hby d_prog_16_method_4_45) (XS.iand X8.here X8.ex rfl (hb hby d_prog_16_method_4_47) rfl k)))))) ?_
  show Goes _ _ _ _ T8 (mkF m 48 #[.val (.long t), .second, .val (.long hi), .second, .val (.long lo), .second, .val (.ref b1), .val (.long tt), .second, .val (.int (3 : Int32)), .val (.int (30 : Int32)), .unset, .unset, .unset, .unset] [(.int ((((tt.toUInt64 >>> ((30 : Int32) &&& 0x3f).toInt64.toUInt64).toInt64).toInt32) &&& (31 : Int32))), (.ref al), (.int (3 : Int32)), (.ref b1)])
  obtain ⟨y3, hy3⟩ : ∃ z : Int32, z = (((tt.toUInt64 >>> ((30 : Int32) &&& 0x3f).toInt64.toUInt64).toInt64).toInt32) := ⟨_, rfl⟩
  refine Goes.cast (show (mkF m 48 #[.val (.long t), .second, .val (.long hi), .second, .val (.long lo), .second, .val (.ref b1), .val (.long tt), .second, .val (.int (3 : Int32)), .val (.int (30 : Int32)), .unset, .unset, .unset, .unset] [(.int ((((tt.toUInt64 >>> ((30 : Int32) &&& 0x3f).toInt64.toUInt64).toInt64).toInt32) &&& (31 : Int32))), (.ref al), (.int (3 : Int32)), (.ref b1)]) = (mkF m 48 #[.val (.long t), .second, .val (.long hi), .second, .val (.long lo), .second, .val (.ref b1), .val (.long tt), .second, .val (.int (3 : Int32)), .val (.int (30 : Int32)), .unset, .unset, .unset, .unset] [(.int (y3 &&& (31 : Int32))), (.ref al), (.int (3 : Int32)), (.ref b1)]) from by rw [hy3]) ?_
  show Goes _ _ _ _ T8 (mkF m 48 #[.val (.long t), .second, .val (.long hi), .second, .val (.long lo), .second, .val (.ref b1), .val (.long tt), .second, .val (.int (3 : Int32)), .val (.int (30 : Int32)), .unset, .unset, .unset, .unset] [(.int (y3 &&& (31 : Int32))), (.ref al), (.int (3 : Int32)), (.ref b1)])
  refine Goes.go (X8.caload (VA.ext X8.old) (own_b31 y3) (own_symv y3) rfl rfl (hb hby d_prog_16_method_4_48)) ?_
  show Goes _ _ _ _ T8 (mkF m 49 #[.val (.long t), .second, .val (.long hi), .second, .val (.long lo), .second, .val (.ref b1), .val (.long tt), .second, .val (.int (3 : Int32)), .val (.int (30 : Int32)), .unset, .unset, .unset, .unset] [(.int (own_sym y3)), (.int (3 : Int32)), (.ref b1)])
  refine Wk.castore (hm' := fun _ => h0) X8 V_b1 ⟨by decide, by decide⟩ (i := 3) rfl (Nat.le_of_ble_eq_true rfl) gz_b1 (fun _ => Mark.stay (allS gm_b1 all0)) rfl rfl (hb hby d_prog_16_method_4_49) ?_
  intro T9 h9 X9 W9 V9
  clear V_b1; have V_b1 : Arv Z h9 b1 _ .char (26 : Int32) [(.int (nar .char (own_sym y0))), (.int (nar .char (own_sym y1))), (.int (nar .char (own_sym y2))), (.int (nar .char (own_sym y3))), (.int (0 : Int32)), (.int (0 : Int32)), (.int (0 : Int32)), (.int (0 : Int32)), (.int (0 : Int32)), (.int (0 : Int32)), (.int (0 : Int32)), (.int (0 : Int32)), (.int (0 : Int32)), (.int (0 : Int32)), (.int (0 : Int32)), (.int (0 : Int32)), (.int (0 : Int32)), (.int (0 : Int32)), (.int (0 : Int32)), (.int (0 : Int32)), (.int (0 : Int32)), (.int (0 : Int32)), (.int (0 : Int32)), (.int (0 : Int32)), (.int (0 : Int32)), (.int (0 : Int32))] (.int (0 : Int32)) := V9
  show Goes _ _ _ _ T9 (mkF m 50 #[.val (.long t), .second, .val (.long hi), .second, .val (.long lo), .second, .val (.ref b1), .val (.long tt), .second, .val (.int (3 : Int32)), .val (.int (30 : Int32)), .unset, .unset, .unset, .unset] [])
  refine Goes.go (fun _ k => XS.iinc X9.here X9.ex rfl (hb hby d_prog_16_method_4_50) rfl (l' := #[.val (.long t), .second, .val (.long hi), .second, .val (.long lo), .second, .val (.ref b1), .val (.long tt), .second, .val (.int ((3 : Int32) + (1 : Int32))), .val (.int (30 : Int32)), .unset, .unset, .unset, .unset]) rfl k) ?_
  show Goes _ _ _ _ T9 (mkF m 53 #[.val (.long t), .second, .val (.long hi), .second, .val (.long lo), .second, .val (.ref b1), .val (.long tt), .second, .val (.int ((3 : Int32) + (1 : Int32))), .val (.int (30 : Int32)), .unset, .unset, .unset, .unset] [])
  refine Goes.cast (congrArg (fun zq_ => (mkF m 53 #[.val (.long t), .second, .val (.long hi), .second, .val (.long lo), .second, .val (.ref b1), .val (.long tt), .second, .val (.int zq_), .val (.int (30 : Int32)), .unset, .unset, .unset, .unset] [])) (show (((3 : Int32) + (1 : Int32)) : Int32) = (4 : Int32) from by decide)) ?_
  show Goes _ _ _ _ T9 (mkF m 53 #[.val (.long t), .second, .val (.long hi), .second, .val (.long lo), .second, .val (.ref b1), .val (.long tt), .second, .val (.int (4 : Int32)), .val (.int (30 : Int32)), .unset, .unset, .unset, .unset] [])
  refine Goes.go (fun _ k => XS.goto X9.here X9.ex rfl (pc0 := 53) (pc' := 16) rfl (hb hby d_prog_16_method_4_53) (by decide) (by decide) (XS.iload X9.here X9.ex rfl (hb hby d_prog_16_method_4_16) rfl (XS.bipush X9.here X9.ex rfl (hb hby d_prog_16_method_4_18) (XS.icmpNo X9.here X9.ex rfl (hb hby d_prog_16_method_4_20) rfl (cd_f (cd := .ge) (x := (4 : Int32)) (y := (10 : Int32)) (by decide)) (XS.iconst X9.here X9.ex rfl (hb hby d_prog_16_method_4_23) (XS.bipush X9.here X9.ex rfl (hb hby d_prog_16_method_4_24) k)))))) ?_
  show Goes _ _ _ _ T9 (mkF m 26 #[.val (.long t), .second, .val (.long hi), .second, .val (.long lo), .second, .val (.ref b1), .val (.long tt), .second, .val (.int (4 : Int32)), .val (.int (30 : Int32)), .unset, .unset, .unset, .unset] [(.int (9 : Int32)), (.int (5 : Int32))])
  refine Goes.go (fun _ k => XS.iload X9.here X9.ex rfl (hb hby d_prog_16_method_4_26) rfl (XS.isub X9.here X9.ex rfl (hb hby d_prog_16_method_4_28) rfl k)) ?_
  show Goes _ _ _ _ T9 (mkF m 29 #[.val (.long t), .second, .val (.long hi), .second, .val (.long lo), .second, .val (.ref b1), .val (.long tt), .second, .val (.int (4 : Int32)), .val (.int (30 : Int32)), .unset, .unset, .unset, .unset] [(.int ((9 : Int32) - (4 : Int32))), (.int (5 : Int32))])
  refine Goes.cast (congrArg (fun zq_ => (mkF m 29 #[.val (.long t), .second, .val (.long hi), .second, .val (.long lo), .second, .val (.ref b1), .val (.long tt), .second, .val (.int (4 : Int32)), .val (.int (30 : Int32)), .unset, .unset, .unset, .unset] [(.int zq_), (.int (5 : Int32))])) (show (((9 : Int32) - (4 : Int32)) : Int32) = (5 : Int32) from by decide)) ?_
  show Goes _ _ _ _ T9 (mkF m 29 #[.val (.long t), .second, .val (.long hi), .second, .val (.long lo), .second, .val (.ref b1), .val (.long tt), .second, .val (.int (4 : Int32)), .val (.int (30 : Int32)), .unset, .unset, .unset, .unset] [(.int (5 : Int32)), (.int (5 : Int32))])
  refine Goes.go (fun _ k => XS.imul X9.here X9.ex rfl (hb hby d_prog_16_method_4_29) rfl k) ?_
  show Goes _ _ _ _ T9 (mkF m 30 #[.val (.long t), .second, .val (.long hi), .second, .val (.long lo), .second, .val (.ref b1), .val (.long tt), .second, .val (.int (4 : Int32)), .val (.int (30 : Int32)), .unset, .unset, .unset, .unset] [(.int ((5 : Int32) * (5 : Int32)))])
  refine Goes.cast (congrArg (fun zq_ => (mkF m 30 #[.val (.long t), .second, .val (.long hi), .second, .val (.long lo), .second, .val (.ref b1), .val (.long tt), .second, .val (.int (4 : Int32)), .val (.int (30 : Int32)), .unset, .unset, .unset, .unset] [(.int zq_)])) (show (((5 : Int32) * (5 : Int32)) : Int32) = (25 : Int32) from by decide)) ?_
  show Goes _ _ _ _ T9 (mkF m 30 #[.val (.long t), .second, .val (.long hi), .second, .val (.long lo), .second, .val (.ref b1), .val (.long tt), .second, .val (.int (4 : Int32)), .val (.int (30 : Int32)), .unset, .unset, .unset, .unset] [(.int (25 : Int32))])
  refine Goes.go (fun _ k => XS.istore X9.here X9.ex rfl (hb hby d_prog_16_method_4_30) rfl (l' := #[.val (.long t), .second, .val (.long hi), .second, .val (.long lo), .second, .val (.ref b1), .val (.long tt), .second, .val (.int (4 : Int32)), .val (.int (25 : Int32)), .unset, .unset, .unset, .unset]) rfl (XS.aload X9.here X9.ex rfl (hb hby d_prog_16_method_4_32) rfl rfl (XS.iload X9.here X9.ex rfl (hb hby d_prog_16_method_4_34) rfl k))) ?_
  show Goes _ _ _ _ T9 (mkF m 36 #[.val (.long t), .second, .val (.long hi), .second, .val (.long lo), .second, .val (.ref b1), .val (.long tt), .second, .val (.int (4 : Int32)), .val (.int (25 : Int32)), .unset, .unset, .unset, .unset] [(.int (4 : Int32)), (.ref b1)])
  refine Wk.getS X9 (host := "") (Or.inl (w_6 hw)) Via.refl OA rfl (hb hby d_prog_16_method_4_36) ?_
  intro T10 X10
  show Goes _ _ _ _ T10 (mkF m 39 #[.val (.long t), .second, .val (.long hi), .second, .val (.long lo), .second, .val (.ref b1), .val (.long tt), .second, .val (.int (4 : Int32)), .val (.int (25 : Int32)), .unset, .unset, .unset, .unset] [(.ref al), (.int (4 : Int32)), (.ref b1)])
  refine Goes.go (fun _ k => XS.lload X10.here X10.ex rfl (hb hby d_prog_16_method_4_39) rfl (XS.iload X10.here X10.ex rfl (hb hby d_prog_16_method_4_41) rfl (XS.lushr X10.here X10.ex rfl (hb hby d_prog_16_method_4_43) rfl (XS.l2i X10.here X10.ex rfl (hb hby d_prog_16_method_4_44) rfl (XS.bipush X10.here X10.ex rfl (hb hby d_prog_16_method_4_45) (XS.iand X10.here X10.ex rfl (hb hby d_prog_16_method_4_47) rfl k)))))) ?_
  show Goes _ _ _ _ T10 (mkF m 48 #[.val (.long t), .second, .val (.long hi), .second, .val (.long lo), .second, .val (.ref b1), .val (.long tt), .second, .val (.int (4 : Int32)), .val (.int (25 : Int32)), .unset, .unset, .unset, .unset] [(.int ((((tt.toUInt64 >>> ((25 : Int32) &&& 0x3f).toInt64.toUInt64).toInt64).toInt32) &&& (31 : Int32))), (.ref al), (.int (4 : Int32)), (.ref b1)])
  obtain ⟨y4, hy4⟩ : ∃ z : Int32, z = (((tt.toUInt64 >>> ((25 : Int32) &&& 0x3f).toInt64.toUInt64).toInt64).toInt32) := ⟨_, rfl⟩
  refine Goes.cast (show (mkF m 48 #[.val (.long t), .second, .val (.long hi), .second, .val (.long lo), .second, .val (.ref b1), .val (.long tt), .second, .val (.int (4 : Int32)), .val (.int (25 : Int32)), .unset, .unset, .unset, .unset] [(.int ((((tt.toUInt64 >>> ((25 : Int32) &&& 0x3f).toInt64.toUInt64).toInt64).toInt32) &&& (31 : Int32))), (.ref al), (.int (4 : Int32)), (.ref b1)]) = (mkF m 48 #[.val (.long t), .second, .val (.long hi), .second, .val (.long lo), .second, .val (.ref b1), .val (.long tt), .second, .val (.int (4 : Int32)), .val (.int (25 : Int32)), .unset, .unset, .unset, .unset] [(.int (y4 &&& (31 : Int32))), (.ref al), (.int (4 : Int32)), (.ref b1)]) from by rw [hy4]) ?_
  show Goes _ _ _ _ T10 (mkF m 48 #[.val (.long t), .second, .val (.long hi), .second, .val (.long lo), .second, .val (.ref b1), .val (.long tt), .second, .val (.int (4 : Int32)), .val (.int (25 : Int32)), .unset, .unset, .unset, .unset] [(.int (y4 &&& (31 : Int32))), (.ref al), (.int (4 : Int32)), (.ref b1)])
  refine Goes.go (X10.caload (VA.ext X10.old) (own_b31 y4) (own_symv y4) rfl rfl (hb hby d_prog_16_method_4_48)) ?_
  show Goes _ _ _ _ T10 (mkF m 49 #[.val (.long t), .second, .val (.long hi), .second, .val (.long lo), .second, .val (.ref b1), .val (.long tt), .second, .val (.int (4 : Int32)), .val (.int (25 : Int32)), .unset, .unset, .unset, .unset] [(.int (own_sym y4)), (.int (4 : Int32)), (.ref b1)])
  refine Wk.castore (hm' := fun _ => h0) X10 V_b1 ⟨by decide, by decide⟩ (i := 4) rfl (Nat.le_of_ble_eq_true rfl) gz_b1 (fun _ => Mark.stay (allS gm_b1 all0)) rfl rfl (hb hby d_prog_16_method_4_49) ?_
  intro T11 h11 X11 W11 V11
  clear V_b1; have V_b1 : Arv Z h11 b1 _ .char (26 : Int32) [(.int (nar .char (own_sym y0))), (.int (nar .char (own_sym y1))), (.int (nar .char (own_sym y2))), (.int (nar .char (own_sym y3))), (.int (nar .char (own_sym y4))), (.int (0 : Int32)), (.int (0 : Int32)), (.int (0 : Int32)), (.int (0 : Int32)), (.int (0 : Int32)), (.int (0 : Int32)), (.int (0 : Int32)), (.int (0 : Int32)), (.int (0 : Int32)), (.int (0 : Int32)), (.int (0 : Int32)), (.int (0 : Int32)), (.int (0 : Int32)), (.int (0 : Int32)), (.int (0 : Int32)), (.int (0 : Int32)), (.int (0 : Int32)), (.int (0 : Int32)), (.int (0 : Int32)), (.int (0 : Int32)), (.int (0 : Int32))] (.int (0 : Int32)) := V11
  show Goes _ _ _ _ T11 (mkF m 50 #[.val (.long t), .second, .val (.long hi), .second, .val (.long lo), .second, .val (.ref b1), .val (.long tt), .second, .val (.int (4 : Int32)), .val (.int (25 : Int32)), .unset, .unset, .unset, .unset] [])
  refine Goes.go (fun _ k => XS.iinc X11.here X11.ex rfl (hb hby d_prog_16_method_4_50) rfl (l' := #[.val (.long t), .second, .val (.long hi), .second, .val (.long lo), .second, .val (.ref b1), .val (.long tt), .second, .val (.int ((4 : Int32) + (1 : Int32))), .val (.int (25 : Int32)), .unset, .unset, .unset, .unset]) rfl k) ?_
  show Goes _ _ _ _ T11 (mkF m 53 #[.val (.long t), .second, .val (.long hi), .second, .val (.long lo), .second, .val (.ref b1), .val (.long tt), .second, .val (.int ((4 : Int32) + (1 : Int32))), .val (.int (25 : Int32)), .unset, .unset, .unset, .unset] [])
  refine Goes.cast (congrArg (fun zq_ => (mkF m 53 #[.val (.long t), .second, .val (.long hi), .second, .val (.long lo), .second, .val (.ref b1), .val (.long tt), .second, .val (.int zq_), .val (.int (25 : Int32)), .unset, .unset, .unset, .unset] [])) (show (((4 : Int32) + (1 : Int32)) : Int32) = (5 : Int32) from by decide)) ?_
  show Goes _ _ _ _ T11 (mkF m 53 #[.val (.long t), .second, .val (.long hi), .second, .val (.long lo), .second, .val (.ref b1), .val (.long tt), .second, .val (.int (5 : Int32)), .val (.int (25 : Int32)), .unset, .unset, .unset, .unset] [])
  refine Goes.go (fun _ k => XS.goto X11.here X11.ex rfl (pc0 := 53) (pc' := 16) rfl (hb hby d_prog_16_method_4_53) (by decide) (by decide) (XS.iload X11.here X11.ex rfl (hb hby d_prog_16_method_4_16) rfl (XS.bipush X11.here X11.ex rfl (hb hby d_prog_16_method_4_18) (XS.icmpNo X11.here X11.ex rfl (hb hby d_prog_16_method_4_20) rfl (cd_f (cd := .ge) (x := (5 : Int32)) (y := (10 : Int32)) (by decide)) (XS.iconst X11.here X11.ex rfl (hb hby d_prog_16_method_4_23) (XS.bipush X11.here X11.ex rfl (hb hby d_prog_16_method_4_24) k)))))) ?_
  show Goes _ _ _ _ T11 (mkF m 26 #[.val (.long t), .second, .val (.long hi), .second, .val (.long lo), .second, .val (.ref b1), .val (.long tt), .second, .val (.int (5 : Int32)), .val (.int (25 : Int32)), .unset, .unset, .unset, .unset] [(.int (9 : Int32)), (.int (5 : Int32))])
  refine Goes.go (fun _ k => XS.iload X11.here X11.ex rfl (hb hby d_prog_16_method_4_26) rfl (XS.isub X11.here X11.ex rfl (hb hby d_prog_16_method_4_28) rfl k)) ?_
  show Goes _ _ _ _ T11 (mkF m 29 #[.val (.long t), .second, .val (.long hi), .second, .val (.long lo), .second, .val (.ref b1), .val (.long tt), .second, .val (.int (5 : Int32)), .val (.int (25 : Int32)), .unset, .unset, .unset, .unset] [(.int ((9 : Int32) - (5 : Int32))), (.int (5 : Int32))])
  refine Goes.cast (congrArg (fun zq_ => (mkF m 29 #[.val (.long t), .second, .val (.long hi), .second, .val (.long lo), .second, .val (.ref b1), .val (.long tt), .second, .val (.int (5 : Int32)), .val (.int (25 : Int32)), .unset, .unset, .unset, .unset] [(.int zq_), (.int (5 : Int32))])) (show (((9 : Int32) - (5 : Int32)) : Int32) = (4 : Int32) from by decide)) ?_
  show Goes _ _ _ _ T11 (mkF m 29 #[.val (.long t), .second, .val (.long hi), .second, .val (.long lo), .second, .val (.ref b1), .val (.long tt), .second, .val (.int (5 : Int32)), .val (.int (25 : Int32)), .unset, .unset, .unset, .unset] [(.int (4 : Int32)), (.int (5 : Int32))])
  refine Goes.go (fun _ k => XS.imul X11.here X11.ex rfl (hb hby d_prog_16_method_4_29) rfl k) ?_
  show Goes _ _ _ _ T11 (mkF m 30 #[.val (.long t), .second, .val (.long hi), .second, .val (.long lo), .second, .val (.ref b1), .val (.long tt), .second, .val (.int (5 : Int32)), .val (.int (25 : Int32)), .unset, .unset, .unset, .unset] [(.int ((5 : Int32) * (4 : Int32)))])
  refine Goes.cast (congrArg (fun zq_ => (mkF m 30 #[.val (.long t), .second, .val (.long hi), .second, .val (.long lo), .second, .val (.ref b1), .val (.long tt), .second, .val (.int (5 : Int32)), .val (.int (25 : Int32)), .unset, .unset, .unset, .unset] [(.int zq_)])) (show (((5 : Int32) * (4 : Int32)) : Int32) = (20 : Int32) from by decide)) ?_
  show Goes _ _ _ _ T11 (mkF m 30 #[.val (.long t), .second, .val (.long hi), .second, .val (.long lo), .second, .val (.ref b1), .val (.long tt), .second, .val (.int (5 : Int32)), .val (.int (25 : Int32)), .unset, .unset, .unset, .unset] [(.int (20 : Int32))])
  refine Goes.go (fun _ k => XS.istore X11.here X11.ex rfl (hb hby d_prog_16_method_4_30) rfl (l' := #[.val (.long t), .second, .val (.long hi), .second, .val (.long lo), .second, .val (.ref b1), .val (.long tt), .second, .val (.int (5 : Int32)), .val (.int (20 : Int32)), .unset, .unset, .unset, .unset]) rfl (XS.aload X11.here X11.ex rfl (hb hby d_prog_16_method_4_32) rfl rfl (XS.iload X11.here X11.ex rfl (hb hby d_prog_16_method_4_34) rfl k))) ?_
  show Goes _ _ _ _ T11 (mkF m 36 #[.val (.long t), .second, .val (.long hi), .second, .val (.long lo), .second, .val (.ref b1), .val (.long tt), .second, .val (.int (5 : Int32)), .val (.int (20 : Int32)), .unset, .unset, .unset, .unset] [(.int (5 : Int32)), (.ref b1)])
  refine Wk.getS X11 (host := "") (Or.inl (w_6 hw)) Via.refl OA rfl (hb hby d_prog_16_method_4_36) ?_
  intro T12 X12
  show Goes _ _ _ _ T12 (mkF m 39 #[.val (.long t), .second, .val (.long hi), .second, .val (.long lo), .second, .val (.ref b1), .val (.long tt), .second, .val (.int (5 : Int32)), .val (.int (20 : Int32)), .unset, .unset, .unset, .unset] [(.ref al), (.int (5 : Int32)), (.ref b1)])
  refine Goes.go (fun _ k => XS.lload X12.here X12.ex rfl (hb hby d_prog_16_method_4_39) rfl (XS.iload X12.here X12.ex rfl (hb hby d_prog_16_method_4_41) rfl (XS.lushr X12.here X12.ex rfl (hb hby d_prog_16_method_4_43) rfl (XS.l2i X12.here X12.ex rfl (hb hby d_prog_16_method_4_44) rfl (XS.bipush X12.here X12.ex rfl (hb hby d_prog_16_method_4_45) (XS.iand X12.here X12.ex rfl (hb hby d_prog_16_method_4_47) rfl k)))))) ?_
  show Goes _ _ _ _ T12 (mkF m 48 #[.val (.long t), .second, .val (.long hi), .second, .val (.long lo), .second, .val (.ref b1), .val (.long tt), .second, .val (.int (5 : Int32)), .val (.int (20 : Int32)), .unset, .unset, .unset, .unset] [(.int ((((tt.toUInt64 >>> ((20 : Int32) &&& 0x3f).toInt64.toUInt64).toInt64).toInt32) &&& (31 : Int32))), (.ref al), (.int (5 : Int32)), (.ref b1)])
  obtain ⟨y5, hy5⟩ : ∃ z : Int32, z = (((tt.toUInt64 >>> ((20 : Int32) &&& 0x3f).toInt64.toUInt64).toInt64).toInt32) := ⟨_, rfl⟩
  refine Goes.cast (show (mkF m 48 #[.val (.long t), .second, .val (.long hi), .second, .val (.long lo), .second, .val (.ref b1), .val (.long tt), .second, .val (.int (5 : Int32)), .val (.int (20 : Int32)), .unset, .unset, .unset, .unset] [(.int ((((tt.toUInt64 >>> ((20 : Int32) &&& 0x3f).toInt64.toUInt64).toInt64).toInt32) &&& (31 : Int32))), (.ref al), (.int (5 : Int32)), (.ref b1)]) = (mkF m 48 #[.val (.long t), .second, .val (.long hi), .second, .val (.long lo), .second, .val (.ref b1), .val (.long tt), .second, .val (.int (5 : Int32)), .val (.int (20 : Int32)), .unset, .unset, .unset, .unset] [(.int (y5 &&& (31 : Int32))), (.ref al), (.int (5 : Int32)), (.ref b1)]) from by rw [hy5]) ?_
  show Goes _ _ _ _ T12 (mkF m 48 #[.val (.long t), .second, .val (.long hi), .second, .val (.long lo), .second, .val (.ref b1), .val (.long tt), .second, .val (.int (5 : Int32)), .val (.int (20 : Int32)), .unset, .unset, .unset, .unset] [(.int (y5 &&& (31 : Int32))), (.ref al), (.int (5 : Int32)), (.ref b1)])
  refine Goes.go (X12.caload (VA.ext X12.old) (own_b31 y5) (own_symv y5) rfl rfl (hb hby d_prog_16_method_4_48)) ?_
  show Goes _ _ _ _ T12 (mkF m 49 #[.val (.long t), .second, .val (.long hi), .second, .val (.long lo), .second, .val (.ref b1), .val (.long tt), .second, .val (.int (5 : Int32)), .val (.int (20 : Int32)), .unset, .unset, .unset, .unset] [(.int (own_sym y5)), (.int (5 : Int32)), (.ref b1)])
  refine Wk.castore (hm' := fun _ => h0) X12 V_b1 ⟨by decide, by decide⟩ (i := 5) rfl (Nat.le_of_ble_eq_true rfl) gz_b1 (fun _ => Mark.stay (allS gm_b1 all0)) rfl rfl (hb hby d_prog_16_method_4_49) ?_
  intro T13 h13 X13 W13 V13
  clear V_b1; have V_b1 : Arv Z h13 b1 _ .char (26 : Int32) [(.int (nar .char (own_sym y0))), (.int (nar .char (own_sym y1))), (.int (nar .char (own_sym y2))), (.int (nar .char (own_sym y3))), (.int (nar .char (own_sym y4))), (.int (nar .char (own_sym y5))), (.int (0 : Int32)), (.int (0 : Int32)), (.int (0 : Int32)), (.int (0 : Int32)), (.int (0 : Int32)), (.int (0 : Int32)), (.int (0 : Int32)), (.int (0 : Int32)), (.int (0 : Int32)), (.int (0 : Int32)), (.int (0 : Int32)), (.int (0 : Int32)), (.int (0 : Int32)), (.int (0 : Int32)), (.int (0 : Int32)), (.int (0 : Int32)), (.int (0 : Int32)), (.int (0 : Int32)), (.int (0 : Int32)), (.int (0 : Int32))] (.int (0 : Int32)) := V13
  show Goes _ _ _ _ T13 (mkF m 50 #[.val (.long t), .second, .val (.long hi), .second, .val (.long lo), .second, .val (.ref b1), .val (.long tt), .second, .val (.int (5 : Int32)), .val (.int (20 : Int32)), .unset, .unset, .unset, .unset] [])
  refine Goes.go (fun _ k => XS.iinc X13.here X13.ex rfl (hb hby d_prog_16_method_4_50) rfl (l' := #[.val (.long t), .second, .val (.long hi), .second, .val (.long lo), .second, .val (.ref b1), .val (.long tt), .second, .val (.int ((5 : Int32) + (1 : Int32))), .val (.int (20 : Int32)), .unset, .unset, .unset, .unset]) rfl k) ?_
  show Goes _ _ _ _ T13 (mkF m 53 #[.val (.long t), .second, .val (.long hi), .second, .val (.long lo), .second, .val (.ref b1), .val (.long tt), .second, .val (.int ((5 : Int32) + (1 : Int32))), .val (.int (20 : Int32)), .unset, .unset, .unset, .unset] [])
  refine Goes.cast (congrArg (fun zq_ => (mkF m 53 #[.val (.long t), .second, .val (.long hi), .second, .val (.long lo), .second, .val (.ref b1), .val (.long tt), .second, .val (.int zq_), .val (.int (20 : Int32)), .unset, .unset, .unset, .unset] [])) (show (((5 : Int32) + (1 : Int32)) : Int32) = (6 : Int32) from by decide)) ?_
  show Goes _ _ _ _ T13 (mkF m 53 #[.val (.long t), .second, .val (.long hi), .second, .val (.long lo), .second, .val (.ref b1), .val (.long tt), .second, .val (.int (6 : Int32)), .val (.int (20 : Int32)), .unset, .unset, .unset, .unset] [])
  refine Goes.go (fun _ k => XS.goto X13.here X13.ex rfl (pc0 := 53) (pc' := 16) rfl (hb hby d_prog_16_method_4_53) (by decide) (by decide) (XS.iload X13.here X13.ex rfl (hb hby d_prog_16_method_4_16) rfl (XS.bipush X13.here X13.ex rfl (hb hby d_prog_16_method_4_18) (XS.icmpNo X13.here X13.ex rfl (hb hby d_prog_16_method_4_20) rfl (cd_f (cd := .ge) (x := (6 : Int32)) (y := (10 : Int32)) (by decide)) (XS.iconst X13.here X13.ex rfl (hb hby d_prog_16_method_4_23) (XS.bipush X13.here X13.ex rfl (hb hby d_prog_16_method_4_24) k)))))) ?_
  show Goes _ _ _ _ T13 (mkF m 26 #[.val (.long t), .second, .val (.long hi), .second, .val (.long lo), .second, .val (.ref b1), .val (.long tt), .second, .val (.int (6 : Int32)), .val (.int (20 : Int32)), .unset, .unset, .unset, .unset] [(.int (9 : Int32)), (.int (5 : Int32))])
  refine Goes.go (fun _ k => XS.iload X13.here X13.ex rfl (hb hby d_prog_16_method_4_26) rfl (XS.isub X13.here X13.ex rfl (hb hby d_prog_16_method_4_28) rfl k)) ?_
  show Goes _ _ _ _ T13 (mkF m 29 #[.val (.long t), .second, .val (.long hi), .second, .val (.long lo), .second, .val (.ref b1), .val (.long tt), .second, .val (.int (6 : Int32)), .val (.int (20 : Int32)), .unset, .unset, .unset, .unset] [(.int ((9 : Int32) - (6 : Int32))), (.int (5 : Int32))])
  refine Goes.cast (congrArg (fun zq_ => (mkF m 29 #[.val (.long t), .second, .val (.long hi), .second, .val (.long lo), .second, .val (.ref b1), .val (.long tt), .second, .val (.int (6 : Int32)), .val (.int (20 : Int32)), .unset, .unset, .unset, .unset] [(.int zq_), (.int (5 : Int32))])) (show (((9 : Int32) - (6 : Int32)) : Int32) = (3 : Int32) from by decide)) ?_
  show Goes _ _ _ _ T13 (mkF m 29 #[.val (.long t), .second, .val (.long hi), .second, .val (.long lo), .second, .val (.ref b1), .val (.long tt), .second, .val (.int (6 : Int32)), .val (.int (20 : Int32)), .unset, .unset, .unset, .unset] [(.int (3 : Int32)), (.int (5 : Int32))])
  refine Goes.go (fun _ k => XS.imul X13.here X13.ex rfl (hb hby d_prog_16_method_4_29) rfl k) ?_
  show Goes _ _ _ _ T13 (mkF m 30 #[.val (.long t), .second, .val (.long hi), .second, .val (.long lo), .second, .val (.ref b1), .val (.long tt), .second, .val (.int (6 : Int32)), .val (.int (20 : Int32)), .unset, .unset, .unset, .unset] [(.int ((5 : Int32) * (3 : Int32)))])
  refine Goes.cast (congrArg (fun zq_ => (mkF m 30 #[.val (.long t), .second, .val (.long hi), .second, .val (.long lo), .second, .val (.ref b1), .val (.long tt), .second, .val (.int (6 : Int32)), .val (.int (20 : Int32)), .unset, .unset, .unset, .unset] [(.int zq_)])) (show (((5 : Int32) * (3 : Int32)) : Int32) = (15 : Int32) from by decide)) ?_
  show Goes _ _ _ _ T13 (mkF m 30 #[.val (.long t), .second, .val (.long hi), .second, .val (.long lo), .second, .val (.ref b1), .val (.long tt), .second, .val (.int (6 : Int32)), .val (.int (20 : Int32)), .unset, .unset, .unset, .unset] [(.int (15 : Int32))])
  refine Goes.go (fun _ k => XS.istore X13.here X13.ex rfl (hb hby d_prog_16_method_4_30) rfl (l' := #[.val (.long t), .second, .val (.long hi), .second, .val (.long lo), .second, .val (.ref b1), .val (.long tt), .second, .val (.int (6 : Int32)), .val (.int (15 : Int32)), .unset, .unset, .unset, .unset]) rfl (XS.aload X13.here X13.ex rfl (hb hby d_prog_16_method_4_32) rfl rfl (XS.iload X13.here X13.ex rfl (hb hby d_prog_16_method_4_34) rfl k))) ?_
  show Goes _ _ _ _ T13 (mkF m 36 #[.val (.long t), .second, .val (.long hi), .second, .val (.long lo), .second, .val (.ref b1), .val (.long tt), .second, .val (.int (6 : Int32)), .val (.int (15 : Int32)), .unset, .unset, .unset, .unset] [(.int (6 : Int32)), (.ref b1)])
  refine Wk.getS X13 (host := "") (Or.inl (w_6 hw)) Via.refl OA rfl (hb hby d_prog_16_method_4_36) ?_
  intro T14 X14
  show Goes _ _ _ _ T14 (mkF m 39 #[.val (.long t), .second, .val (.long hi), .second, .val (.long lo), .second, .val (.ref b1), .val (.long tt), .second, .val (.int (6 : Int32)), .val (.int (15 : Int32)), .unset, .unset, .unset, .unset] [(.ref al), (.int (6 : Int32)), (.ref b1)])
  refine Goes.go (fun _ k => XS.lload X14.here X14.ex rfl (hb hby d_prog_16_method_4_39) rfl (XS.iload X14.here X14.ex rfl (hb hby d_prog_16_method_4_41) rfl (XS.lushr X14.here X14.ex rfl (hb hby d_prog_16_method_4_43) rfl (XS.l2i X14.here X14.ex rfl (hb hby d_prog_16_method_4_44) rfl (XS.bipush X14.here X14.ex rfl (hb hby d_prog_16_method_4_45) (XS.iand X14.here X14.ex rfl (hb hby d_prog_16_method_4_47) rfl k)))))) ?_
  show Goes _ _ _ _ T14 (mkF m 48 #[.val (.long t), .second, .val (.long hi), .second, .val (.long lo), .second, .val (.ref b1), .val (.long tt), .second, .val (.int (6 : Int32)), .val (.int (15 : Int32)), .unset, .unset, .unset, .unset] [(.int ((((tt.toUInt64 >>> ((15 : Int32) &&& 0x3f).toInt64.toUInt64).toInt64).toInt32) &&& (31 : Int32))), (.ref al), (.int (6 : Int32)), (.ref b1)])
  obtain ⟨y6, hy6⟩ : ∃ z : Int32, z = (((tt.toUInt64 >>> ((15 : Int32) &&& 0x3f).toInt64.toUInt64).toInt64).toInt32) := ⟨_, rfl⟩
  refine Goes.cast (show (mkF m 48 #[.val (.long t), .second, .val (.long hi), .second, .val (.long lo), .second, .val (.ref b1), .val (.long tt), .second, .val (.int (6 : Int32)), .val (.int (15 : Int32)), .unset, .unset, .unset, .unset] [(.int ((((tt.toUInt64 >>> ((15 : Int32) &&& 0x3f).toInt64.toUInt64).toInt64).toInt32) &&& (31 : Int32))), (.ref al), (.int (6 : Int32)), (.ref b1)]) = (mkF m 48 #[.val (.long t), .second, .val (.long hi), .second, .val (.long lo), .second, .val (.ref b1), .val (.long tt), .second, .val (.int (6 : Int32)), .val (.int (15 : Int32)), .unset, .unset, .unset, .unset] [(.int (y6 &&& (31 : Int32))), (.ref al), (.int (6 : Int32)), (.ref b1)]) from by rw [hy6]) ?_
  show Goes _ _ _ _ T14 (mkF m 48 #[.val (.long t), .second, .val (.long hi), .second, .val (.long lo), .second, .val (.ref b1), .val (.long tt), .second, .val (.int (6 : Int32)), .val (.int (15 : Int32)), .unset, .unset, .unset, .unset] [(.int (y6 &&& (31 : Int32))), (.ref al), (.int (6 : Int32)), (.ref b1)])
  refine Goes.go (X14.caload (VA.ext X14.old) (own_b31 y6) (own_symv y6) rfl rfl (hb hby d_prog_16_method_4_48)) ?_
  show Goes _ _ _ _ T14 (mkF m 49 #[.val (.long t), .second, .val (.long hi), .second, .val (.long lo), .second, .val (.ref b1), .val (.long tt), .second, .val (.int (6 : Int32)), .val (.int (15 : Int32)), .unset, .unset, .unset, .unset] [(.int (own_sym y6)), (.int (6 : Int32)), (.ref b1)])
  refine Wk.castore (hm' := fun _ => h0) X14 V_b1 ⟨by decide, by decide⟩ (i := 6) rfl (Nat.le_of_ble_eq_true rfl) gz_b1 (fun _ => Mark.stay (allS gm_b1 all0)) rfl rfl (hb hby d_prog_16_method_4_49) ?_
  intro T15 h15 X15 W15 V15
  clear V_b1; have V_b1 : Arv Z h15 b1 _ .char (26 : Int32) [(.int (nar .char (own_sym y0))), (.int (nar .char (own_sym y1))), (.int (nar .char (own_sym y2))), (.int (nar .char (own_sym y3))), (.int (nar .char (own_sym y4))), (.int (nar .char (own_sym y5))), (.int (nar .char (own_sym y6))), (.int (0 : Int32)), (.int (0 : Int32)), (.int (0 : Int32)), (.int (0 : Int32)), (.int (0 : Int32)), (.int (0 : Int32)), (.int (0 : Int32)), (.int (0 : Int32)), (.int (0 : Int32)), (.int (0 : Int32)), (.int (0 : Int32)), (.int (0 : Int32)), (.int (0 : Int32)), (.int (0 : Int32)), (.int (0 : Int32)), (.int (0 : Int32)), (.int (0 : Int32)), (.int (0 : Int32)), (.int (0 : Int32))] (.int (0 : Int32)) := V15
  show Goes _ _ _ _ T15 (mkF m 50 #[.val (.long t), .second, .val (.long hi), .second, .val (.long lo), .second, .val (.ref b1), .val (.long tt), .second, .val (.int (6 : Int32)), .val (.int (15 : Int32)), .unset, .unset, .unset, .unset] [])
  refine Goes.go (fun _ k => XS.iinc X15.here X15.ex rfl (hb hby d_prog_16_method_4_50) rfl (l' := #[.val (.long t), .second, .val (.long hi), .second, .val (.long lo), .second, .val (.ref b1), .val (.long tt), .second, .val (.int ((6 : Int32) + (1 : Int32))), .val (.int (15 : Int32)), .unset, .unset, .unset, .unset]) rfl k) ?_
  show Goes _ _ _ _ T15 (mkF m 53 #[.val (.long t), .second, .val (.long hi), .second, .val (.long lo), .second, .val (.ref b1), .val (.long tt), .second, .val (.int ((6 : Int32) + (1 : Int32))), .val (.int (15 : Int32)), .unset, .unset, .unset, .unset] [])
  refine Goes.cast (congrArg (fun zq_ => (mkF m 53 #[.val (.long t), .second, .val (.long hi), .second, .val (.long lo), .second, .val (.ref b1), .val (.long tt), .second, .val (.int zq_), .val (.int (15 : Int32)), .unset, .unset, .unset, .unset] [])) (show (((6 : Int32) + (1 : Int32)) : Int32) = (7 : Int32) from by decide)) ?_
  show Goes _ _ _ _ T15 (mkF m 53 #[.val (.long t), .second, .val (.long hi), .second, .val (.long lo), .second, .val (.ref b1), .val (.long tt), .second, .val (.int (7 : Int32)), .val (.int (15 : Int32)), .unset, .unset, .unset, .unset] [])
  refine Goes.go (fun _ k => XS.goto X15.here X15.ex rfl (pc0 := 53) (pc' := 16) rfl (hb hby d_prog_16_method_4_53) (by decide) (by decide) (XS.iload X15.here X15.ex rfl (hb hby d_prog_16_method_4_16) rfl (XS.bipush X15.here X15.ex rfl (hb hby d_prog_16_method_4_18) (XS.icmpNo X15.here X15.ex rfl (hb hby d_prog_16_method_4_20) rfl (cd_f (cd := .ge) (x := (7 : Int32)) (y := (10 : Int32)) (by decide)) (XS.iconst X15.here X15.ex rfl (hb hby d_prog_16_method_4_23) (XS.bipush X15.here X15.ex rfl (hb hby d_prog_16_method_4_24) k)))))) ?_
  show Goes _ _ _ _ T15 (mkF m 26 #[.val (.long t), .second, .val (.long hi), .second, .val (.long lo), .second, .val (.ref b1), .val (.long tt), .second, .val (.int (7 : Int32)), .val (.int (15 : Int32)), .unset, .unset, .unset, .unset] [(.int (9 : Int32)), (.int (5 : Int32))])
  refine Goes.go (fun _ k => XS.iload X15.here X15.ex rfl (hb hby d_prog_16_method_4_26) rfl (XS.isub X15.here X15.ex rfl (hb hby d_prog_16_method_4_28) rfl k)) ?_
  show Goes _ _ _ _ T15 (mkF m 29 #[.val (.long t), .second, .val (.long hi), .second, .val (.long lo), .second, .val (.ref b1), .val (.long tt), .second, .val (.int (7 : Int32)), .val (.int (15 : Int32)), .unset, .unset, .unset, .unset] [(.int ((9 : Int32) - (7 : Int32))), (.int (5 : Int32))])
  refine Goes.cast (congrArg (fun zq_ => (mkF m 29 #[.val (.long t), .second, .val (.long hi), .second, .val (.long lo), .second, .val (.ref b1), .val (.long tt), .second, .val (.int (7 : Int32)), .val (.int (15 : Int32)), .unset, .unset, .unset, .unset] [(.int zq_), (.int (5 : Int32))])) (show (((9 : Int32) - (7 : Int32)) : Int32) = (2 : Int32) from by decide)) ?_
  show Goes _ _ _ _ T15 (mkF m 29 #[.val (.long t), .second, .val (.long hi), .second, .val (.long lo), .second, .val (.ref b1), .val (.long tt), .second, .val (.int (7 : Int32)), .val (.int (15 : Int32)), .unset, .unset, .unset, .unset] [(.int (2 : Int32)), (.int (5 : Int32))])
  refine Goes.go (fun _ k => XS.imul X15.here X15.ex rfl (hb hby d_prog_16_method_4_29) rfl k) ?_
  show Goes _ _ _ _ T15 (mkF m 30 #[.val (.long t), .second, .val (.long hi), .second, .val (.long lo), .second, .val (.ref b1), .val (.long tt), .second, .val (.int (7 : Int32)), .val (.int (15 : Int32)), .unset, .unset, .unset, .unset] [(.int ((5 : Int32) * (2 : Int32)))])
  refine Goes.cast (congrArg (fun zq_ => (mkF m 30 #[.val (.long t), .second, .val (.long hi), .second, .val (.long lo), .second, .val (.ref b1), .val (.long tt), .second, .val (.int (7 : Int32)), .val (.int (15 : Int32)), .unset, .unset, .unset, .unset] [(.int zq_)])) (show (((5 : Int32) * (2 : Int32)) : Int32) = (10 : Int32) from by decide)) ?_
  show Goes _ _ _ _ T15 (mkF m 30 #[.val (.long t), .second, .val (.long hi), .second, .val (.long lo), .second, .val (.ref b1), .val (.long tt), .second, .val (.int (7 : Int32)), .val (.int (15 : Int32)), .unset, .unset, .unset, .unset] [(.int (10 : Int32))])
  refine Goes.go (fun _ k => XS.istore X15.here X15.ex rfl (hb hby d_prog_16_method_4_30) rfl (l' := #[.val (.long t), .second, .val (.long hi), .second, .val (.long lo), .second, .val (.ref b1), .val (.long tt), .second, .val (.int (7 : Int32)), .val (.int (10 : Int32)), .unset, .unset, .unset, .unset]) rfl (XS.aload X15.here X15.ex rfl (hb hby d_prog_16_method_4_32) rfl rfl (XS.iload X15.here X15.ex rfl (hb hby d_prog_16_method_4_34) rfl k))) ?_
  show Goes _ _ _ _ T15 (mkF m 36 #[.val (.long t), .second, .val (.long hi), .second, .val (.long lo), .second, .val (.ref b1), .val (.long tt), .second, .val (.int (7 : Int32)), .val (.int (10 : Int32)), .unset, .unset, .unset, .unset] [(.int (7 : Int32)), (.ref b1)])
  refine Wk.getS X15 (host := "") (Or.inl (w_6 hw)) Via.refl OA rfl (hb hby d_prog_16_method_4_36) ?_
  intro T16 X16
  show Goes _ _ _ _ T16 (mkF m 39 #[.val (.long t), .second, .val (.long hi), .second, .val (.long lo), .second, .val (.ref b1), .val (.long tt), .second, .val (.int (7 : Int32)), .val (.int (10 : Int32)), .unset, .unset, .unset, .unset] [(.ref al), (.int (7 : Int32)), (.ref b1)])
  refine Goes.go (fun _ k => XS.lload X16.here X16.ex rfl (hb hby d_prog_16_method_4_39) rfl (XS.iload X16.here X16.ex rfl (hb hby d_prog_16_method_4_41) rfl (XS.lushr X16.here X16.ex rfl (hb hby d_prog_16_method_4_43) rfl (XS.l2i X16.here X16.ex rfl (hb hby d_prog_16_method_4_44) rfl (XS.bipush X16.here X16.ex rfl (hb hby d_prog_16_method_4_45) (XS.iand X16.here X16.ex rfl (hb hby d_prog_16_method_4_47) rfl k)))))) ?_
  show Goes _ _ _ _ T16 (mkF m 48 #[.val (.long t), .second, .val (.long hi), .second, .val (.long lo), .second, .val (.ref b1), .val (.long tt), .second, .val (.int (7 : Int32)), .val (.int (10 : Int32)), .unset, .unset, .unset, .unset] [(.int ((((tt.toUInt64 >>> ((10 : Int32) &&& 0x3f).toInt64.toUInt64).toInt64).toInt32) &&& (31 : Int32))), (.ref al), (.int (7 : Int32)), (.ref b1)])
  obtain ⟨y7, hy7⟩ : ∃ z : Int32, z = (((tt.toUInt64 >>> ((10 : Int32) &&& 0x3f).toInt64.toUInt64).toInt64).toInt32) := ⟨_, rfl⟩
  refine Goes.cast (show (mkF m 48 #[.val (.long t), .second, .val (.long hi), .second, .val (.long lo), .second, .val (.ref b1), .val (.long tt), .second, .val (.int (7 : Int32)), .val (.int (10 : Int32)), .unset, .unset, .unset, .unset] [(.int ((((tt.toUInt64 >>> ((10 : Int32) &&& 0x3f).toInt64.toUInt64).toInt64).toInt32) &&& (31 : Int32))), (.ref al), (.int (7 : Int32)), (.ref b1)]) = (mkF m 48 #[.val (.long t), .second, .val (.long hi), .second, .val (.long lo), .second, .val (.ref b1), .val (.long tt), .second, .val (.int (7 : Int32)), .val (.int (10 : Int32)), .unset, .unset, .unset, .unset] [(.int (y7 &&& (31 : Int32))), (.ref al), (.int (7 : Int32)), (.ref b1)]) from by rw [hy7]) ?_
  show Goes _ _ _ _ T16 (mkF m 48 #[.val (.long t), .second, .val (.long hi), .second, .val (.long lo), .second, .val (.ref b1), .val (.long tt), .second, .val (.int (7 : Int32)), .val (.int (10 : Int32)), .unset, .unset, .unset, .unset] [(.int (y7 &&& (31 : Int32))), (.ref al), (.int (7 : Int32)), (.ref b1)])
  refine Goes.go (X16.caload (VA.ext X16.old) (own_b31 y7) (own_symv y7) rfl rfl (hb hby d_prog_16_method_4_48)) ?_
  show Goes _ _ _ _ T16 (mkF m 49 #[.val (.long t), .second, .val (.long hi), .second, .val (.long lo), .second, .val (.ref b1), .val (.long tt), .second, .val (.int (7 : Int32)), .val (.int (10 : Int32)), .unset, .unset, .unset, .unset] [(.int (own_sym y7)), (.int (7 : Int32)), (.ref b1)])
  refine Wk.castore (hm' := fun _ => h0) X16 V_b1 ⟨by decide, by decide⟩ (i := 7) rfl (Nat.le_of_ble_eq_true rfl) gz_b1 (fun _ => Mark.stay (allS gm_b1 all0)) rfl rfl (hb hby d_prog_16_method_4_49) ?_
  intro T17 h17 X17 W17 V17
  clear V_b1; have V_b1 : Arv Z h17 b1 _ .char (26 : Int32) [(.int (nar .char (own_sym y0))), (.int (nar .char (own_sym y1))), (.int (nar .char (own_sym y2))), (.int (nar .char (own_sym y3))), (.int (nar .char (own_sym y4))), (.int (nar .char (own_sym y5))), (.int (nar .char (own_sym y6))), (.int (nar .char (own_sym y7))), (.int (0 : Int32)), (.int (0 : Int32)), (.int (0 : Int32)), (.int (0 : Int32)), (.int (0 : Int32)), (.int (0 : Int32)), (.int (0 : Int32)), (.int (0 : Int32)), (.int (0 : Int32)), (.int (0 : Int32)), (.int (0 : Int32)), (.int (0 : Int32)), (.int (0 : Int32)), (.int (0 : Int32)), (.int (0 : Int32)), (.int (0 : Int32)), (.int (0 : Int32)), (.int (0 : Int32))] (.int (0 : Int32)) := V17
  show Goes _ _ _ _ T17 (mkF m 50 #[.val (.long t), .second, .val (.long hi), .second, .val (.long lo), .second, .val (.ref b1), .val (.long tt), .second, .val (.int (7 : Int32)), .val (.int (10 : Int32)), .unset, .unset, .unset, .unset] [])
  refine Goes.go (fun _ k => XS.iinc X17.here X17.ex rfl (hb hby d_prog_16_method_4_50) rfl (l' := #[.val (.long t), .second, .val (.long hi), .second, .val (.long lo), .second, .val (.ref b1), .val (.long tt), .second, .val (.int ((7 : Int32) + (1 : Int32))), .val (.int (10 : Int32)), .unset, .unset, .unset, .unset]) rfl k) ?_
  show Goes _ _ _ _ T17 (mkF m 53 #[.val (.long t), .second, .val (.long hi), .second, .val (.long lo), .second, .val (.ref b1), .val (.long tt), .second, .val (.int ((7 : Int32) + (1 : Int32))), .val (.int (10 : Int32)), .unset, .unset, .unset, .unset] [])
  refine Goes.cast (congrArg (fun zq_ => (mkF m 53 #[.val (.long t), .second, .val (.long hi), .second, .val (.long lo), .second, .val (.ref b1), .val (.long tt), .second, .val (.int zq_), .val (.int (10 : Int32)), .unset, .unset, .unset, .unset] [])) (show (((7 : Int32) + (1 : Int32)) : Int32) = (8 : Int32) from by decide)) ?_
  show Goes _ _ _ _ T17 (mkF m 53 #[.val (.long t), .second, .val (.long hi), .second, .val (.long lo), .second, .val (.ref b1), .val (.long tt), .second, .val (.int (8 : Int32)), .val (.int (10 : Int32)), .unset, .unset, .unset, .unset] [])
  refine Goes.go (fun _ k => XS.goto X17.here X17.ex rfl (pc0 := 53) (pc' := 16) rfl (hb hby d_prog_16_method_4_53) (by decide) (by decide) (XS.iload X17.here X17.ex rfl (hb hby d_prog_16_method_4_16) rfl (XS.bipush X17.here X17.ex rfl (hb hby d_prog_16_method_4_18) (XS.icmpNo X17.here X17.ex rfl (hb hby d_prog_16_method_4_20) rfl (cd_f (cd := .ge) (x := (8 : Int32)) (y := (10 : Int32)) (by decide)) (XS.iconst X17.here X17.ex rfl (hb hby d_prog_16_method_4_23) (XS.bipush X17.here X17.ex rfl (hb hby d_prog_16_method_4_24) k)))))) ?_
  show Goes _ _ _ _ T17 (mkF m 26 #[.val (.long t), .second, .val (.long hi), .second, .val (.long lo), .second, .val (.ref b1), .val (.long tt), .second, .val (.int (8 : Int32)), .val (.int (10 : Int32)), .unset, .unset, .unset, .unset] [(.int (9 : Int32)), (.int (5 : Int32))])
  refine Goes.go (fun _ k => XS.iload X17.here X17.ex rfl (hb hby d_prog_16_method_4_26) rfl (XS.isub X17.here X17.ex rfl (hb hby d_prog_16_method_4_28) rfl k)) ?_
  show Goes _ _ _ _ T17 (mkF m 29 #[.val (.long t), .second, .val (.long hi), .second, .val (.long lo), .second, .val (.ref b1), .val (.long tt), .second, .val (.int (8 : Int32)), .val (.int (10 : Int32)), .unset, .unset, .unset, .unset] [(.int ((9 : Int32) - (8 : Int32))), (.int (5 : Int32))])
  refine Goes.cast (congrArg (fun zq_ => (mkF m 29 #[.val (.long t), .second, .val (.long hi), .second, .val (.long lo), .second, .val (.ref b1), .val (.long tt), .second, .val (.int (8 : Int32)), .val (.int (10 : Int32)), .unset, .unset, .unset, .unset] [(.int zq_), (.int (5 : Int32))])) (show (((9 : Int32) - (8 : Int32)) : Int32) = (1 : Int32) from by decide)) ?_
  show Goes _ _ _ _ T17 (mkF m 29 #[.val (.long t), .second, .val (.long hi), .second, .val (.long lo), .second, .val (.ref b1), .val (.long tt), .second, .val (.int (8 : Int32)), .val (.int (10 : Int32)), .unset, .unset, .unset, .unset] [(.int (1 : Int32)), (.int (5 : Int32))])
  refine Goes.go (fun _ k => XS.imul X17.here X17.ex rfl (hb hby d_prog_16_method_4_29) rfl k) ?_
  show Goes _ _ _ _ T17 (mkF m 30 #[.val (.long t), .second, .val (.long hi), .second, .val (.long lo), .second, .val (.ref b1), .val (.long tt), .second, .val (.int (8 : Int32)), .val (.int (10 : Int32)), .unset, .unset, .unset, .unset] [(.int ((5 : Int32) * (1 : Int32)))])
  refine Goes.cast (congrArg (fun zq_ => (mkF m 30 #[.val (.long t), .second, .val (.long hi), .second, .val (.long lo), .second, .val (.ref b1), .val (.long tt), .second, .val (.int (8 : Int32)), .val (.int (10 : Int32)), .unset, .unset, .unset, .unset] [(.int zq_)])) (show (((5 : Int32) * (1 : Int32)) : Int32) = (5 : Int32) from by decide)) ?_
  show Goes _ _ _ _ T17 (mkF m 30 #[.val (.long t), .second, .val (.long hi), .second, .val (.long lo), .second, .val (.ref b1), .val (.long tt), .second, .val (.int (8 : Int32)), .val (.int (10 : Int32)), .unset, .unset, .unset, .unset] [(.int (5 : Int32))])
  refine Goes.go (fun _ k => XS.istore X17.here X17.ex rfl (hb hby d_prog_16_method_4_30) rfl (l' := #[.val (.long t), .second, .val (.long hi), .second, .val (.long lo), .second, .val (.ref b1), .val (.long tt), .second, .val (.int (8 : Int32)), .val (.int (5 : Int32)), .unset, .unset, .unset, .unset]) rfl (XS.aload X17.here X17.ex rfl (hb hby d_prog_16_method_4_32) rfl rfl (XS.iload X17.here X17.ex rfl (hb hby d_prog_16_method_4_34) rfl k))) ?_
  show Goes _ _ _ _ T17 (mkF m 36 #[.val (.long t), .second, .val (.long hi), .second, .val (.long lo), .second, .val (.ref b1), .val (.long tt), .second, .val (.int (8 : Int32)), .val (.int (5 : Int32)), .unset, .unset, .unset, .unset] [(.int (8 : Int32)), (.ref b1)])
  refine Wk.getS X17 (host := "") (Or.inl (w_6 hw)) Via.refl OA rfl (hb hby d_prog_16_method_4_36) ?_
  intro T18 X18
  show Goes _ _ _ _ T18 (mkF m 39 #[.val (.long t), .second, .val (.long hi), .second, .val (.long lo), .second, .val (.ref b1), .val (.long tt), .second, .val (.int (8 : Int32)), .val (.int (5 : Int32)), .unset, .unset, .unset, .unset] [(.ref al), (.int (8 : Int32)), (.ref b1)])
  refine Goes.go (fun _ k => XS.lload X18.here X18.ex rfl (hb hby d_prog_16_method_4_39) rfl (XS.iload X18.here X18.ex rfl (hb hby d_prog_16_method_4_41) rfl (XS.lushr X18.here X18.ex rfl (hb hby d_prog_16_method_4_43) rfl (XS.l2i X18.here X18.ex rfl (hb hby d_prog_16_method_4_44) rfl (XS.bipush X18.here X18.ex rfl (hb hby d_prog_16_method_4_45) (XS.iand X18.here X18.ex rfl (hb hby d_prog_16_method_4_47) rfl k)))))) ?_
  show Goes _ _ _ _ T18 (mkF m 48 #[.val (.long t), .second, .val (.long hi), .second, .val (.long lo), .second, .val (.ref b1), .val (.long tt), .second, .val (.int (8 : Int32)), .val (.int (5 : Int32)), .unset, .unset, .unset, .unset] [(.int ((((tt.toUInt64 >>> ((5 : Int32) &&& 0x3f).toInt64.toUInt64).toInt64).toInt32) &&& (31 : Int32))), (.ref al), (.int (8 : Int32)), (.ref b1)])
  obtain ⟨y8, hy8⟩ : ∃ z : Int32, z = (((tt.toUInt64 >>> ((5 : Int32) &&& 0x3f).toInt64.toUInt64).toInt64).toInt32) := ⟨_, rfl⟩
  refine Goes.cast (show (mkF m 48 #[.val (.long t), .second, .val (.long hi), .second, .val (.long lo), .second, .val (.ref b1), .val (.long tt), .second, .val (.int (8 : Int32)), .val (.int (5 : Int32)), .unset, .unset, .unset, .unset] [(.int ((((tt.toUInt64 >>> ((5 : Int32) &&& 0x3f).toInt64.toUInt64).toInt64).toInt32) &&& (31 : Int32))), (.ref al), (.int (8 : Int32)), (.ref b1)]) = (mkF m 48 #[.val (.long t), .second, .val (.long hi), .second, .val (.long lo), .second, .val (.ref b1), .val (.long tt), .second, .val (.int (8 : Int32)), .val (.int (5 : Int32)), .unset, .unset, .unset, .unset] [(.int (y8 &&& (31 : Int32))), (.ref al), (.int (8 : Int32)), (.ref b1)]) from by rw [hy8]) ?_
  show Goes _ _ _ _ T18 (mkF m 48 #[.val (.long t), .second, .val (.long hi), .second, .val (.long lo), .second, .val (.ref b1), .val (.long tt), .second, .val (.int (8 : Int32)), .val (.int (5 : Int32)), .unset, .unset, .unset, .unset] [(.int (y8 &&& (31 : Int32))), (.ref al), (.int (8 : Int32)), (.ref b1)])
  refine Goes.go (X18.caload (VA.ext X18.old) (own_b31 y8) (own_symv y8) rfl rfl (hb hby d_prog_16_method_4_48)) ?_
  show Goes _ _ _ _ T18 (mkF m 49 #[.val (.long t), .second, .val (.long hi), .second, .val (.long lo), .second, .val (.ref b1), .val (.long tt), .second, .val (.int (8 : Int32)), .val (.int (5 : Int32)), .unset, .unset, .unset, .unset] [(.int (own_sym y8)), (.int (8 : Int32)), (.ref b1)])
  refine Wk.castore (hm' := fun _ => h0) X18 V_b1 ⟨by decide, by decide⟩ (i := 8) rfl (Nat.le_of_ble_eq_true rfl) gz_b1 (fun _ => Mark.stay (allS gm_b1 all0)) rfl rfl (hb hby d_prog_16_method_4_49) ?_
  intro T19 h19 X19 W19 V19
  clear V_b1; have V_b1 : Arv Z h19 b1 _ .char (26 : Int32) [(.int (nar .char (own_sym y0))), (.int (nar .char (own_sym y1))), (.int (nar .char (own_sym y2))), (.int (nar .char (own_sym y3))), (.int (nar .char (own_sym y4))), (.int (nar .char (own_sym y5))), (.int (nar .char (own_sym y6))), (.int (nar .char (own_sym y7))), (.int (nar .char (own_sym y8))), (.int (0 : Int32)), (.int (0 : Int32)), (.int (0 : Int32)), (.int (0 : Int32)), (.int (0 : Int32)), (.int (0 : Int32)), (.int (0 : Int32)), (.int (0 : Int32)), (.int (0 : Int32)), (.int (0 : Int32)), (.int (0 : Int32)), (.int (0 : Int32)), (.int (0 : Int32)), (.int (0 : Int32)), (.int (0 : Int32)), (.int (0 : Int32)), (.int (0 : Int32))] (.int (0 : Int32)) := V19
  show Goes _ _ _ _ T19 (mkF m 50 #[.val (.long t), .second, .val (.long hi), .second, .val (.long lo), .second, .val (.ref b1), .val (.long tt), .second, .val (.int (8 : Int32)), .val (.int (5 : Int32)), .unset, .unset, .unset, .unset] [])
  refine Goes.go (fun _ k => XS.iinc X19.here X19.ex rfl (hb hby d_prog_16_method_4_50) rfl (l' := #[.val (.long t), .second, .val (.long hi), .second, .val (.long lo), .second, .val (.ref b1), .val (.long tt), .second, .val (.int ((8 : Int32) + (1 : Int32))), .val (.int (5 : Int32)), .unset, .unset, .unset, .unset]) rfl k) ?_
  show Goes _ _ _ _ T19 (mkF m 53 #[.val (.long t), .second, .val (.long hi), .second, .val (.long lo), .second, .val (.ref b1), .val (.long tt), .second, .val (.int ((8 : Int32) + (1 : Int32))), .val (.int (5 : Int32)), .unset, .unset, .unset, .unset] [])
  refine Goes.cast (congrArg (fun zq_ => (mkF m 53 #[.val (.long t), .second, .val (.long hi), .second, .val (.long lo), .second, .val (.ref b1), .val (.long tt), .second, .val (.int zq_), .val (.int (5 : Int32)), .unset, .unset, .unset, .unset] [])) (show (((8 : Int32) + (1 : Int32)) : Int32) = (9 : Int32) from by decide)) ?_
  show Goes _ _ _ _ T19 (mkF m 53 #[.val (.long t), .second, .val (.long hi), .second, .val (.long lo), .second, .val (.ref b1), .val (.long tt), .second, .val (.int (9 : Int32)), .val (.int (5 : Int32)), .unset, .unset, .unset, .unset] [])
  refine Goes.go (fun _ k => XS.goto X19.here X19.ex rfl (pc0 := 53) (pc' := 16) rfl (hb hby d_prog_16_method_4_53) (by decide) (by decide) (XS.iload X19.here X19.ex rfl (hb hby d_prog_16_method_4_16) rfl (XS.bipush X19.here X19.ex rfl (hb hby d_prog_16_method_4_18) (XS.icmpNo X19.here X19.ex rfl (hb hby d_prog_16_method_4_20) rfl (cd_f (cd := .ge) (x := (9 : Int32)) (y := (10 : Int32)) (by decide)) (XS.iconst X19.here X19.ex rfl (hb hby d_prog_16_method_4_23) (XS.bipush X19.here X19.ex rfl (hb hby d_prog_16_method_4_24) k)))))) ?_
  show Goes _ _ _ _ T19 (mkF m 26 #[.val (.long t), .second, .val (.long hi), .second, .val (.long lo), .second, .val (.ref b1), .val (.long tt), .second, .val (.int (9 : Int32)), .val (.int (5 : Int32)), .unset, .unset, .unset, .unset] [(.int (9 : Int32)), (.int (5 : Int32))])
  refine Goes.go (fun _ k => XS.iload X19.here X19.ex rfl (hb hby d_prog_16_method_4_26) rfl (XS.isub X19.here X19.ex rfl (hb hby d_prog_16_method_4_28) rfl k)) ?_
  show Goes _ _ _ _ T19 (mkF m 29 #[.val (.long t), .second, .val (.long hi), .second, .val (.long lo), .second, .val (.ref b1), .val (.long tt), .second, .val (.int (9 : Int32)), .val (.int (5 : Int32)), .unset, .unset, .unset, .unset] [(.int ((9 : Int32) - (9 : Int32))), (.int (5 : Int32))])
  refine Goes.cast (congrArg (fun zq_ => (mkF m 29 #[.val (.long t), .second, .val (.long hi), .second, .val (.long lo), .second, .val (.ref b1), .val (.long tt), .second, .val (.int (9 : Int32)), .val (.int (5 : Int32)), .unset, .unset, .unset, .unset] [(.int zq_), (.int (5 : Int32))])) (show (((9 : Int32) - (9 : Int32)) : Int32) = (0 : Int32) from by decide)) ?_
  show Goes _ _ _ _ T19 (mkF m 29 #[.val (.long t), .second, .val (.long hi), .second, .val (.long lo), .second, .val (.ref b1), .val (.long tt), .second, .val (.int (9 : Int32)), .val (.int (5 : Int32)), .unset, .unset, .unset, .unset] [(.int (0 : Int32)), (.int (5 : Int32))])
  refine Goes.go (fun _ k => XS.imul X19.here X19.ex rfl (hb hby d_prog_16_method_4_29) rfl k) ?_
  show Goes _ _ _ _ T19 (mkF m 30 #[.val (.long t), .second, .val (.long hi), .second, .val (.long lo), .second, .val (.ref b1), .val (.long tt), .second, .val (.int (9 : Int32)), .val (.int (5 : Int32)), .unset, .unset, .unset, .unset] [(.int ((5 : Int32) * (0 : Int32)))])
  refine Goes.cast (congrArg (fun zq_ => (mkF m 30 #[.val (.long t), .second, .val (.long hi), .second, .val (.long lo), .second, .val (.ref b1), .val (.long tt), .second, .val (.int (9 : Int32)), .val (.int (5 : Int32)), .unset, .unset, .unset, .unset] [(.int zq_)])) (show (((5 : Int32) * (0 : Int32)) : Int32) = (0 : Int32) from by decide)) ?_
  show Goes _ _ _ _ T19 (mkF m 30 #[.val (.long t), .second, .val (.long hi), .second, .val (.long lo), .second, .val (.ref b1), .val (.long tt), .second, .val (.int (9 : Int32)), .val (.int (5 : Int32)), .unset, .unset, .unset, .unset] [(.int (0 : Int32))])
  refine Goes.go (fun _ k => XS.istore X19.here X19.ex rfl (hb hby d_prog_16_method_4_30) rfl (l' := #[.val (.long t), .second, .val (.long hi), .second, .val (.long lo), .second, .val (.ref b1), .val (.long tt), .second, .val (.int (9 : Int32)), .val (.int (0 : Int32)), .unset, .unset, .unset, .unset]) rfl (XS.aload X19.here X19.ex rfl (hb hby d_prog_16_method_4_32) rfl rfl (XS.iload X19.here X19.ex rfl (hb hby d_prog_16_method_4_34) rfl k))) ?_
  show Goes _ _ _ _ T19 (mkF m 36 #[.val (.long t), .second, .val (.long hi), .second, .val (.long lo), .second, .val (.ref b1), .val (.long tt), .second, .val (.int (9 : Int32)), .val (.int (0 : Int32)), .unset, .unset, .unset, .unset] [(.int (9 : Int32)), (.ref b1)])
  refine Wk.getS X19 (host := "") (Or.inl (w_6 hw)) Via.refl OA rfl (hb hby d_prog_16_method_4_36) ?_
  intro T20 X20
  show Goes _ _ _ _ T20 (mkF m 39 #[.val (.long t), .second, .val (.long hi), .second, .val (.long lo), .second, .val (.ref b1), .val (.long tt), .second, .val (.int (9 : Int32)), .val (.int (0 : Int32)), .unset, .unset, .unset, .unset] [(.ref al), (.int (9 : Int32)), (.ref b1)])
  refine Goes.go (fun _ k => XS.lload X20.here X20.ex rfl (hb hby d_prog_16_method_4_39) rfl (XS.iload X20.here X20.ex rfl (hb hby d_prog_16_method_4_41) rfl (XS.lushr X20.here X20.ex rfl (hb hby d_prog_16_method_4_43) rfl (XS.l2i X20.here X20.ex rfl (hb hby d_prog_16_method_4_44) rfl (XS.bipush X20.here X20.ex rfl (hb hby d_prog_16_method_4_45) (XS.iand X20.here X20.ex rfl (hb hby d_prog_16_method_4_47) rfl k)))))) ?_
  show Goes _ _ _ _ T20 (mkF m 48 #[.val (.long t), .second, .val (.long hi), .second, .val (.long lo), .second, .val (.ref b1), .val (.long tt), .second, .val (.int (9 : Int32)), .val (.int (0 : Int32)), .unset, .unset, .unset, .unset] [(.int ((((tt.toUInt64 >>> ((0 : Int32) &&& 0x3f).toInt64.toUInt64).toInt64).toInt32) &&& (31 : Int32))), (.ref al), (.int (9 : Int32)), (.ref b1)])
  obtain ⟨y9, hy9⟩ : ∃ z : Int32, z = (((tt.toUInt64 >>> ((0 : Int32) &&& 0x3f).toInt64.toUInt64).toInt64).toInt32) := ⟨_, rfl⟩
  refine Goes.cast (show (mkF m 48 #[.val (.long t), .second, .val (.long hi), .second, .val (.long lo), .second, .val (.ref b1), .val (.long tt), .second, .val (.int (9 : Int32)), .val (.int (0 : Int32)), .unset, .unset, .unset, .unset] [(.int ((((tt.toUInt64 >>> ((0 : Int32) &&& 0x3f).toInt64.toUInt64).toInt64).toInt32) &&& (31 : Int32))), (.ref al), (.int (9 : Int32)), (.ref b1)]) = (mkF m 48 #[.val (.long t), .second, .val (.long hi), .second, .val (.long lo), .second, .val (.ref b1), .val (.long tt), .second, .val (.int (9 : Int32)), .val (.int (0 : Int32)), .unset, .unset, .unset, .unset] [(.int (y9 &&& (31 : Int32))), (.ref al), (.int (9 : Int32)), (.ref b1)]) from by rw [hy9]) ?_
  show Goes _ _ _ _ T20 (mkF m 48 #[.val (.long t), .second, .val (.long hi), .second, .val (.long lo), .second, .val (.ref b1), .val (.long tt), .second, .val (.int (9 : Int32)), .val (.int (0 : Int32)), .unset, .unset, .unset, .unset] [(.int (y9 &&& (31 : Int32))), (.ref al), (.int (9 : Int32)), (.ref b1)])
  refine Goes.go (X20.caload (VA.ext X20.old) (own_b31 y9) (own_symv y9) rfl rfl (hb hby d_prog_16_method_4_48)) ?_
  show Goes _ _ _ _ T20 (mkF m 49 #[.val (.long t), .second, .val (.long hi), .second, .val (.long lo), .second, .val (.ref b1), .val (.long tt), .second, .val (.int (9 : Int32)), .val (.int (0 : Int32)), .unset, .unset, .unset, .unset] [(.int (own_sym y9)), (.int (9 : Int32)), (.ref b1)])
  refine Wk.castore (hm' := fun _ => h0) X20 V_b1 ⟨by decide, by decide⟩ (i := 9) rfl (Nat.le_of_ble_eq_true rfl) gz_b1 (fun _ => Mark.stay (allS gm_b1 all0)) rfl rfl (hb hby d_prog_16_method_4_49) ?_
  intro T21 h21 X21 W21 V21
  clear V_b1; have V_b1 : Arv Z h21 b1 _ .char (26 : Int32) [(.int (nar .char (own_sym y0))), (.int (nar .char (own_sym y1))), (.int (nar .char (own_sym y2))), (.int (nar .char (own_sym y3))), (.int (nar .char (own_sym y4))), (.int (nar .char (own_sym y5))), (.int (nar .char (own_sym y6))), (.int (nar .char (own_sym y7))), (.int (nar .char (own_sym y8))), (.int (nar .char (own_sym y9))), (.int (0 : Int32)), (.int (0 : Int32)), (.int (0 : Int32)), (.int (0 : Int32)), (.int (0 : Int32)), (.int (0 : Int32)), (.int (0 : Int32)), (.int (0 : Int32)), (.int (0 : Int32)), (.int (0 : Int32)), (.int (0 : Int32)), (.int (0 : Int32)), (.int (0 : Int32)), (.int (0 : Int32)), (.int (0 : Int32)), (.int (0 : Int32))] (.int (0 : Int32)) := V21
  show Goes _ _ _ _ T21 (mkF m 50 #[.val (.long t), .second, .val (.long hi), .second, .val (.long lo), .second, .val (.ref b1), .val (.long tt), .second, .val (.int (9 : Int32)), .val (.int (0 : Int32)), .unset, .unset, .unset, .unset] [])
  refine Goes.go (fun _ k => XS.iinc X21.here X21.ex rfl (hb hby d_prog_16_method_4_50) rfl (l' := #[.val (.long t), .second, .val (.long hi), .second, .val (.long lo), .second, .val (.ref b1), .val (.long tt), .second, .val (.int ((9 : Int32) + (1 : Int32))), .val (.int (0 : Int32)), .unset, .unset, .unset, .unset]) rfl k) ?_
  show Goes _ _ _ _ T21 (mkF m 53 #[.val (.long t), .second, .val (.long hi), .second, .val (.long lo), .second, .val (.ref b1), .val (.long tt), .second, .val (.int ((9 : Int32) + (1 : Int32))), .val (.int (0 : Int32)), .unset, .unset, .unset, .unset] [])
  refine Goes.cast (congrArg (fun zq_ => (mkF m 53 #[.val (.long t), .second, .val (.long hi), .second, .val (.long lo), .second, .val (.ref b1), .val (.long tt), .second, .val (.int zq_), .val (.int (0 : Int32)), .unset, .unset, .unset, .unset] [])) (show (((9 : Int32) + (1 : Int32)) : Int32) = (10 : Int32) from by decide)) ?_
  show Goes _ _ _ _ T21 (mkF m 53 #[.val (.long t), .second, .val (.long hi), .second, .val (.long lo), .second, .val (.ref b1), .val (.long tt), .second, .val (.int (10 : Int32)), .val (.int (0 : Int32)), .unset, .unset, .unset, .unset] [])
  refine Goes.go (fun _ k => XS.goto X21.here X21.ex rfl (pc0 := 53) (pc' := 16) rfl (hb hby d_prog_16_method_4_53) (by decide) (by decide) (XS.iload X21.here X21.ex rfl (hb hby d_prog_16_method_4_16) rfl (XS.bipush X21.here X21.ex rfl (hb hby d_prog_16_method_4_18) (XS.icmpYes X21.here X21.ex rfl (pc0 := 20) (pc' := 56) rfl (hb hby d_prog_16_method_4_20) rfl (cd_t (cd := .ge) (x := (10 : Int32)) (y := (10 : Int32)) (by decide)) (by decide) (by decide) (XS.lloadN X21.here X21.ex rfl (hb hby d_prog_16_method_4_56) rfl k))))) ?_
  show Goes _ _ _ _ T21 (mkF m 57 #[.val (.long t), .second, .val (.long hi), .second, .val (.long lo), .second, .val (.ref b1), .val (.long tt), .second, .val (.int (10 : Int32)), .val (.int (0 : Int32)), .unset, .unset, .unset, .unset] [(.long hi)])
  refine Goes.go (X21.ldcL (w_8 hw) rfl (hb hby d_prog_16_method_4_57)) ?_
  show Goes _ _ _ _ T21 (mkF m 60 #[.val (.long t), .second, .val (.long hi), .second, .val (.long lo), .second, .val (.ref b1), .val (.long tt), .second, .val (.int (10 : Int32)), .val (.int (0 : Int32)), .unset, .unset, .unset, .unset] [(.long (65535 : Int64)), (.long hi)])
  refine Goes.go (fun _ k => XS.land X21.here X21.ex rfl (hb hby d_prog_16_method_4_60) rfl (XS.lstore X21.here X21.ex rfl (hb hby d_prog_16_method_4_61) rfl (l' := #[.val (.long t), .second, .val (.long hi), .second, .val (.long lo), .second, .val (.ref b1), .val (.long tt), .second, .val (.long (hi &&& (65535 : Int64))), .second, .unset, .unset, .unset, .unset]) rfl k)) ?_
  show Goes _ _ _ _ T21 (mkF m 63 #[.val (.long t), .second, .val (.long hi), .second, .val (.long lo), .second, .val (.ref b1), .val (.long tt), .second, .val (.long (hi &&& (65535 : Int64))), .second, .unset, .unset, .unset, .unset] [])
  obtain ⟨hh, hhh⟩ : ∃ z : Int64, z = (hi &&& (65535 : Int64)) := ⟨_, rfl⟩
  refine Goes.cast (show (mkF m 63 #[.val (.long t), .second, .val (.long hi), .second, .val (.long lo), .second, .val (.ref b1), .val (.long tt), .second, .val (.long (hi &&& (65535 : Int64))), .second, .unset, .unset, .unset, .unset] []) = (mkF m 63 #[.val (.long t), .second, .val (.long hi), .second, .val (.long lo), .second, .val (.ref b1), .val (.long tt), .second, .val (.long hh), .second, .unset, .unset, .unset, .unset] []) from by rw [hhh]) ?_
  show Goes _ _ _ _ T21 (mkF m 63 #[.val (.long t), .second, .val (.long hi), .second, .val (.long lo), .second, .val (.ref b1), .val (.long tt), .second, .val (.long hh), .second, .unset, .unset, .unset, .unset] [])
  refine Goes.go (fun _ k => XS.bipush X21.here X21.ex rfl (hb hby d_prog_16_method_4_63) (XS.istore X21.here X21.ex rfl (hb hby d_prog_16_method_4_65) rfl (l' := #[.val (.long t), .second, .val (.long hi), .second, .val (.long lo), .second, .val (.ref b1), .val (.long tt), .second, .val (.long hh), .second, .val (.int (10 : Int32)), .unset, .unset, .unset]) rfl (XS.iload X21.here X21.ex rfl (hb hby d_prog_16_method_4_67) rfl (XS.bipush X21.here X21.ex rfl (hb hby d_prog_16_method_4_69) (XS.icmpNo X21.here X21.ex rfl (hb hby d_prog_16_method_4_71) rfl (cd_f (cd := .ge) (x := (10 : Int32)) (y := (26 : Int32)) (by decide)) (XS.iconst X21.here X21.ex rfl (hb hby d_prog_16_method_4_74) k)))))) ?_
  show Goes _ _ _ _ T21 (mkF m 75 #[.val (.long t), .second, .val (.long hi), .second, .val (.long lo), .second, .val (.ref b1), .val (.long tt), .second, .val (.long hh), .second, .val (.int (10 : Int32)), .unset, .unset, .unset] [(.int (5 : Int32))])
  refine Goes.go (fun _ k => XS.bipush X21.here X21.ex rfl (hb hby d_prog_16_method_4_75) (XS.iload X21.here X21.ex rfl (hb hby d_prog_16_method_4_77) rfl (XS.isub X21.here X21.ex rfl (hb hby d_prog_16_method_4_79) rfl k))) ?_
  show Goes _ _ _ _ T21 (mkF m 80 #[.val (.long t), .second, .val (.long hi), .second, .val (.long lo), .second, .val (.ref b1), .val (.long tt), .second, .val (.long hh), .second, .val (.int (10 : Int32)), .unset, .unset, .unset] [(.int ((25 : Int32) - (10 : Int32))), (.int (5 : Int32))])
  refine Goes.cast (congrArg (fun zq_ => (mkF m 80 #[.val (.long t), .second, .val (.long hi), .second, .val (.long lo), .second, .val (.ref b1), .val (.long tt), .second, .val (.long hh), .second, .val (.int (10 : Int32)), .unset, .unset, .unset] [(.int zq_), (.int (5 : Int32))])) (show (((25 : Int32) - (10 : Int32)) : Int32) = (15 : Int32) from by decide)) ?_
  show Goes _ _ _ _ T21 (mkF m 80 #[.val (.long t), .second, .val (.long hi), .second, .val (.long lo), .second, .val (.ref b1), .val (.long tt), .second, .val (.long hh), .second, .val (.int (10 : Int32)), .unset, .unset, .unset] [(.int (15 : Int32)), (.int (5 : Int32))])
  refine Goes.go (fun _ k => XS.imul X21.here X21.ex rfl (hb hby d_prog_16_method_4_80) rfl k) ?_
  show Goes _ _ _ _ T21 (mkF m 81 #[.val (.long t), .second, .val (.long hi), .second, .val (.long lo), .second, .val (.ref b1), .val (.long tt), .second, .val (.long hh), .second, .val (.int (10 : Int32)), .unset, .unset, .unset] [(.int ((5 : Int32) * (15 : Int32)))])
  refine Goes.cast (congrArg (fun zq_ => (mkF m 81 #[.val (.long t), .second, .val (.long hi), .second, .val (.long lo), .second, .val (.ref b1), .val (.long tt), .second, .val (.long hh), .second, .val (.int (10 : Int32)), .unset, .unset, .unset] [(.int zq_)])) (show (((5 : Int32) * (15 : Int32)) : Int32) = (75 : Int32) from by decide)) ?_
  show Goes _ _ _ _ T21 (mkF m 81 #[.val (.long t), .second, .val (.long hi), .second, .val (.long lo), .second, .val (.ref b1), .val (.long tt), .second, .val (.long hh), .second, .val (.int (10 : Int32)), .unset, .unset, .unset] [(.int (75 : Int32))])
  refine Goes.go (fun _ k => XS.istore X21.here X21.ex rfl (hb hby d_prog_16_method_4_81) rfl (l' := #[.val (.long t), .second, .val (.long hi), .second, .val (.long lo), .second, .val (.ref b1), .val (.long tt), .second, .val (.long hh), .second, .val (.int (10 : Int32)), .val (.int (75 : Int32)), .unset, .unset]) rfl (XS.iload X21.here X21.ex rfl (hb hby d_prog_16_method_4_83) rfl (XS.bipush X21.here X21.ex rfl (hb hby d_prog_16_method_4_85) (XS.icmpNo X21.here X21.ex rfl (hb hby d_prog_16_method_4_87) rfl (cd_f (cd := .lt) (x := (75 : Int32)) (y := (64 : Int32)) (by decide)) (XS.lload X21.here X21.ex rfl (hb hby d_prog_16_method_4_90) rfl (XS.iload X21.here X21.ex rfl (hb hby d_prog_16_method_4_92) rfl k)))))) ?_
  show Goes _ _ _ _ T21 (mkF m 94 #[.val (.long t), .second, .val (.long hi), .second, .val (.long lo), .second, .val (.ref b1), .val (.long tt), .second, .val (.long hh), .second, .val (.int (10 : Int32)), .val (.int (75 : Int32)), .unset, .unset] [(.int (75 : Int32)), (.long hh)])
  refine Goes.go (fun _ k => XS.bipush X21.here X21.ex rfl (hb hby d_prog_16_method_4_94) (XS.isub X21.here X21.ex rfl (hb hby d_prog_16_method_4_96) rfl k)) ?_
  show Goes _ _ _ _ T21 (mkF m 97 #[.val (.long t), .second, .val (.long hi), .second, .val (.long lo), .second, .val (.ref b1), .val (.long tt), .second, .val (.long hh), .second, .val (.int (10 : Int32)), .val (.int (75 : Int32)), .unset, .unset] [(.int ((75 : Int32) - (64 : Int32))), (.long hh)])
  refine Goes.cast (congrArg (fun zq_ => (mkF m 97 #[.val (.long t), .second, .val (.long hi), .second, .val (.long lo), .second, .val (.ref b1), .val (.long tt), .second, .val (.long hh), .second, .val (.int (10 : Int32)), .val (.int (75 : Int32)), .unset, .unset] [(.int zq_), (.long hh)])) (show (((75 : Int32) - (64 : Int32)) : Int32) = (11 : Int32) from by decide)) ?_
  show Goes _ _ _ _ T21 (mkF m 97 #[.val (.long t), .second, .val (.long hi), .second, .val (.long lo), .second, .val (.ref b1), .val (.long tt), .second, .val (.long hh), .second, .val (.int (10 : Int32)), .val (.int (75 : Int32)), .unset, .unset] [(.int (11 : Int32)), (.long hh)])
  refine Goes.go (fun _ k => XS.lushr X21.here X21.ex rfl (hb hby d_prog_16_method_4_97) rfl (XS.lstore X21.here X21.ex rfl (hb hby d_prog_16_method_4_98) rfl (l' := #[.val (.long t), .second, .val (.long hi), .second, .val (.long lo), .second, .val (.ref b1), .val (.long tt), .second, .val (.long hh), .second, .val (.int (10 : Int32)), .val (.int (75 : Int32)), .val (.long ((hh.toUInt64 >>> ((11 : Int32) &&& 0x3f).toInt64.toUInt64).toInt64)), .second]) rfl (XS.goto X21.here X21.ex rfl (pc0 := 100) (pc' := 136) rfl (hb hby d_prog_16_method_4_100) (by decide) (by decide) (XS.aload X21.here X21.ex rfl (hb hby d_prog_16_method_4_136) rfl rfl (XS.iload X21.here X21.ex rfl (hb hby d_prog_16_method_4_138) rfl k))))) ?_
  show Goes _ _ _ _ T21 (mkF m 140 #[.val (.long t), .second, .val (.long hi), .second, .val (.long lo), .second, .val (.ref b1), .val (.long tt), .second, .val (.long hh), .second, .val (.int (10 : Int32)), .val (.int (75 : Int32)), .val (.long ((hh.toUInt64 >>> ((11 : Int32) &&& 0x3f).toInt64.toUInt64).toInt64)), .second] [(.int (10 : Int32)), (.ref b1)])
  refine Wk.getS X21 (host := "") (Or.inl (w_6 hw)) Via.refl OA rfl (hb hby d_prog_16_method_4_140) ?_
  intro T22 X22
  show Goes _ _ _ _ T22 (mkF m 143 #[.val (.long t), .second, .val (.long hi), .second, .val (.long lo), .second, .val (.ref b1), .val (.long tt), .second, .val (.long hh), .second, .val (.int (10 : Int32)), .val (.int (75 : Int32)), .val (.long ((hh.toUInt64 >>> ((11 : Int32) &&& 0x3f).toInt64.toUInt64).toInt64)), .second] [(.ref al), (.int (10 : Int32)), (.ref b1)])
  refine Goes.go (fun _ k => XS.lload X22.here X22.ex rfl (hb hby d_prog_16_method_4_143) rfl (XS.l2i X22.here X22.ex rfl (hb hby d_prog_16_method_4_145) rfl (XS.bipush X22.here X22.ex rfl (hb hby d_prog_16_method_4_146) (XS.iand X22.here X22.ex rfl (hb hby d_prog_16_method_4_148) rfl k)))) ?_
  show Goes _ _ _ _ T22 (mkF m 149 #[.val (.long t), .second, .val (.long hi), .second, .val (.long lo), .second, .val (.ref b1), .val (.long tt), .second, .val (.long hh), .second, .val (.int (10 : Int32)), .val (.int (75 : Int32)), .val (.long ((hh.toUInt64 >>> ((11 : Int32) &&& 0x3f).toInt64.toUInt64).toInt64)), .second] [(.int ((((hh.toUInt64 >>> ((11 : Int32) &&& 0x3f).toInt64.toUInt64).toInt64).toInt32) &&& (31 : Int32))), (.ref al), (.int (10 : Int32)), (.ref b1)])
  obtain ⟨y10, hy10⟩ : ∃ z : Int32, z = (((hh.toUInt64 >>> ((11 : Int32) &&& 0x3f).toInt64.toUInt64).toInt64).toInt32) := ⟨_, rfl⟩
  refine Goes.cast (show (mkF m 149 #[.val (.long t), .second, .val (.long hi), .second, .val (.long lo), .second, .val (.ref b1), .val (.long tt), .second, .val (.long hh), .second, .val (.int (10 : Int32)), .val (.int (75 : Int32)), .val (.long ((hh.toUInt64 >>> ((11 : Int32) &&& 0x3f).toInt64.toUInt64).toInt64)), .second] [(.int ((((hh.toUInt64 >>> ((11 : Int32) &&& 0x3f).toInt64.toUInt64).toInt64).toInt32) &&& (31 : Int32))), (.ref al), (.int (10 : Int32)), (.ref b1)]) = (mkF m 149 #[.val (.long t), .second, .val (.long hi), .second, .val (.long lo), .second, .val (.ref b1), .val (.long tt), .second, .val (.long hh), .second, .val (.int (10 : Int32)), .val (.int (75 : Int32)), .val (.long ((hh.toUInt64 >>> ((11 : Int32) &&& 0x3f).toInt64.toUInt64).toInt64)), .second] [(.int (y10 &&& (31 : Int32))), (.ref al), (.int (10 : Int32)), (.ref b1)]) from by rw [hy10]) ?_
  show Goes _ _ _ _ T22 (mkF m 149 #[.val (.long t), .second, .val (.long hi), .second, .val (.long lo), .second, .val (.ref b1), .val (.long tt), .second, .val (.long hh), .second, .val (.int (10 : Int32)), .val (.int (75 : Int32)), .val (.long ((hh.toUInt64 >>> ((11 : Int32) &&& 0x3f).toInt64.toUInt64).toInt64)), .second] [(.int (y10 &&& (31 : Int32))), (.ref al), (.int (10 : Int32)), (.ref b1)])
  refine Goes.go (X22.caload (VA.ext X22.old) (own_b31 y10) (own_symv y10) rfl rfl (hb hby d_prog_16_method_4_149)) ?_
  show Goes _ _ _ _ T22 (mkF m 150 #[.val (.long t), .second, .val (.long hi), .second, .val (.long lo), .second, .val (.ref b1), .val (.long tt), .second, .val (.long hh), .second, .val (.int (10 : Int32)), .val (.int (75 : Int32)), .val (.long ((hh.toUInt64 >>> ((11 : Int32) &&& 0x3f).toInt64.toUInt64).toInt64)), .second] [(.int (own_sym y10)), (.int (10 : Int32)), (.ref b1)])
  refine Wk.castore (hm' := fun _ => h0) X22 V_b1 ⟨by decide, by decide⟩ (i := 10) rfl (Nat.le_of_ble_eq_true rfl) gz_b1 (fun _ => Mark.stay (allS gm_b1 all0)) rfl rfl (hb hby d_prog_16_method_4_150) ?_
  intro T23 h23 X23 W23 V23
  clear V_b1; have V_b1 : Arv Z h23 b1 _ .char (26 : Int32) [(.int (nar .char (own_sym y0))), (.int (nar .char (own_sym y1))), (.int (nar .char (own_sym y2))), (.int (nar .char (own_sym y3))), (.int (nar .char (own_sym y4))), (.int (nar .char (own_sym y5))), (.int (nar .char (own_sym y6))), (.int (nar .char (own_sym y7))), (.int (nar .char (own_sym y8))), (.int (nar .char (own_sym y9))), (.int (nar .char (own_sym y10))), (.int (0 : Int32)), (.int (0 : Int32)), (.int (0 : Int32)), (.int (0 : Int32)), (.int (0 : Int32)), (.int (0 : Int32)), (.int (0 : Int32)), (.int (0 : Int32)), (.int (0 : Int32)), (.int (0 : Int32)), (.int (0 : Int32)), (.int (0 : Int32)), (.int (0 : Int32)), (.int (0 : Int32)), (.int (0 : Int32))] (.int (0 : Int32)) := V23
  show Goes _ _ _ _ T23 (mkF m 151 #[.val (.long t), .second, .val (.long hi), .second, .val (.long lo), .second, .val (.ref b1), .val (.long tt), .second, .val (.long hh), .second, .val (.int (10 : Int32)), .val (.int (75 : Int32)), .val (.long ((hh.toUInt64 >>> ((11 : Int32) &&& 0x3f).toInt64.toUInt64).toInt64)), .second] [])
  refine Goes.go (fun _ k => XS.iinc X23.here X23.ex rfl (hb hby d_prog_16_method_4_151) rfl (l' := #[.val (.long t), .second, .val (.long hi), .second, .val (.long lo), .second, .val (.ref b1), .val (.long tt), .second, .val (.long hh), .second, .val (.int ((10 : Int32) + (1 : Int32))), .val (.int (75 : Int32)), .val (.long ((hh.toUInt64 >>> ((11 : Int32) &&& 0x3f).toInt64.toUInt64).toInt64)), .second]) rfl k) ?_
  show Goes _ _ _ _ T23 (mkF m 154 #[.val (.long t), .second, .val (.long hi), .second, .val (.long lo), .second, .val (.ref b1), .val (.long tt), .second, .val (.long hh), .second, .val (.int ((10 : Int32) + (1 : Int32))), .val (.int (75 : Int32)), .val (.long ((hh.toUInt64 >>> ((11 : Int32) &&& 0x3f).toInt64.toUInt64).toInt64)), .second] [])
  refine Goes.cast (congrArg (fun zq_ => (mkF m 154 #[.val (.long t), .second, .val (.long hi), .second, .val (.long lo), .second, .val (.ref b1), .val (.long tt), .second, .val (.long hh), .second, .val (.int zq_), .val (.int (75 : Int32)), .val (.long ((hh.toUInt64 >>> ((11 : Int32) &&& 0x3f).toInt64.toUInt64).toInt64)), .second] [])) (show (((10 : Int32) + (1 : Int32)) : Int32) = (11 : Int32) from by decide)) ?_
  show Goes _ _ _ _ T23 (mkF m 154 #[.val (.long t), .second, .val (.long hi), .second, .val (.long lo), .second, .val (.ref b1), .val (.long tt), .second, .val (.long hh), .second, .val (.int (11 : Int32)), .val (.int (75 : Int32)), .val (.long ((hh.toUInt64 >>> ((11 : Int32) &&& 0x3f).toInt64.toUInt64).toInt64)), .second] [])
  refine Goes.go (fun _ k => XS.goto X23.here X23.ex rfl (pc0 := 154) (pc' := 67) rfl (hb hby d_prog_16_method_4_154) (by decide) (by decide) (XS.iload X23.here X23.ex rfl (hb hby d_prog_16_method_4_67) rfl (XS.bipush X23.here X23.ex rfl (hb hby d_prog_16_method_4_69) (XS.icmpNo X23.here X23.ex rfl (hb hby d_prog_16_method_4_71) rfl (cd_f (cd := .ge) (x := (11 : Int32)) (y := (26 : Int32)) (by decide)) (XS.iconst X23.here X23.ex rfl (hb hby d_prog_16_method_4_74) (XS.bipush X23.here X23.ex rfl (hb hby d_prog_16_method_4_75) k)))))) ?_
  show Goes _ _ _ _ T23 (mkF m 77 #[.val (.long t), .second, .val (.long hi), .second, .val (.long lo), .second, .val (.ref b1), .val (.long tt), .second, .val (.long hh), .second, .val (.int (11 : Int32)), .val (.int (75 : Int32)), .val (.long ((hh.toUInt64 >>> ((11 : Int32) &&& 0x3f).toInt64.toUInt64).toInt64)), .second] [(.int (25 : Int32)), (.int (5 : Int32))])
  refine Goes.go (fun _ k => XS.iload X23.here X23.ex rfl (hb hby d_prog_16_method_4_77) rfl (XS.isub X23.here X23.ex rfl (hb hby d_prog_16_method_4_79) rfl k)) ?_
  show Goes _ _ _ _ T23 (mkF m 80 #[.val (.long t), .second, .val (.long hi), .second, .val (.long lo), .second, .val (.ref b1), .val (.long tt), .second, .val (.long hh), .second, .val (.int (11 : Int32)), .val (.int (75 : Int32)), .val (.long ((hh.toUInt64 >>> ((11 : Int32) &&& 0x3f).toInt64.toUInt64).toInt64)), .second] [(.int ((25 : Int32) - (11 : Int32))), (.int (5 : Int32))])
  refine Goes.cast (congrArg (fun zq_ => (mkF m 80 #[.val (.long t), .second, .val (.long hi), .second, .val (.long lo), .second, .val (.ref b1), .val (.long tt), .second, .val (.long hh), .second, .val (.int (11 : Int32)), .val (.int (75 : Int32)), .val (.long ((hh.toUInt64 >>> ((11 : Int32) &&& 0x3f).toInt64.toUInt64).toInt64)), .second] [(.int zq_), (.int (5 : Int32))])) (show (((25 : Int32) - (11 : Int32)) : Int32) = (14 : Int32) from by decide)) ?_
  show Goes _ _ _ _ T23 (mkF m 80 #[.val (.long t), .second, .val (.long hi), .second, .val (.long lo), .second, .val (.ref b1), .val (.long tt), .second, .val (.long hh), .second, .val (.int (11 : Int32)), .val (.int (75 : Int32)), .val (.long ((hh.toUInt64 >>> ((11 : Int32) &&& 0x3f).toInt64.toUInt64).toInt64)), .second] [(.int (14 : Int32)), (.int (5 : Int32))])
  refine Goes.go (fun _ k => XS.imul X23.here X23.ex rfl (hb hby d_prog_16_method_4_80) rfl k) ?_
  show Goes _ _ _ _ T23 (mkF m 81 #[.val (.long t), .second, .val (.long hi), .second, .val (.long lo), .second, .val (.ref b1), .val (.long tt), .second, .val (.long hh), .second, .val (.int (11 : Int32)), .val (.int (75 : Int32)), .val (.long ((hh.toUInt64 >>> ((11 : Int32) &&& 0x3f).toInt64.toUInt64).toInt64)), .second] [(.int ((5 : Int32) * (14 : Int32)))])
  refine Goes.cast (congrArg (fun zq_ => (mkF m 81 #[.val (.long t), .second, .val (.long hi), .second, .val (.long lo), .second, .val (.ref b1), .val (.long tt), .second, .val (.long hh), .second, .val (.int (11 : Int32)), .val (.int (75 : Int32)), .val (.long ((hh.toUInt64 >>> ((11 : Int32) &&& 0x3f).toInt64.toUInt64).toInt64)), .second] [(.int zq_)])) (show (((5 : Int32) * (14 : Int32)) : Int32) = (70 : Int32) from by decide)) ?_
  show Goes _ _ _ _ T23 (mkF m 81 #[.val (.long t), .second, .val (.long hi), .second, .val (.long lo), .second, .val (.ref b1), .val (.long tt), .second, .val (.long hh), .second, .val (.int (11 : Int32)), .val (.int (75 : Int32)), .val (.long ((hh.toUInt64 >>> ((11 : Int32) &&& 0x3f).toInt64.toUInt64).toInt64)), .second] [(.int (70 : Int32))])
  refine Goes.go (fun _ k => XS.istore X23.here X23.ex rfl (hb hby d_prog_16_method_4_81) rfl (l' := #[.val (.long t), .second, .val (.long hi), .second, .val (.long lo), .second, .val (.ref b1), .val (.long tt), .second, .val (.long hh), .second, .val (.int (11 : Int32)), .val (.int (70 : Int32)), .val (.long ((hh.toUInt64 >>> ((11 : Int32) &&& 0x3f).toInt64.toUInt64).toInt64)), .second]) rfl (XS.iload X23.here X23.ex rfl (hb hby d_prog_16_method_4_83) rfl (XS.bipush X23.here X23.ex rfl (hb hby d_prog_16_method_4_85) (XS.icmpNo X23.here X23.ex rfl (hb hby d_prog_16_method_4_87) rfl (cd_f (cd := .lt) (x := (70 : Int32)) (y := (64 : Int32)) (by decide)) (XS.lload X23.here X23.ex rfl (hb hby d_prog_16_method_4_90) rfl (XS.iload X23.here X23.ex rfl (hb hby d_prog_16_method_4_92) rfl k)))))) ?_
  show Goes _ _ _ _ T23 (mkF m 94 #[.val (.long t), .second, .val (.long hi), .second, .val (.long lo), .second, .val (.ref b1), .val (.long tt), .second, .val (.long hh), .second, .val (.int (11 : Int32)), .val (.int (70 : Int32)), .val (.long ((hh.toUInt64 >>> ((11 : Int32) &&& 0x3f).toInt64.toUInt64).toInt64)), .second] [(.int (70 : Int32)), (.long hh)])
  refine Goes.go (fun _ k => XS.bipush X23.here X23.ex rfl (hb hby d_prog_16_method_4_94) (XS.isub X23.here X23.ex rfl (hb hby d_prog_16_method_4_96) rfl k)) ?_
  show Goes _ _ _ _ T23 (mkF m 97 #[.val (.long t), .second, .val (.long hi), .second, .val (.long lo), .second, .val (.ref b1), .val (.long tt), .second, .val (.long hh), .second, .val (.int (11 : Int32)), .val (.int (70 : Int32)), .val (.long ((hh.toUInt64 >>> ((11 : Int32) &&& 0x3f).toInt64.toUInt64).toInt64)), .second] [(.int ((70 : Int32) - (64 : Int32))), (.long hh)])
  refine Goes.cast (congrArg (fun zq_ => (mkF m 97 #[.val (.long t), .second, .val (.long hi), .second, .val (.long lo), .second, .val (.ref b1), .val (.long tt), .second, .val (.long hh), .second, .val (.int (11 : Int32)), .val (.int (70 : Int32)), .val (.long ((hh.toUInt64 >>> ((11 : Int32) &&& 0x3f).toInt64.toUInt64).toInt64)), .second] [(.int zq_), (.long hh)])) (show (((70 : Int32) - (64 : Int32)) : Int32) = (6 : Int32) from by decide)) ?_
  show Goes _ _ _ _ T23 (mkF m 97 #[.val (.long t), .second, .val (.long hi), .second, .val (.long lo), .second, .val (.ref b1), .val (.long tt), .second, .val (.long hh), .second, .val (.int (11 : Int32)), .val (.int (70 : Int32)), .val (.long ((hh.toUInt64 >>> ((11 : Int32) &&& 0x3f).toInt64.toUInt64).toInt64)), .second] [(.int (6 : Int32)), (.long hh)])
  refine Goes.go (fun _ k => XS.lushr X23.here X23.ex rfl (hb hby d_prog_16_method_4_97) rfl (XS.lstore X23.here X23.ex rfl (hb hby d_prog_16_method_4_98) rfl (l' := #[.val (.long t), .second, .val (.long hi), .second, .val (.long lo), .second, .val (.ref b1), .val (.long tt), .second, .val (.long hh), .second, .val (.int (11 : Int32)), .val (.int (70 : Int32)), .val (.long ((hh.toUInt64 >>> ((6 : Int32) &&& 0x3f).toInt64.toUInt64).toInt64)), .second]) rfl (XS.goto X23.here X23.ex rfl (pc0 := 100) (pc' := 136) rfl (hb hby d_prog_16_method_4_100) (by decide) (by decide) (XS.aload X23.here X23.ex rfl (hb hby d_prog_16_method_4_136) rfl rfl (XS.iload X23.here X23.ex rfl (hb hby d_prog_16_method_4_138) rfl k))))) ?_
  show Goes _ _ _ _ T23 (mkF m 140 #[.val (.long t), .second, .val (.long hi), .second, .val (.long lo), .second, .val (.ref b1), .val (.long tt), .second, .val (.long hh), .second, .val (.int (11 : Int32)), .val (.int (70 : Int32)), .val (.long ((hh.toUInt64 >>> ((6 : Int32) &&& 0x3f).toInt64.toUInt64).toInt64)), .second] [(.int (11 : Int32)), (.ref b1)])
  refine Wk.getS X23 (host := "") (Or.inl (w_6 hw)) Via.refl OA rfl (hb hby d_prog_16_method_4_140) ?_
  intro T24 X24
  show Goes _ _ _ _ T24 (mkF m 143 #[.val (.long t), .second, .val (.long hi), .second, .val (.long lo), .second, .val (.ref b1), .val (.long tt), .second, .val (.long hh), .second, .val (.int (11 : Int32)), .val (.int (70 : Int32)), .val (.long ((hh.toUInt64 >>> ((6 : Int32) &&& 0x3f).toInt64.toUInt64).toInt64)), .second] [(.ref al), (.int (11 : Int32)), (.ref b1)])
  refine Goes.go (fun _ k => XS.lload X24.here X24.ex rfl (hb hby d_prog_16_method_4_143) rfl (XS.l2i X24.here X24.ex rfl (hb hby d_prog_16_method_4_145) rfl (XS.bipush X24.here X24.ex rfl (hb hby d_prog_16_method_4_146) (XS.iand X24.here X24.ex rfl (hb hby d_prog_16_method_4_148) rfl k)))) ?_
  show Goes _ _ _ _ T24 (mkF m 149 #[.val (.long t), .second, .val (.long hi), .second, .val (.long lo), .second, .val (.ref b1), .val (.long tt), .second, .val (.long hh), .second, .val (.int (11 : Int32)), .val (.int (70 : Int32)), .val (.long ((hh.toUInt64 >>> ((6 : Int32) &&& 0x3f).toInt64.toUInt64).toInt64)), .second] [(.int ((((hh.toUInt64 >>> ((6 : Int32) &&& 0x3f).toInt64.toUInt64).toInt64).toInt32) &&& (31 : Int32))), (.ref al), (.int (11 : Int32)), (.ref b1)])
  obtain ⟨y11, hy11⟩ : ∃ z : Int32, z = (((hh.toUInt64 >>> ((6 : Int32) &&& 0x3f).toInt64.toUInt64).toInt64).toInt32) := ⟨_, rfl⟩
  refine Goes.cast (show (mkF m 149 #[.val (.long t), .second, .val (.long hi), .second, .val (.long lo), .second, .val (.ref b1), .val (.long tt), .second, .val (.long hh), .second, .val (.int (11 : Int32)), .val (.int (70 : Int32)), .val (.long ((hh.toUInt64 >>> ((6 : Int32) &&& 0x3f).toInt64.toUInt64).toInt64)), .second] [(.int ((((hh.toUInt64 >>> ((6 : Int32) &&& 0x3f).toInt64.toUInt64).toInt64).toInt32) &&& (31 : Int32))), (.ref al), (.int (11 : Int32)), (.ref b1)]) = (mkF m 149 #[.val (.long t), .second, .val (.long hi), .second, .val (.long lo), .second, .val (.ref b1), .val (.long tt), .second, .val (.long hh), .second, .val (.int (11 : Int32)), .val (.int (70 : Int32)), .val (.long ((hh.toUInt64 >>> ((6 : Int32) &&& 0x3f).toInt64.toUInt64).toInt64)), .second] [(.int (y11 &&& (31 : Int32))), (.ref al), (.int (11 : Int32)), (.ref b1)]) from by rw [hy11]) ?_
  show Goes _ _ _ _ T24 (mkF m 149 #[.val (.long t), .second, .val (.long hi), .second, .val (.long lo), .second, .val (.ref b1), .val (.long tt), .second, .val (.long hh), .second, .val (.int (11 : Int32)), .val (.int (70 : Int32)), .val (.long ((hh.toUInt64 >>> ((6 : Int32) &&& 0x3f).toInt64.toUInt64).toInt64)), .second] [(.int (y11 &&& (31 : Int32))), (.ref al), (.int (11 : Int32)), (.ref b1)])
  refine Goes.go (X24.caload (VA.ext X24.old) (own_b31 y11) (own_symv y11) rfl rfl (hb hby d_prog_16_method_4_149)) ?_
  show Goes _ _ _ _ T24 (mkF m 150 #[.val (.long t), .second, .val (.long hi), .second, .val (.long lo), .second, .val (.ref b1), .val (.long tt), .second, .val (.long hh), .second, .val (.int (11 : Int32)), .val (.int (70 : Int32)), .val (.long ((hh.toUInt64 >>> ((6 : Int32) &&& 0x3f).toInt64.toUInt64).toInt64)), .second] [(.int (own_sym y11)), (.int (11 : Int32)), (.ref b1)])
  refine Wk.castore (hm' := fun _ => h0) X24 V_b1 ⟨by decide, by decide⟩ (i := 11) rfl (Nat.le_of_ble_eq_true rfl) gz_b1 (fun _ => Mark.stay (allS gm_b1 all0)) rfl rfl (hb hby d_prog_16_method_4_150) ?_
  intro T25 h25 X25 W25 V25
  clear V_b1; have V_b1 : Arv Z h25 b1 _ .char (26 : Int32) [(.int (nar .char (own_sym y0))), (.int (nar .char (own_sym y1))), (.int (nar .char (own_sym y2))), (.int (nar .char (own_sym y3))), (.int (nar .char (own_sym y4))), (.int (nar .char (own_sym y5))), (.int (nar .char (own_sym y6))), (.int (nar .char (own_sym y7))), (.int (nar .char (own_sym y8))), (.int (nar .char (own_sym y9))), (.int (nar .char (own_sym y10))), (.int (nar .char (own_sym y11))), (.int (0 : Int32)), (.int (0 : Int32)), (.int (0 : Int32)), (.int (0 : Int32)), (.int (0 : Int32)), (.int (0 : Int32)), (.int (0 : Int32)), (.int (0 : Int32)), (.int (0 : Int32)), (.int (0 : Int32)), (.int (0 : Int32)), (.int (0 : Int32)), (.int (0 : Int32)), (.int (0 : Int32))] (.int (0 : Int32)) := V25
  show Goes _ _ _ _ T25 (mkF m 151 #[.val (.long t), .second, .val (.long hi), .second, .val (.long lo), .second, .val (.ref b1), .val (.long tt), .second, .val (.long hh), .second, .val (.int (11 : Int32)), .val (.int (70 : Int32)), .val (.long ((hh.toUInt64 >>> ((6 : Int32) &&& 0x3f).toInt64.toUInt64).toInt64)), .second] [])
  refine Goes.go (fun _ k => XS.iinc X25.here X25.ex rfl (hb hby d_prog_16_method_4_151) rfl (l' := #[.val (.long t), .second, .val (.long hi), .second, .val (.long lo), .second, .val (.ref b1), .val (.long tt), .second, .val (.long hh), .second, .val (.int ((11 : Int32) + (1 : Int32))), .val (.int (70 : Int32)), .val (.long ((hh.toUInt64 >>> ((6 : Int32) &&& 0x3f).toInt64.toUInt64).toInt64)), .second]) rfl k) ?_
  show Goes _ _ _ _ T25 (mkF m 154 #[.val (.long t), .second, .val (.long hi), .second, .val (.long lo), .second, .val (.ref b1), .val (.long tt), .second, .val (.long hh), .second, .val (.int ((11 : Int32) + (1 : Int32))), .val (.int (70 : Int32)), .val (.long ((hh.toUInt64 >>> ((6 : Int32) &&& 0x3f).toInt64.toUInt64).toInt64)), .second] [])
  refine Goes.cast (congrArg (fun zq_ => (mkF m 154 #[.val (.long t), .second, .val (.long hi), .second, .val (.long lo), .second, .val (.ref b1), .val (.long tt), .second, .val (.long hh), .second, .val (.int zq_), .val (.int (70 : Int32)), .val (.long ((hh.toUInt64 >>> ((6 : Int32) &&& 0x3f).toInt64.toUInt64).toInt64)), .second] [])) (show (((11 : Int32) + (1 : Int32)) : Int32) = (12 : Int32) from by decide)) ?_
  show Goes _ _ _ _ T25 (mkF m 154 #[.val (.long t), .second, .val (.long hi), .second, .val (.long lo), .second, .val (.ref b1), .val (.long tt), .second, .val (.long hh), .second, .val (.int (12 : Int32)), .val (.int (70 : Int32)), .val (.long ((hh.toUInt64 >>> ((6 : Int32) &&& 0x3f).toInt64.toUInt64).toInt64)), .second] [])
  refine Goes.go (fun _ k => XS.goto X25.here X25.ex rfl (pc0 := 154) (pc' := 67) rfl (hb hby d_prog_16_method_4_154) (by decide) (by decide) (XS.iload X25.here X25.ex rfl (hb hby d_prog_16_method_4_67) rfl (XS.bipush X25.here X25.ex rfl (hb hby d_prog_16_method_4_69) (XS.icmpNo X25.here X25.ex rfl (hb hby d_prog_16_method_4_71) rfl (cd_f (cd := .ge) (x := (12 : Int32)) (y := (26 : Int32)) (by decide)) (XS.iconst X25.here X25.ex rfl (hb hby d_prog_16_method_4_74) (XS.bipush X25.here X25.ex rfl (hb hby d_prog_16_method_4_75) k)))))) ?_
  show Goes _ _ _ _ T25 (mkF m 77 #[.val (.long t), .second, .val (.long hi), .second, .val (.long lo), .second, .val (.ref b1), .val (.long tt), .second, .val (.long hh), .second, .val (.int (12 : Int32)), .val (.int (70 : Int32)), .val (.long ((hh.toUInt64 >>> ((6 : Int32) &&& 0x3f).toInt64.toUInt64).toInt64)), .second] [(.int (25 : Int32)), (.int (5 : Int32))])
  refine Goes.go (fun _ k => XS.iload X25.here X25.ex rfl (hb hby d_prog_16_method_4_77) rfl (XS.isub X25.here X25.ex rfl (hb hby d_prog_16_method_4_79) rfl k)) ?_
  show Goes _ _ _ _ T25 (mkF m 80 #[.val (.long t), .second, .val (.long hi), .second, .val (.long lo), .second, .val (.ref b1), .val (.long tt), .second, .val (.long hh), .second, .val (.int (12 : Int32)), .val (.int (70 : Int32)), .val (.long ((hh.toUInt64 >>> ((6 : Int32) &&& 0x3f).toInt64.toUInt64).toInt64)), .second] [(.int ((25 : Int32) - (12 : Int32))), (.int (5 : Int32))])
  refine Goes.cast (congrArg (fun zq_ => (mkF m 80 #[.val (.long t), .second, .val (.long hi), .second, .val (.long lo), .second, .val (.ref b1), .val (.long tt), .second, .val (.long hh), .second, .val (.int (12 : Int32)), .val (.int (70 : Int32)), .val (.long ((hh.toUInt64 >>> ((6 : Int32) &&& 0x3f).toInt64.toUInt64).toInt64)), .second] [(.int zq_), (.int (5 : Int32))])) (show (((25 : Int32) - (12 : Int32)) : Int32) = (13 : Int32) from by decide)) ?_
  show Goes _ _ _ _ T25 (mkF m 80 #[.val (.long t), .second, .val (.long hi), .second, .val (.long lo), .second, .val (.ref b1), .val (.long tt), .second, .val (.long hh), .second, .val (.int (12 : Int32)), .val (.int (70 : Int32)), .val (.long ((hh.toUInt64 >>> ((6 : Int32) &&& 0x3f).toInt64.toUInt64).toInt64)), .second] [(.int (13 : Int32)), (.int (5 : Int32))])
  refine Goes.go (fun _ k => XS.imul X25.here X25.ex rfl (hb hby d_prog_16_method_4_80) rfl k) ?_
  show Goes _ _ _ _ T25 (mkF m 81 #[.val (.long t), .second, .val (.long hi), .second, .val (.long lo), .second, .val (.ref b1), .val (.long tt), .second, .val (.long hh), .second, .val (.int (12 : Int32)), .val (.int (70 : Int32)), .val (.long ((hh.toUInt64 >>> ((6 : Int32) &&& 0x3f).toInt64.toUInt64).toInt64)), .second] [(.int ((5 : Int32) * (13 : Int32)))])
  refine Goes.cast (congrArg (fun zq_ => (mkF m 81 #[.val (.long t), .second, .val (.long hi), .second, .val (.long lo), .second, .val (.ref b1), .val (.long tt), .second, .val (.long hh), .second, .val (.int (12 : Int32)), .val (.int (70 : Int32)), .val (.long ((hh.toUInt64 >>> ((6 : Int32) &&& 0x3f).toInt64.toUInt64).toInt64)), .second] [(.int zq_)])) (show (((5 : Int32) * (13 : Int32)) : Int32) = (65 : Int32) from by decide)) ?_
  show Goes _ _ _ _ T25 (mkF m 81 #[.val (.long t), .second, .val (.long hi), .second, .val (.long lo), .second, .val (.ref b1), .val (.long tt), .second, .val (.long hh), .second, .val (.int (12 : Int32)), .val (.int (70 : Int32)), .val (.long ((hh.toUInt64 >>> ((6 : Int32) &&& 0x3f).toInt64.toUInt64).toInt64)), .second] [(.int (65 : Int32))])
  refine Goes.go (fun _ k => XS.istore X25.here X25.ex rfl (hb hby d_prog_16_method_4_81) rfl (l' := #[.val (.long t), .second, .val (.long hi), .second, .val (.long lo), .second, .val (.ref b1), .val (.long tt), .second, .val (.long hh), .second, .val (.int (12 : Int32)), .val (.int (65 : Int32)), .val (.long ((hh.toUInt64 >>> ((6 : Int32) &&& 0x3f).toInt64.toUInt64).toInt64)), .second]) rfl (XS.iload X25.here X25.ex rfl (hb hby d_prog_16_method_4_83) rfl (XS.bipush X25.here X25.ex rfl (hb hby d_prog_16_method_4_85) (XS.icmpNo X25.here X25.ex rfl (hb hby d_prog_16_method_4_87) rfl (cd_f (cd := .lt) (x := (65 : Int32)) (y := (64 : Int32)) (by decide)) (XS.lload X25.here X25.ex rfl (hb hby d_prog_16_method_4_90) rfl (XS.iload X25.here X25.ex rfl (hb hby d_prog_16_method_4_92) rfl k)))))) ?_
  show Goes _ _ _ _ T25 (mkF m 94 #[.val (.long t), .second, .val (.long hi), .second, .val (.long lo), .second, .val (.ref b1), .val (.long tt), .second, .val (.long hh), .second, .val (.int (12 : Int32)), .val (.int (65 : Int32)), .val (.long ((hh.toUInt64 >>> ((6 : Int32) &&& 0x3f).toInt64.toUInt64).toInt64)), .second] [(.int (65 : Int32)), (.long hh)])
  refine Goes.go (fun _ k => XS.bipush X25.here X25.ex rfl (hb hby d_prog_16_method_4_94) (XS.isub X25.here X25.ex rfl (hb hby d_prog_16_method_4_96) rfl k)) ?_
  show Goes _ _ _ _ T25 (mkF m 97 #[.val (.long t), .second, .val (.long hi), .second, .val (.long lo), .second, .val (.ref b1), .val (.long tt), .second, .val (.long hh), .second, .val (.int (12 : Int32)), .val (.int (65 : Int32)), .val (.long ((hh.toUInt64 >>> ((6 : Int32) &&& 0x3f).toInt64.toUInt64).toInt64)), .second] [(.int ((65 : Int32) - (64 : Int32))), (.long hh)])
  refine Goes.cast (congrArg (fun zq_ => (mkF m 97 #[.val (.long t), .second, .val (.long hi), .second, .val (.long lo), .second, .val (.ref b1), .val (.long tt), .second, .val (.long hh), .second, .val (.int (12 : Int32)), .val (.int (65 : Int32)), .val (.long ((hh.toUInt64 >>> ((6 : Int32) &&& 0x3f).toInt64.toUInt64).toInt64)), .second] [(.int zq_), (.long hh)])) (show (((65 : Int32) - (64 : Int32)) : Int32) = (1 : Int32) from by decide)) ?_
  show Goes _ _ _ _ T25 (mkF m 97 #[.val (.long t), .second, .val (.long hi), .second, .val (.long lo), .second, .val (.ref b1), .val (.long tt), .second, .val (.long hh), .second, .val (.int (12 : Int32)), .val (.int (65 : Int32)), .val (.long ((hh.toUInt64 >>> ((6 : Int32) &&& 0x3f).toInt64.toUInt64).toInt64)), .second] [(.int (1 : Int32)), (.long hh)])
  refine Goes.go (fun _ k => XS.lushr X25.here X25.ex rfl (hb hby d_prog_16_method_4_97) rfl (XS.lstore X25.here X25.ex rfl (hb hby d_prog_16_method_4_98) rfl (l' := #[.val (.long t), .second, .val (.long hi), .second, .val (.long lo), .second, .val (.ref b1), .val (.long tt), .second, .val (.long hh), .second, .val (.int (12 : Int32)), .val (.int (65 : Int32)), .val (.long ((hh.toUInt64 >>> ((1 : Int32) &&& 0x3f).toInt64.toUInt64).toInt64)), .second]) rfl (XS.goto X25.here X25.ex rfl (pc0 := 100) (pc' := 136) rfl (hb hby d_prog_16_method_4_100) (by decide) (by decide) (XS.aload X25.here X25.ex rfl (hb hby d_prog_16_method_4_136) rfl rfl (XS.iload X25.here X25.ex rfl (hb hby d_prog_16_method_4_138) rfl k))))) ?_
  show Goes _ _ _ _ T25 (mkF m 140 #[.val (.long t), .second, .val (.long hi), .second, .val (.long lo), .second, .val (.ref b1), .val (.long tt), .second, .val (.long hh), .second, .val (.int (12 : Int32)), .val (.int (65 : Int32)), .val (.long ((hh.toUInt64 >>> ((1 : Int32) &&& 0x3f).toInt64.toUInt64).toInt64)), .second] [(.int (12 : Int32)), (.ref b1)])
  refine Wk.getS X25 (host := "") (Or.inl (w_6 hw)) Via.refl OA rfl (hb hby d_prog_16_method_4_140) ?_
  intro T26 X26
  show Goes _ _ _ _ T26 (mkF m 143 #[.val (.long t), .second, .val (.long hi), .second, .val (.long lo), .second, .val (.ref b1), .val (.long tt), .second, .val (.long hh), .second, .val (.int (12 : Int32)), .val (.int (65 : Int32)), .val (.long ((hh.toUInt64 >>> ((1 : Int32) &&& 0x3f).toInt64.toUInt64).toInt64)), .second] [(.ref al), (.int (12 : Int32)), (.ref b1)])
  refine Goes.go (fun _ k => XS.lload X26.here X26.ex rfl (hb hby d_prog_16_method_4_143) rfl (XS.l2i X26.here X26.ex rfl (hb hby d_prog_16_method_4_145) rfl (XS.bipush X26.here X26.ex rfl (hb hby d_prog_16_method_4_146) (XS.iand X26.here X26.ex rfl (hb hby d_prog_16_method_4_148) rfl k)))) ?_
  show Goes _ _ _ _ T26 (mkF m 149 #[.val (.long t), .second, .val (.long hi), .second, .val (.long lo), .second, .val (.ref b1), .val (.long tt), .second, .val (.long hh), .second, .val (.int (12 : Int32)), .val (.int (65 : Int32)), .val (.long ((hh.toUInt64 >>> ((1 : Int32) &&& 0x3f).toInt64.toUInt64).toInt64)), .second] [(.int ((((hh.toUInt64 >>> ((1 : Int32) &&& 0x3f).toInt64.toUInt64).toInt64).toInt32) &&& (31 : Int32))), (.ref al), (.int (12 : Int32)), (.ref b1)])
  obtain ⟨y12, hy12⟩ : ∃ z : Int32, z = (((hh.toUInt64 >>> ((1 : Int32) &&& 0x3f).toInt64.toUInt64).toInt64).toInt32) := ⟨_, rfl⟩
  refine Goes.cast (show (mkF m 149 #[.val (.long t), .second, .val (.long hi), .second, .val (.long lo), .second, .val (.ref b1), .val (.long tt), .second, .val (.long hh), .second, .val (.int (12 : Int32)), .val (.int (65 : Int32)), .val (.long ((hh.toUInt64 >>> ((1 : Int32) &&& 0x3f).toInt64.toUInt64).toInt64)), .second] [(.int ((((hh.toUInt64 >>> ((1 : Int32) &&& 0x3f).toInt64.toUInt64).toInt64).toInt32) &&& (31 : Int32))), (.ref al), (.int (12 : Int32)), (.ref b1)]) = (mkF m 149 #[.val (.long t), .second, .val (.long hi), .second, .val (.long lo), .second, .val (.ref b1), .val (.long tt), .second, .val (.long hh), .second, .val (.int (12 : Int32)), .val (.int (65 : Int32)), .val (.long ((hh.toUInt64 >>> ((1 : Int32) &&& 0x3f).toInt64.toUInt64).toInt64)), .second] [(.int (y12 &&& (31 : Int32))), (.ref al), (.int (12 : Int32)), (.ref b1)]) from by rw [hy12]) ?_
  show Goes _ _ _ _ T26 (mkF m 149 #[.val (.long t), .second, .val (.long hi), .second, .val (.long lo), .second, .val (.ref b1), .val (.long tt), .second, .val (.long hh), .second, .val (.int (12 : Int32)), .val (.int (65 : Int32)), .val (.long ((hh.toUInt64 >>> ((1 : Int32) &&& 0x3f).toInt64.toUInt64).toInt64)), .second] [(.int (y12 &&& (31 : Int32))), (.ref al), (.int (12 : Int32)), (.ref b1)])
  refine Goes.go (X26.caload (VA.ext X26.old) (own_b31 y12) (own_symv y12) rfl rfl (hb hby d_prog_16_method_4_149)) ?_
  show Goes _ _ _ _ T26 (mkF m 150 #[.val (.long t), .second, .val (.long hi), .second, .val (.long lo), .second, .val (.ref b1), .val (.long tt), .second, .val (.long hh), .second, .val (.int (12 : Int32)), .val (.int (65 : Int32)), .val (.long ((hh.toUInt64 >>> ((1 : Int32) &&& 0x3f).toInt64.toUInt64).toInt64)), .second] [(.int (own_sym y12)), (.int (12 : Int32)), (.ref b1)])
  refine Wk.castore (hm' := fun _ => h0) X26 V_b1 ⟨by decide, by decide⟩ (i := 12) rfl (Nat.le_of_ble_eq_true rfl) gz_b1 (fun _ => Mark.stay (allS gm_b1 all0)) rfl rfl (hb hby d_prog_16_method_4_150) ?_
  intro T27 h27 X27 W27 V27
  clear V_b1; have V_b1 : Arv Z h27 b1 _ .char (26 : Int32) [(.int (nar .char (own_sym y0))), (.int (nar .char (own_sym y1))), (.int (nar .char (own_sym y2))), (.int (nar .char (own_sym y3))), (.int (nar .char (own_sym y4))), (.int (nar .char (own_sym y5))), (.int (nar .char (own_sym y6))), (.int (nar .char (own_sym y7))), (.int (nar .char (own_sym y8))), (.int (nar .char (own_sym y9))), (.int (nar .char (own_sym y10))), (.int (nar .char (own_sym y11))), (.int (nar .char (own_sym y12))), (.int (0 : Int32)), (.int (0 : Int32)), (.int (0 : Int32)), (.int (0 : Int32)), (.int (0 : Int32)), (.int (0 : Int32)), (.int (0 : Int32)), (.int (0 : Int32)), (.int (0 : Int32)), (.int (0 : Int32)), (.int (0 : Int32)), (.int (0 : Int32)), (.int (0 : Int32))] (.int (0 : Int32)) := V27
  show Goes _ _ _ _ T27 (mkF m 151 #[.val (.long t), .second, .val (.long hi), .second, .val (.long lo), .second, .val (.ref b1), .val (.long tt), .second, .val (.long hh), .second, .val (.int (12 : Int32)), .val (.int (65 : Int32)), .val (.long ((hh.toUInt64 >>> ((1 : Int32) &&& 0x3f).toInt64.toUInt64).toInt64)), .second] [])
  refine Goes.go (fun _ k => XS.iinc X27.here X27.ex rfl (hb hby d_prog_16_method_4_151) rfl (l' := #[.val (.long t), .second, .val (.long hi), .second, .val (.long lo), .second, .val (.ref b1), .val (.long tt), .second, .val (.long hh), .second, .val (.int ((12 : Int32) + (1 : Int32))), .val (.int (65 : Int32)), .val (.long ((hh.toUInt64 >>> ((1 : Int32) &&& 0x3f).toInt64.toUInt64).toInt64)), .second]) rfl k) ?_
  show Goes _ _ _ _ T27 (mkF m 154 #[.val (.long t), .second, .val (.long hi), .second, .val (.long lo), .second, .val (.ref b1), .val (.long tt), .second, .val (.long hh), .second, .val (.int ((12 : Int32) + (1 : Int32))), .val (.int (65 : Int32)), .val (.long ((hh.toUInt64 >>> ((1 : Int32) &&& 0x3f).toInt64.toUInt64).toInt64)), .second] [])
  refine Goes.cast (congrArg (fun zq_ => (mkF m 154 #[.val (.long t), .second, .val (.long hi), .second, .val (.long lo), .second, .val (.ref b1), .val (.long tt), .second, .val (.long hh), .second, .val (.int zq_), .val (.int (65 : Int32)), .val (.long ((hh.toUInt64 >>> ((1 : Int32) &&& 0x3f).toInt64.toUInt64).toInt64)), .second] [])) (show (((12 : Int32) + (1 : Int32)) : Int32) = (13 : Int32) from by decide)) ?_
  show Goes _ _ _ _ T27 (mkF m 154 #[.val (.long t), .second, .val (.long hi), .second, .val (.long lo), .second, .val (.ref b1), .val (.long tt), .second, .val (.long hh), .second, .val (.int (13 : Int32)), .val (.int (65 : Int32)), .val (.long ((hh.toUInt64 >>> ((1 : Int32) &&& 0x3f).toInt64.toUInt64).toInt64)), .second] [])
  refine Goes.go (fun _ k => XS.goto X27.here X27.ex rfl (pc0 := 154) (pc' := 67) rfl (hb hby d_prog_16_method_4_154) (by decide) (by decide) (XS.iload X27.here X27.ex rfl (hb hby d_prog_16_method_4_67) rfl (XS.bipush X27.here X27.ex rfl (hb hby d_prog_16_method_4_69) (XS.icmpNo X27.here X27.ex rfl (hb hby d_prog_16_method_4_71) rfl (cd_f (cd := .ge) (x := (13 : Int32)) (y := (26 : Int32)) (by decide)) (XS.iconst X27.here X27.ex rfl (hb hby d_prog_16_method_4_74) (XS.bipush X27.here X27.ex rfl (hb hby d_prog_16_method_4_75) k)))))) ?_
  show Goes _ _ _ _ T27 (mkF m 77 #[.val (.long t), .second, .val (.long hi), .second, .val (.long lo), .second, .val (.ref b1), .val (.long tt), .second, .val (.long hh), .second, .val (.int (13 : Int32)), .val (.int (65 : Int32)), .val (.long ((hh.toUInt64 >>> ((1 : Int32) &&& 0x3f).toInt64.toUInt64).toInt64)), .second] [(.int (25 : Int32)), (.int (5 : Int32))])
  refine Goes.go (fun _ k => XS.iload X27.here X27.ex rfl (hb hby d_prog_16_method_4_77) rfl (XS.isub X27.here X27.ex rfl (hb hby d_prog_16_method_4_79) rfl k)) ?_
  show Goes _ _ _ _ T27 (mkF m 80 #[.val (.long t), .second, .val (.long hi), .second, .val (.long lo), .second, .val (.ref b1), .val (.long tt), .second, .val (.long hh), .second, .val (.int (13 : Int32)), .val (.int (65 : Int32)), .val (.long ((hh.toUInt64 >>> ((1 : Int32) &&& 0x3f).toInt64.toUInt64).toInt64)), .second] [(.int ((25 : Int32) - (13 : Int32))), (.int (5 : Int32))])
  refine Goes.cast (congrArg (fun zq_ => (mkF m 80 #[.val (.long t), .second, .val (.long hi), .second, .val (.long lo), .second, .val (.ref b1), .val (.long tt), .second, .val (.long hh), .second, .val (.int (13 : Int32)), .val (.int (65 : Int32)), .val (.long ((hh.toUInt64 >>> ((1 : Int32) &&& 0x3f).toInt64.toUInt64).toInt64)), .second] [(.int zq_), (.int (5 : Int32))])) (show (((25 : Int32) - (13 : Int32)) : Int32) = (12 : Int32) from by decide)) ?_
  show Goes _ _ _ _ T27 (mkF m 80 #[.val (.long t), .second, .val (.long hi), .second, .val (.long lo), .second, .val (.ref b1), .val (.long tt), .second, .val (.long hh), .second, .val (.int (13 : Int32)), .val (.int (65 : Int32)), .val (.long ((hh.toUInt64 >>> ((1 : Int32) &&& 0x3f).toInt64.toUInt64).toInt64)), .second] [(.int (12 : Int32)), (.int (5 : Int32))])
  refine Goes.go (fun _ k => XS.imul X27.here X27.ex rfl (hb hby d_prog_16_method_4_80) rfl k) ?_
  show Goes _ _ _ _ T27 (mkF m 81 #[.val (.long t), .second, .val (.long hi), .second, .val (.long lo), .second, .val (.ref b1), .val (.long tt), .second, .val (.long hh), .second, .val (.int (13 : Int32)), .val (.int (65 : Int32)), .val (.long ((hh.toUInt64 >>> ((1 : Int32) &&& 0x3f).toInt64.toUInt64).toInt64)), .second] [(.int ((5 : Int32) * (12 : Int32)))])
  refine Goes.cast (congrArg (fun zq_ => (mkF m 81 #[.val (.long t), .second, .val (.long hi), .second, .val (.long lo), .second, .val (.ref b1), .val (.long tt), .second, .val (.long hh), .second, .val (.int (13 : Int32)), .val (.int (65 : Int32)), .val (.long ((hh.toUInt64 >>> ((1 : Int32) &&& 0x3f).toInt64.toUInt64).toInt64)), .second] [(.int zq_)])) (show (((5 : Int32) * (12 : Int32)) : Int32) = (60 : Int32) from by decide)) ?_
  show Goes _ _ _ _ T27 (mkF m 81 #[.val (.long t), .second, .val (.long hi), .second, .val (.long lo), .second, .val (.ref b1), .val (.long tt), .second, .val (.long hh), .second, .val (.int (13 : Int32)), .val (.int (65 : Int32)), .val (.long ((hh.toUInt64 >>> ((1 : Int32) &&& 0x3f).toInt64.toUInt64).toInt64)), .second] [(.int (60 : Int32))])
  refine Goes.go (fun _ k => XS.istore X27.here X27.ex rfl (hb hby d_prog_16_method_4_81) rfl (l' := #[.val (.long t), .second, .val (.long hi), .second, .val (.long lo), .second, .val (.ref b1), .val (.long tt), .second, .val (.long hh), .second, .val (.int (13 : Int32)), .val (.int (60 : Int32)), .val (.long ((hh.toUInt64 >>> ((1 : Int32) &&& 0x3f).toInt64.toUInt64).toInt64)), .second]) rfl (XS.iload X27.here X27.ex rfl (hb hby d_prog_16_method_4_83) rfl (XS.bipush X27.here X27.ex rfl (hb hby d_prog_16_method_4_85) (XS.icmpYes X27.here X27.ex rfl (pc0 := 87) (pc' := 103) rfl (hb hby d_prog_16_method_4_87) rfl (cd_t (cd := .lt) (x := (60 : Int32)) (y := (64 : Int32)) (by decide)) (by decide) (by decide) (XS.iload X27.here X27.ex rfl (hb hby d_prog_16_method_4_103) rfl (XS.bipush X27.here X27.ex rfl (hb hby d_prog_16_method_4_105) k)))))) ?_
  show Goes _ _ _ _ T27 (mkF m 107 #[.val (.long t), .second, .val (.long hi), .second, .val (.long lo), .second, .val (.ref b1), .val (.long tt), .second, .val (.long hh), .second, .val (.int (13 : Int32)), .val (.int (60 : Int32)), .val (.long ((hh.toUInt64 >>> ((1 : Int32) &&& 0x3f).toInt64.toUInt64).toInt64)), .second] [(.int (59 : Int32)), (.int (60 : Int32))])
  refine Goes.go (fun _ k => XS.icmpNo X27.here X27.ex rfl (hb hby d_prog_16_method_4_107) rfl (cd_f (cd := .le) (x := (60 : Int32)) (y := (59 : Int32)) (by decide)) (XS.lload X27.here X27.ex rfl (hb hby d_prog_16_method_4_110) rfl (XS.bipush X27.here X27.ex rfl (hb hby d_prog_16_method_4_112) (XS.iload X27.here X27.ex rfl (hb hby d_prog_16_method_4_114) rfl (XS.isub X27.here X27.ex rfl (hb hby d_prog_16_method_4_116) rfl k))))) ?_
  show Goes _ _ _ _ T27 (mkF m 117 #[.val (.long t), .second, .val (.long hi), .second, .val (.long lo), .second, .val (.ref b1), .val (.long tt), .second, .val (.long hh), .second, .val (.int (13 : Int32)), .val (.int (60 : Int32)), .val (.long ((hh.toUInt64 >>> ((1 : Int32) &&& 0x3f).toInt64.toUInt64).toInt64)), .second] [(.int ((64 : Int32) - (60 : Int32))), (.long hh)])
  refine Goes.cast (congrArg (fun zq_ => (mkF m 117 #[.val (.long t), .second, .val (.long hi), .second, .val (.long lo), .second, .val (.ref b1), .val (.long tt), .second, .val (.long hh), .second, .val (.int (13 : Int32)), .val (.int (60 : Int32)), .val (.long ((hh.toUInt64 >>> ((1 : Int32) &&& 0x3f).toInt64.toUInt64).toInt64)), .second] [(.int zq_), (.long hh)])) (show (((64 : Int32) - (60 : Int32)) : Int32) = (4 : Int32) from by decide)) ?_
  show Goes _ _ _ _ T27 (mkF m 117 #[.val (.long t), .second, .val (.long hi), .second, .val (.long lo), .second, .val (.ref b1), .val (.long tt), .second, .val (.long hh), .second, .val (.int (13 : Int32)), .val (.int (60 : Int32)), .val (.long ((hh.toUInt64 >>> ((1 : Int32) &&& 0x3f).toInt64.toUInt64).toInt64)), .second] [(.int (4 : Int32)), (.long hh)])
  refine Goes.go (fun _ k => XS.lshl X27.here X27.ex rfl (hb hby d_prog_16_method_4_117) rfl (XS.lload X27.here X27.ex rfl (hb hby d_prog_16_method_4_118) rfl (XS.iload X27.here X27.ex rfl (hb hby d_prog_16_method_4_120) rfl (XS.lushr X27.here X27.ex rfl (hb hby d_prog_16_method_4_122) rfl (XS.lor X27.here X27.ex rfl (hb hby d_prog_16_method_4_123) rfl (XS.lstore X27.here X27.ex rfl (hb hby d_prog_16_method_4_124) rfl (l' := #[.val (.long t), .second, .val (.long hi), .second, .val (.long lo), .second, .val (.ref b1), .val (.long tt), .second, .val (.long hh), .second, .val (.int (13 : Int32)), .val (.int (60 : Int32)), .val (.long ((hh <<< ((4 : Int32) &&& 0x3f).toInt64) ||| ((lo.toUInt64 >>> ((60 : Int32) &&& 0x3f).toInt64.toUInt64).toInt64))), .second]) rfl k)))))) ?_
  show Goes _ _ _ _ T27 (mkF m 126 #[.val (.long t), .second, .val (.long hi), .second, .val (.long lo), .second, .val (.ref b1), .val (.long tt), .second, .val (.long hh), .second, .val (.int (13 : Int32)), .val (.int (60 : Int32)), .val (.long ((hh <<< ((4 : Int32) &&& 0x3f).toInt64) ||| ((lo.toUInt64 >>> ((60 : Int32) &&& 0x3f).toInt64.toUInt64).toInt64))), .second] [])
  refine Goes.go (fun _ k => XS.goto X27.here X27.ex rfl (pc0 := 126) (pc' := 136) rfl (hb hby d_prog_16_method_4_126) (by decide) (by decide) (XS.aload X27.here X27.ex rfl (hb hby d_prog_16_method_4_136) rfl rfl (XS.iload X27.here X27.ex rfl (hb hby d_prog_16_method_4_138) rfl k))) ?_
  show Goes _ _ _ _ T27 (mkF m 140 #[.val (.long t), .second, .val (.long hi), .second, .val (.long lo), .second, .val (.ref b1), .val (.long tt), .second, .val (.long hh), .second, .val (.int (13 : Int32)), .val (.int (60 : Int32)), .val (.long ((hh <<< ((4 : Int32) &&& 0x3f).toInt64) ||| ((lo.toUInt64 >>> ((60 : Int32) &&& 0x3f).toInt64.toUInt64).toInt64))), .second] [(.int (13 : Int32)), (.ref b1)])
  refine Wk.getS X27 (host := "") (Or.inl (w_6 hw)) Via.refl OA rfl (hb hby d_prog_16_method_4_140) ?_
  intro T28 X28
  show Goes _ _ _ _ T28 (mkF m 143 #[.val (.long t), .second, .val (.long hi), .second, .val (.long lo), .second, .val (.ref b1), .val (.long tt), .second, .val (.long hh), .second, .val (.int (13 : Int32)), .val (.int (60 : Int32)), .val (.long ((hh <<< ((4 : Int32) &&& 0x3f).toInt64) ||| ((lo.toUInt64 >>> ((60 : Int32) &&& 0x3f).toInt64.toUInt64).toInt64))), .second] [(.ref al), (.int (13 : Int32)), (.ref b1)])
  refine Goes.go (fun _ k => XS.lload X28.here X28.ex rfl (hb hby d_prog_16_method_4_143) rfl (XS.l2i X28.here X28.ex rfl (hb hby d_prog_16_method_4_145) rfl (XS.bipush X28.here X28.ex rfl (hb hby d_prog_16_method_4_146) (XS.iand X28.here X28.ex rfl (hb hby d_prog_16_method_4_148) rfl k)))) ?_
  show Goes _ _ _ _ T28 (mkF m 149 #[.val (.long t), .second, .val (.long hi), .second, .val (.long lo), .second, .val (.ref b1), .val (.long tt), .second, .val (.long hh), .second, .val (.int (13 : Int32)), .val (.int (60 : Int32)), .val (.long ((hh <<< ((4 : Int32) &&& 0x3f).toInt64) ||| ((lo.toUInt64 >>> ((60 : Int32) &&& 0x3f).toInt64.toUInt64).toInt64))), .second] [(.int ((((hh <<< ((4 : Int32) &&& 0x3f).toInt64) ||| ((lo.toUInt64 >>> ((60 : Int32) &&& 0x3f).toInt64.toUInt64).toInt64)).toInt32) &&& (31 : Int32))), (.ref al), (.int (13 : Int32)), (.ref b1)])
  obtain ⟨y13, hy13⟩ : ∃ z : Int32, z = (((hh <<< ((4 : Int32) &&& 0x3f).toInt64) ||| ((lo.toUInt64 >>> ((60 : Int32) &&& 0x3f).toInt64.toUInt64).toInt64)).toInt32) := ⟨_, rfl⟩
  refine Goes.cast (show (mkF m 149 #[.val (.long t), .second, .val (.long hi), .second, .val (.long lo), .second, .val (.ref b1), .val (.long tt), .second, .val (.long hh), .second, .val (.int (13 : Int32)), .val (.int (60 : Int32)), .val (.long ((hh <<< ((4 : Int32) &&& 0x3f).toInt64) ||| ((lo.toUInt64 >>> ((60 : Int32) &&& 0x3f).toInt64.toUInt64).toInt64))), .second] [(.int ((((hh <<< ((4 : Int32) &&& 0x3f).toInt64) ||| ((lo.toUInt64 >>> ((60 : Int32) &&& 0x3f).toInt64.toUInt64).toInt64)).toInt32) &&& (31 : Int32))), (.ref al), (.int (13 : Int32)), (.ref b1)]) = (mkF m 149 #[.val (.long t), .second, .val (.long hi), .second, .val (.long lo), .second, .val (.ref b1), .val (.long tt), .second, .val (.long hh), .second, .val (.int (13 : Int32)), .val (.int (60 : Int32)), .val (.long ((hh <<< ((4 : Int32) &&& 0x3f).toInt64) ||| ((lo.toUInt64 >>> ((60 : Int32) &&& 0x3f).toInt64.toUInt64).toInt64))), .second] [(.int (y13 &&& (31 : Int32))), (.ref al), (.int (13 : Int32)), (.ref b1)]) from by rw [hy13]) ?_
  show Goes _ _ _ _ T28 (mkF m 149 #[.val (.long t), .second, .val (.long hi), .second, .val (.long lo), .second, .val (.ref b1), .val (.long tt), .second, .val (.long hh), .second, .val (.int (13 : Int32)), .val (.int (60 : Int32)), .val (.long ((hh <<< ((4 : Int32) &&& 0x3f).toInt64) ||| ((lo.toUInt64 >>> ((60 : Int32) &&& 0x3f).toInt64.toUInt64).toInt64))), .second] [(.int (y13 &&& (31 : Int32))), (.ref al), (.int (13 : Int32)), (.ref b1)])
  refine Goes.go (X28.caload (VA.ext X28.old) (own_b31 y13) (own_symv y13) rfl rfl (hb hby d_prog_16_method_4_149)) ?_
  show Goes _ _ _ _ T28 (mkF m 150 #[.val (.long t), .second, .val (.long hi), .second, .val (.long lo), .second, .val (.ref b1), .val (.long tt), .second, .val (.long hh), .second, .val (.int (13 : Int32)), .val (.int (60 : Int32)), .val (.long ((hh <<< ((4 : Int32) &&& 0x3f).toInt64) ||| ((lo.toUInt64 >>> ((60 : Int32) &&& 0x3f).toInt64.toUInt64).toInt64))), .second] [(.int (own_sym y13)), (.int (13 : Int32)), (.ref b1)])
  refine Wk.castore (hm' := fun _ => h0) X28 V_b1 ⟨by decide, by decide⟩ (i := 13) rfl (Nat.le_of_ble_eq_true rfl) gz_b1 (fun _ => Mark.stay (allS gm_b1 all0)) rfl rfl (hb hby d_prog_16_method_4_150) ?_
  intro T29 h29 X29 W29 V29
  clear V_b1; have V_b1 : Arv Z h29 b1 _ .char (26 : Int32) [(.int (nar .char (own_sym y0))), (.int (nar .char (own_sym y1))), (.int (nar .char (own_sym y2))), (.int (nar .char (own_sym y3))), (.int (nar .char (own_sym y4))), (.int (nar .char (own_sym y5))), (.int (nar .char (own_sym y6))), (.int (nar .char (own_sym y7))), (.int (nar .char (own_sym y8))), (.int (nar .char (own_sym y9))), (.int (nar .char (own_sym y10))), (.int (nar .char (own_sym y11))), (.int (nar .char (own_sym y12))), (.int (nar .char (own_sym y13))), (.int (0 : Int32)), (.int (0 : Int32)), (.int (0 : Int32)), (.int (0 : Int32)), (.int (0 : Int32)), (.int (0 : Int32)), (.int (0 : Int32)), (.int (0 : Int32)), (.int (0 : Int32)), (.int (0 : Int32)), (.int (0 : Int32)), (.int (0 : Int32))] (.int (0 : Int32)) := V29
  show Goes _ _ _ _ T29 (mkF m 151 #[.val (.long t), .second, .val (.long hi), .second, .val (.long lo), .second, .val (.ref b1), .val (.long tt), .second, .val (.long hh), .second, .val (.int (13 : Int32)), .val (.int (60 : Int32)), .val (.long ((hh <<< ((4 : Int32) &&& 0x3f).toInt64) ||| ((lo.toUInt64 >>> ((60 : Int32) &&& 0x3f).toInt64.toUInt64).toInt64))), .second] [])
  refine Goes.go (fun _ k => XS.iinc X29.here X29.ex rfl (hb hby d_prog_16_method_4_151) rfl (l' := #[.val (.long t), .second, .val (.long hi), .second, .val (.long lo), .second, .val (.ref b1), .val (.long tt), .second, .val (.long hh), .second, .val (.int ((13 : Int32) + (1 : Int32))), .val (.int (60 : Int32)), .val (.long ((hh <<< ((4 : Int32) &&& 0x3f).toInt64) ||| ((lo.toUInt64 >>> ((60 : Int32) &&& 0x3f).toInt64.toUInt64).toInt64))), .second]) rfl k) ?_
  show Goes _ _ _ _ T29 (mkF m 154 #[.val (.long t), .second, .val (.long hi), .second, .val (.long lo), .second, .val (.ref b1), .val (.long tt), .second, .val (.long hh), .second, .val (.int ((13 : Int32) + (1 : Int32))), .val (.int (60 : Int32)), .val (.long ((hh <<< ((4 : Int32) &&& 0x3f).toInt64) ||| ((lo.toUInt64 >>> ((60 : Int32) &&& 0x3f).toInt64.toUInt64).toInt64))), .second] [])
  refine Goes.cast (congrArg (fun zq_ => (mkF m 154 #[.val (.long t), .second, .val (.long hi), .second, .val (.long lo), .second, .val (.ref b1), .val (.long tt), .second, .val (.long hh), .second, .val (.int zq_), .val (.int (60 : Int32)), .val (.long ((hh <<< ((4 : Int32) &&& 0x3f).toInt64) ||| ((lo.toUInt64 >>> ((60 : Int32) &&& 0x3f).toInt64.toUInt64).toInt64))), .second] [])) (show (((13 : Int32) + (1 : Int32)) : Int32) = (14 : Int32) from by decide)) ?_
  show Goes _ _ _ _ T29 (mkF m 154 #[.val (.long t), .second, .val (.long hi), .second, .val (.long lo), .second, .val (.ref b1), .val (.long tt), .second, .val (.long hh), .second, .val (.int (14 : Int32)), .val (.int (60 : Int32)), .val (.long ((hh <<< ((4 : Int32) &&& 0x3f).toInt64) ||| ((lo.toUInt64 >>> ((60 : Int32) &&& 0x3f).toInt64.toUInt64).toInt64))), .second] [])
  refine Goes.go (fun _ k => XS.goto X29.here X29.ex rfl (pc0 := 154) (pc' := 67) rfl (hb hby d_prog_16_method_4_154) (by decide) (by decide) (XS.iload X29.here X29.ex rfl (hb hby d_prog_16_method_4_67) rfl (XS.bipush X29.here X29.ex rfl (hb hby d_prog_16_method_4_69) (XS.icmpNo X29.here X29.ex rfl (hb hby d_prog_16_method_4_71) rfl (cd_f (cd := .ge) (x := (14 : Int32)) (y := (26 : Int32)) (by decide)) (XS.iconst X29.here X29.ex rfl (hb hby d_prog_16_method_4_74) (XS.bipush X29.here X29.ex rfl (hb hby d_prog_16_method_4_75) k)))))) ?_
  show Goes _ _ _ _ T29 (mkF m 77 #[.val (.long t), .second, .val (.long hi), .second, .val (.long lo), .second, .val (.ref b1), .val (.long tt), .second, .val (.long hh), .second, .val (.int (14 : Int32)), .val (.int (60 : Int32)), .val (.long ((hh <<< ((4 : Int32) &&& 0x3f).toInt64) ||| ((lo.toUInt64 >>> ((60 : Int32) &&& 0x3f).toInt64.toUInt64).toInt64))), .second] [(.int (25 : Int32)), (.int (5 : Int32))])
  refine Goes.go (fun _ k => XS.iload X29.here X29.ex rfl (hb hby d_prog_16_method_4_77) rfl (XS.isub X29.here X29.ex rfl (hb hby d_prog_16_method_4_79) rfl k)) ?_
  show Goes _ _ _ _ T29 (mkF m 80 #[.val (.long t), .second, .val (.long hi), .second, .val (.long lo), .second, .val (.ref b1), .val (.long tt), .second, .val (.long hh), .second, .val (.int (14 : Int32)), .val (.int (60 : Int32)), .val (.long ((hh <<< ((4 : Int32) &&& 0x3f).toInt64) ||| ((lo.toUInt64 >>> ((60 : Int32) &&& 0x3f).toInt64.toUInt64).toInt64))), .second] [(.int ((25 : Int32) - (14 : Int32))), (.int (5 : Int32))])
  refine Goes.cast (congrArg (fun zq_ => (mkF m 80 #[.val (.long t), .second, .val (.long hi), .second, .val (.long lo), .second, .val (.ref b1), .val (.long tt), .second, .val (.long hh), .second, .val (.int (14 : Int32)), .val (.int (60 : Int32)), .val (.long ((hh <<< ((4 : Int32) &&& 0x3f).toInt64) ||| ((lo.toUInt64 >>> ((60 : Int32) &&& 0x3f).toInt64.toUInt64).toInt64))), .second] [(.int zq_), (.int (5 : Int32))])) (show (((25 : Int32) - (14 : Int32)) : Int32) = (11 : Int32) from by decide)) ?_
  show Goes _ _ _ _ T29 (mkF m 80 #[.val (.long t), .second, .val (.long hi), .second, .val (.long lo), .second, .val (.ref b1), .val (.long tt), .second, .val (.long hh), .second, .val (.int (14 : Int32)), .val (.int (60 : Int32)), .val (.long ((hh <<< ((4 : Int32) &&& 0x3f).toInt64) ||| ((lo.toUInt64 >>> ((60 : Int32) &&& 0x3f).toInt64.toUInt64).toInt64))), .second] [(.int (11 : Int32)), (.int (5 : Int32))])
  refine Goes.go (fun _ k => XS.imul X29.here X29.ex rfl (hb hby d_prog_16_method_4_80) rfl k) ?_
  show Goes _ _ _ _ T29 (mkF m 81 #[.val (.long t), .second, .val (.long hi), .second, .val (.long lo), .second, .val (.ref b1), .val (.long tt), .second, .val (.long hh), .second, .val (.int (14 : Int32)), .val (.int (60 : Int32)), .val (.long ((hh <<< ((4 : Int32) &&& 0x3f).toInt64) ||| ((lo.toUInt64 >>> ((60 : Int32) &&& 0x3f).toInt64.toUInt64).toInt64))), .second] [(.int ((5 : Int32) * (11 : Int32)))])
  refine Goes.cast (congrArg (fun zq_ => (mkF m 81 #[.val (.long t), .second, .val (.long hi), .second, .val (.long lo), .second, .val (.ref b1), .val (.long tt), .second, .val (.long hh), .second, .val (.int (14 : Int32)), .val (.int (60 : Int32)), .val (.long ((hh <<< ((4 : Int32) &&& 0x3f).toInt64) ||| ((lo.toUInt64 >>> ((60 : Int32) &&& 0x3f).toInt64.toUInt64).toInt64))), .second] [(.int zq_)])) (show (((5 : Int32) * (11 : Int32)) : Int32) = (55 : Int32) from by decide)) ?_
  show Goes _ _ _ _ T29 (mkF m 81 #[.val (.long t), .second, .val (.long hi), .second, .val (.long lo), .second, .val (.ref b1), .val (.long tt), .second, .val (.long hh), .second, .val (.int (14 : Int32)), .val (.int (60 : Int32)), .val (.long ((hh <<< ((4 : Int32) &&& 0x3f).toInt64) ||| ((lo.toUInt64 >>> ((60 : Int32) &&& 0x3f).toInt64.toUInt64).toInt64))), .second] [(.int (55 : Int32))])
  refine Goes.go (fun _ k => XS.istore X29.here X29.ex rfl (hb hby d_prog_16_method_4_81) rfl (l' := #[.val (.long t), .second, .val (.long hi), .second, .val (.long lo), .second, .val (.ref b1), .val (.long tt), .second, .val (.long hh), .second, .val (.int (14 : Int32)), .val (.int (55 : Int32)), .val (.long ((hh <<< ((4 : Int32) &&& 0x3f).toInt64) ||| ((lo.toUInt64 >>> ((60 : Int32) &&& 0x3f).toInt64.toUInt64).toInt64))), .second]) rfl (XS.iload X29.here X29.ex rfl (hb hby d_prog_16_method_4_83) rfl (XS.bipush X29.here X29.ex rfl (hb hby d_prog_16_method_4_85) (XS.icmpYes X29.here X29.ex rfl (pc0 := 87) (pc' := 103) rfl (hb hby d_prog_16_method_4_87) rfl (cd_t (cd := .lt) (x := (55 : Int32)) (y := (64 : Int32)) (by decide)) (by decide) (by decide) (XS.iload X29.here X29.ex rfl (hb hby d_prog_16_method_4_103) rfl (XS.bipush X29.here X29.ex rfl (hb hby d_prog_16_method_4_105) k)))))) ?_
  show Goes _ _ _ _ T29 (mkF m 107 #[.val (.long t), .second, .val (.long hi), .second, .val (.long lo), .second, .val (.ref b1), .val (.long tt), .second, .val (.long hh), .second, .val (.int (14 : Int32)), .val (.int (55 : Int32)), .val (.long ((hh <<< ((4 : Int32) &&& 0x3f).toInt64) ||| ((lo.toUInt64 >>> ((60 : Int32) &&& 0x3f).toInt64.toUInt64).toInt64))), .second] [(.int (59 : Int32)), (.int (55 : Int32))])
  refine Goes.go (fun _ k => XS.icmpYes X29.here X29.ex rfl (pc0 := 107) (pc' := 129) rfl (hb hby d_prog_16_method_4_107) rfl (cd_t (cd := .le) (x := (55 : Int32)) (y := (59 : Int32)) (by decide)) (by decide) (by decide) (XS.lload X29.here X29.ex rfl (hb hby d_prog_16_method_4_129) rfl (XS.iload X29.here X29.ex rfl (hb hby d_prog_16_method_4_131) rfl (XS.lushr X29.here X29.ex rfl (hb hby d_prog_16_method_4_133) rfl (XS.lstore X29.here X29.ex rfl (hb hby d_prog_16_method_4_134) rfl (l' := #[.val (.long t), .second, .val (.long hi), .second, .val (.long lo), .second, .val (.ref b1), .val (.long tt), .second, .val (.long hh), .second, .val (.int (14 : Int32)), .val (.int (55 : Int32)), .val (.long ((lo.toUInt64 >>> ((55 : Int32) &&& 0x3f).toInt64.toUInt64).toInt64)), .second]) rfl (XS.aload X29.here X29.ex rfl (hb hby d_prog_16_method_4_136) rfl rfl k)))))) ?_
  show Goes _ _ _ _ T29 (mkF m 138 #[.val (.long t), .second, .val (.long hi), .second, .val (.long lo), .second, .val (.ref b1), .val (.long tt), .second, .val (.long hh), .second, .val (.int (14 : Int32)), .val (.int (55 : Int32)), .val (.long ((lo.toUInt64 >>> ((55 : Int32) &&& 0x3f).toInt64.toUInt64).toInt64)), .second] [(.ref b1)])
  refine Goes.go (fun _ k => XS.iload X29.here X29.ex rfl (hb hby d_prog_16_method_4_138) rfl k) ?_
  show Goes _ _ _ _ T29 (mkF m 140 #[.val (.long t), .second, .val (.long hi), .second, .val (.long lo), .second, .val (.ref b1), .val (.long tt), .second, .val (.long hh), .second, .val (.int (14 : Int32)), .val (.int (55 : Int32)), .val (.long ((lo.toUInt64 >>> ((55 : Int32) &&& 0x3f).toInt64.toUInt64).toInt64)), .second] [(.int (14 : Int32)), (.ref b1)])
  refine Wk.getS X29 (host := "") (Or.inl (w_6 hw)) Via.refl OA rfl (hb hby d_prog_16_method_4_140) ?_
  intro T30 X30
  show Goes _ _ _ _ T30 (mkF m 143 #[.val (.long t), .second, .val (.long hi), .second, .val (.long lo), .second, .val (.ref b1), .val (.long tt), .second, .val (.long hh), .second, .val (.int (14 : Int32)), .val (.int (55 : Int32)), .val (.long ((lo.toUInt64 >>> ((55 : Int32) &&& 0x3f).toInt64.toUInt64).toInt64)), .second] [(.ref al), (.int (14 : Int32)), (.ref b1)])
  refine Goes.go (fun _ k => XS.lload X30.here X30.ex rfl (hb hby d_prog_16_method_4_143) rfl (XS.l2i X30.here X30.ex rfl (hb hby d_prog_16_method_4_145) rfl (XS.bipush X30.here X30.ex rfl (hb hby d_prog_16_method_4_146) (XS.iand X30.here X30.ex rfl (hb hby d_prog_16_method_4_148) rfl k)))) ?_
  show Goes _ _ _ _ T30 (mkF m 149 #[.val (.long t), .second, .val (.long hi), .second, .val (.long lo), .second, .val (.ref b1), .val (.long tt), .second, .val (.long hh), .second, .val (.int (14 : Int32)), .val (.int (55 : Int32)), .val (.long ((lo.toUInt64 >>> ((55 : Int32) &&& 0x3f).toInt64.toUInt64).toInt64)), .second] [(.int ((((lo.toUInt64 >>> ((55 : Int32) &&& 0x3f).toInt64.toUInt64).toInt64).toInt32) &&& (31 : Int32))), (.ref al), (.int (14 : Int32)), (.ref b1)])
  obtain ⟨y14, hy14⟩ : ∃ z : Int32, z = (((lo.toUInt64 >>> ((55 : Int32) &&& 0x3f).toInt64.toUInt64).toInt64).toInt32) := ⟨_, rfl⟩
  refine Goes.cast (show (mkF m 149 #[.val (.long t), .second, .val (.long hi), .second, .val (.long lo), .second, .val (.ref b1), .val (.long tt), .second, .val (.long hh), .second, .val (.int (14 : Int32)), .val (.int (55 : Int32)), .val (.long ((lo.toUInt64 >>> ((55 : Int32) &&& 0x3f).toInt64.toUInt64).toInt64)), .second] [(.int ((((lo.toUInt64 >>> ((55 : Int32) &&& 0x3f).toInt64.toUInt64).toInt64).toInt32) &&& (31 : Int32))), (.ref al), (.int (14 : Int32)), (.ref b1)]) = (mkF m 149 #[.val (.long t), .second, .val (.long hi), .second, .val (.long lo), .second, .val (.ref b1), .val (.long tt), .second, .val (.long hh), .second, .val (.int (14 : Int32)), .val (.int (55 : Int32)), .val (.long ((lo.toUInt64 >>> ((55 : Int32) &&& 0x3f).toInt64.toUInt64).toInt64)), .second] [(.int (y14 &&& (31 : Int32))), (.ref al), (.int (14 : Int32)), (.ref b1)]) from by rw [hy14]) ?_
  show Goes _ _ _ _ T30 (mkF m 149 #[.val (.long t), .second, .val (.long hi), .second, .val (.long lo), .second, .val (.ref b1), .val (.long tt), .second, .val (.long hh), .second, .val (.int (14 : Int32)), .val (.int (55 : Int32)), .val (.long ((lo.toUInt64 >>> ((55 : Int32) &&& 0x3f).toInt64.toUInt64).toInt64)), .second] [(.int (y14 &&& (31 : Int32))), (.ref al), (.int (14 : Int32)), (.ref b1)])
  refine Goes.go (X30.caload (VA.ext X30.old) (own_b31 y14) (own_symv y14) rfl rfl (hb hby d_prog_16_method_4_149)) ?_
  show Goes _ _ _ _ T30 (mkF m 150 #[.val (.long t), .second, .val (.long hi), .second, .val (.long lo), .second, .val (.ref b1), .val (.long tt), .second, .val (.long hh), .second, .val (.int (14 : Int32)), .val (.int (55 : Int32)), .val (.long ((lo.toUInt64 >>> ((55 : Int32) &&& 0x3f).toInt64.toUInt64).toInt64)), .second] [(.int (own_sym y14)), (.int (14 : Int32)), (.ref b1)])
  refine Wk.castore (hm' := fun _ => h0) X30 V_b1 ⟨by decide, by decide⟩ (i := 14) rfl (Nat.le_of_ble_eq_true rfl) gz_b1 (fun _ => Mark.stay (allS gm_b1 all0)) rfl rfl (hb hby d_prog_16_method_4_150) ?_
  intro T31 h31 X31 W31 V31
  clear V_b1; have V_b1 : Arv Z h31 b1 _ .char (26 : Int32) [(.int (nar .char (own_sym y0))), (.int (nar .char (own_sym y1))), (.int (nar .char (own_sym y2))), (.int (nar .char (own_sym y3))), (.int (nar .char (own_sym y4))), (.int (nar .char (own_sym y5))), (.int (nar .char (own_sym y6))), (.int (nar .char (own_sym y7))), (.int (nar .char (own_sym y8))), (.int (nar .char (own_sym y9))), (.int (nar .char (own_sym y10))), (.int (nar .char (own_sym y11))), (.int (nar .char (own_sym y12))), (.int (nar .char (own_sym y13))), (.int (nar .char (own_sym y14))), (.int (0 : Int32)), (.int (0 : Int32)), (.int (0 : Int32)), (.int (0 : Int32)), (.int (0 : Int32)), (.int (0 : Int32)), (.int (0 : Int32)), (.int (0 : Int32)), (.int (0 : Int32)), (.int (0 : Int32)), (.int (0 : Int32))] (.int (0 : Int32)) := V31
  show Goes _ _ _ _ T31 (mkF m 151 #[.val (.long t), .second, .val (.long hi), .second, .val (.long lo), .second, .val (.ref b1), .val (.long tt), .second, .val (.long hh), .second, .val (.int (14 : Int32)), .val (.int (55 : Int32)), .val (.long ((lo.toUInt64 >>> ((55 : Int32) &&& 0x3f).toInt64.toUInt64).toInt64)), .second] [])
  refine Goes.go (fun _ k => XS.iinc X31.here X31.ex rfl (hb hby d_prog_16_method_4_151) rfl (l' := #[.val (.long t), .second, .val (.long hi), .second, .val (.long lo), .second, .val (.ref b1), .val (.long tt), .second, .val (.long hh), .second, .val (.int ((14 : Int32) + (1 : Int32))), .val (.int (55 : Int32)), .val (.long ((lo.toUInt64 >>> ((55 : Int32) &&& 0x3f).toInt64.toUInt64).toInt64)), .second]) rfl k) ?_
  show Goes _ _ _ _ T31 (mkF m 154 #[.val (.long t), .second, .val (.long hi), .second, .val (.long lo), .second, .val (.ref b1), .val (.long tt), .second, .val (.long hh), .second, .val (.int ((14 : Int32) + (1 : Int32))), .val (.int (55 : Int32)), .val (.long ((lo.toUInt64 >>> ((55 : Int32) &&& 0x3f).toInt64.toUInt64).toInt64)), .second] [])
  refine Goes.cast (congrArg (fun zq_ => (mkF m 154 #[.val (.long t), .second, .val (.long hi), .second, .val (.long lo), .second, .val (.ref b1), .val (.long tt), .second, .val (.long hh), .second, .val (.int zq_), .val (.int (55 : Int32)), .val (.long ((lo.toUInt64 >>> ((55 : Int32) &&& 0x3f).toInt64.toUInt64).toInt64)), .second] [])) (show (((14 : Int32) + (1 : Int32)) : Int32) = (15 : Int32) from by decide)) ?_
  show Goes _ _ _ _ T31 (mkF m 154 #[.val (.long t), .second, .val (.long hi), .second, .val (.long lo), .second, .val (.ref b1), .val (.long tt), .second, .val (.long hh), .second, .val (.int (15 : Int32)), .val (.int (55 : Int32)), .val (.long ((lo.toUInt64 >>> ((55 : Int32) &&& 0x3f).toInt64.toUInt64).toInt64)), .second] [])
  refine Goes.go (fun _ k => XS.goto X31.here X31.ex rfl (pc0 := 154) (pc' := 67) rfl (hb hby d_prog_16_method_4_154) (by decide) (by decide) (XS.iload X31.here X31.ex rfl (hb hby d_prog_16_method_4_67) rfl (XS.bipush X31.here X31.ex rfl (hb hby d_prog_16_method_4_69) (XS.icmpNo X31.here X31.ex rfl (hb hby d_prog_16_method_4_71) rfl (cd_f (cd := .ge) (x := (15 : Int32)) (y := (26 : Int32)) (by decide)) (XS.iconst X31.here X31.ex rfl (hb hby d_prog_16_method_4_74) (XS.bipush X31.here X31.ex rfl (hb hby d_prog_16_method_4_75) k)))))) ?_
  show Goes _ _ _ _ T31 (mkF m 77 #[.val (.long t), .second, .val (.long hi), .second, .val (.long lo), .second, .val (.ref b1), .val (.long tt), .second, .val (.long hh), .second, .val (.int (15 : Int32)), .val (.int (55 : Int32)), .val (.long ((lo.toUInt64 >>> ((55 : Int32) &&& 0x3f).toInt64.toUInt64).toInt64)), .second] [(.int (25 : Int32)), (.int (5 : Int32))])
  refine Goes.go (fun _ k => XS.iload X31.here X31.ex rfl (hb hby d_prog_16_method_4_77) rfl (XS.isub X31.here X31.ex rfl (hb hby d_prog_16_method_4_79) rfl k)) ?_
  show Goes _ _ _ _ T31 (mkF m 80 #[.val (.long t), .second, .val (.long hi), .second, .val (.long lo), .second, .val (.ref b1), .val (.long tt), .second, .val (.long hh), .second, .val (.int (15 : Int32)), .val (.int (55 : Int32)), .val (.long ((lo.toUInt64 >>> ((55 : Int32) &&& 0x3f).toInt64.toUInt64).toInt64)), .second] [(.int ((25 : Int32) - (15 : Int32))), (.int (5 : Int32))])
  refine Goes.cast (congrArg (fun zq_ => (mkF m 80 #[.val (.long t), .second, .val (.long hi), .second, .val (.long lo), .second, .val (.ref b1), .val (.long tt), .second, .val (.long hh), .second, .val (.int (15 : Int32)), .val (.int (55 : Int32)), .val (.long ((lo.toUInt64 >>> ((55 : Int32) &&& 0x3f).toInt64.toUInt64).toInt64)), .second] [(.int zq_), (.int (5 : Int32))])) (show (((25 : Int32) - (15 : Int32)) : Int32) = (10 : Int32) from by decide)) ?_
  show Goes _ _ _ _ T31 (mkF m 80 #[.val (.long t), .second, .val (.long hi), .second, .val (.long lo), .second, .val (.ref b1), .val (.long tt), .second, .val (.long hh), .second, .val (.int (15 : Int32)), .val (.int (55 : Int32)), .val (.long ((lo.toUInt64 >>> ((55 : Int32) &&& 0x3f).toInt64.toUInt64).toInt64)), .second] [(.int (10 : Int32)), (.int (5 : Int32))])
  refine Goes.go (fun _ k => XS.imul X31.here X31.ex rfl (hb hby d_prog_16_method_4_80) rfl k) ?_
  show Goes _ _ _ _ T31 (mkF m 81 #[.val (.long t), .second, .val (.long hi), .second, .val (.long lo), .second, .val (.ref b1), .val (.long tt), .second, .val (.long hh), .second, .val (.int (15 : Int32)), .val (.int (55 : Int32)), .val (.long ((lo.toUInt64 >>> ((55 : Int32) &&& 0x3f).toInt64.toUInt64).toInt64)), .second] [(.int ((5 : Int32) * (10 : Int32)))])
  refine Goes.cast (congrArg (fun zq_ => (mkF m 81 #[.val (.long t), .second, .val (.long hi), .second, .val (.long lo), .second, .val (.ref b1), .val (.long tt), .second, .val (.long hh), .second, .val (.int (15 : Int32)), .val (.int (55 : Int32)), .val (.long ((lo.toUInt64 >>> ((55 : Int32) &&& 0x3f).toInt64.toUInt64).toInt64)), .second] [(.int zq_)])) (show (((5 : Int32) * (10 : Int32)) : Int32) = (50 : Int32) from by decide)) ?_
  show Goes _ _ _ _ T31 (mkF m 81 #[.val (.long t), .second, .val (.long hi), .second, .val (.long lo), .second, .val (.ref b1), .val (.long tt), .second, .val (.long hh), .second, .val (.int (15 : Int32)), .val (.int (55 : Int32)), .val (.long ((lo.toUInt64 >>> ((55 : Int32) &&& 0x3f).toInt64.toUInt64).toInt64)), .second] [(.int (50 : Int32))])
  refine Goes.go (fun _ k => XS.istore X31.here X31.ex rfl (hb hby d_prog_16_method_4_81) rfl (l' := #[.val (.long t), .second, .val (.long hi), .second, .val (.long lo), .second, .val (.ref b1), .val (.long tt), .second, .val (.long hh), .second, .val (.int (15 : Int32)), .val (.int (50 : Int32)), .val (.long ((lo.toUInt64 >>> ((55 : Int32) &&& 0x3f).toInt64.toUInt64).toInt64)), .second]) rfl (XS.iload X31.here X31.ex rfl (hb hby d_prog_16_method_4_83) rfl (XS.bipush X31.here X31.ex rfl (hb hby d_prog_16_method_4_85) (XS.icmpYes X31.here X31.ex rfl (pc0 := 87) (pc' := 103) rfl (hb hby d_prog_16_method_4_87) rfl (cd_t (cd := .lt) (x := (50 : Int32)) (y := (64 : Int32)) (by decide)) (by decide) (by decide) (XS.iload X31.here X31.ex rfl (hb hby d_prog_16_method_4_103) rfl (XS.bipush X31.here X31.ex rfl (hb hby d_prog_16_method_4_105) k)))))) ?_
  show Goes _ _ _ _ T31 (mkF m 107 #[.val (.long t), .second, .val (.long hi), .second, .val (.long lo), .second, .val (.ref b1), .val (.long tt), .second, .val (.long hh), .second, .val (.int (15 : Int32)), .val (.int (50 : Int32)), .val (.long ((lo.toUInt64 >>> ((55 : Int32) &&& 0x3f).toInt64.toUInt64).toInt64)), .second] [(.int (59 : Int32)), (.int (50 : Int32))])
  refine Goes.go (fun _ k => XS.icmpYes X31.here X31.ex rfl (pc0 := 107) (pc' := 129) rfl (hb hby d_prog_16_method_4_107) rfl (cd_t (cd := .le) (x := (50 : Int32)) (y := (59 : Int32)) (by decide)) (by decide) (by decide) (XS.lload X31.here X31.ex rfl (hb hby d_prog_16_method_4_129) rfl (XS.iload X31.here X31.ex rfl (hb hby d_prog_16_method_4_131) rfl (XS.lushr X31.here X31.ex rfl (hb hby d_prog_16_method_4_133) rfl (XS.lstore X31.here X31.ex rfl (hb hby d_prog_16_method_4_134) rfl (l' := #[.val (.long t), .second, .val (.long hi), .second, .val (.long lo), .second, .val (.ref b1), .val (.long tt), .second, .val (.long hh), .second, .val (.int (15 : Int32)), .val (.int (50 : Int32)), .val (.long ((lo.toUInt64 >>> ((50 : Int32) &&& 0x3f).toInt64.toUInt64).toInt64)), .second]) rfl (XS.aload X31.here X31.ex rfl (hb hby d_prog_16_method_4_136) rfl rfl k)))))) ?_
  show Goes _ _ _ _ T31 (mkF m 138 #[.val (.long t), .second, .val (.long hi), .second, .val (.long lo), .second, .val (.ref b1), .val (.long tt), .second, .val (.long hh), .second, .val (.int (15 : Int32)), .val (.int (50 : Int32)), .val (.long ((lo.toUInt64 >>> ((50 : Int32) &&& 0x3f).toInt64.toUInt64).toInt64)), .second] [(.ref b1)])
  refine Goes.go (fun _ k => XS.iload X31.here X31.ex rfl (hb hby d_prog_16_method_4_138) rfl k) ?_
  show Goes _ _ _ _ T31 (mkF m 140 #[.val (.long t), .second, .val (.long hi), .second, .val (.long lo), .second, .val (.ref b1), .val (.long tt), .second, .val (.long hh), .second, .val (.int (15 : Int32)), .val (.int (50 : Int32)), .val (.long ((lo.toUInt64 >>> ((50 : Int32) &&& 0x3f).toInt64.toUInt64).toInt64)), .second] [(.int (15 : Int32)), (.ref b1)])
  refine Wk.getS X31 (host := "") (Or.inl (w_6 hw)) Via.refl OA rfl (hb hby d_prog_16_method_4_140) ?_
  intro T32 X32
  show Goes _ _ _ _ T32 (mkF m 143 #[.val (.long t), .second, .val (.long hi), .second, .val (.long lo), .second, .val (.ref b1), .val (.long tt), .second, .val (.long hh), .second, .val (.int (15 : Int32)), .val (.int (50 : Int32)), .val (.long ((lo.toUInt64 >>> ((50 : Int32) &&& 0x3f).toInt64.toUInt64).toInt64)), .second] [(.ref al), (.int (15 : Int32)), (.ref b1)])
  refine Goes.go (fun _ k => XS.lload X32.here X32.ex rfl (hb hby d_prog_16_method_4_143) rfl (XS.l2i X32.here X32.ex rfl (hb hby d_prog_16_method_4_145) rfl (XS.bipush X32.here X32.ex rfl (hb hby d_prog_16_method_4_146) (XS.iand X32.here X32.ex rfl (hb hby d_prog_16_method_4_148) rfl k)))) ?_
  show Goes _ _ _ _ T32 (mkF m 149 #[.val (.long t), .second, .val (.long hi), .second, .val (.long lo), .second, .val (.ref b1), .val (.long tt), .second, .val (.long hh), .second, .val (.int (15 : Int32)), .val (.int (50 : Int32)), .val (.long ((lo.toUInt64 >>> ((50 : Int32) &&& 0x3f).toInt64.toUInt64).toInt64)), .second] [(.int ((((lo.toUInt64 >>> ((50 : Int32) &&& 0x3f).toInt64.toUInt64).toInt64).toInt32) &&& (31 : Int32))), (.ref al), (.int (15 : Int32)), (.ref b1)])
  obtain ⟨y15, hy15⟩ : ∃ z : Int32, z = (((lo.toUInt64 >>> ((50 : Int32) &&& 0x3f).toInt64.toUInt64).toInt64).toInt32) := ⟨_, rfl⟩
  refine Goes.cast (show (mkF m 149 #[.val (.long t), .second, .val (.long hi), .second, .val (.long lo), .second, .val (.ref b1), .val (.long tt), .second, .val (.long hh), .second, .val (.int (15 : Int32)), .val (.int (50 : Int32)), .val (.long ((lo.toUInt64 >>> ((50 : Int32) &&& 0x3f).toInt64.toUInt64).toInt64)), .second] [(.int ((((lo.toUInt64 >>> ((50 : Int32) &&& 0x3f).toInt64.toUInt64).toInt64).toInt32) &&& (31 : Int32))), (.ref al), (.int (15 : Int32)), (.ref b1)]) = (mkF m 149 #[.val (.long t), .second, .val (.long hi), .second, .val (.long lo), .second, .val (.ref b1), .val (.long tt), .second, .val (.long hh), .second, .val (.int (15 : Int32)), .val (.int (50 : Int32)), .val (.long ((lo.toUInt64 >>> ((50 : Int32) &&& 0x3f).toInt64.toUInt64).toInt64)), .second] [(.int (y15 &&& (31 : Int32))), (.ref al), (.int (15 : Int32)), (.ref b1)]) from by rw [hy15]) ?_
  show Goes _ _ _ _ T32 (mkF m 149 #[.val (.long t), .second, .val (.long hi), .second, .val (.long lo), .second, .val (.ref b1), .val (.long tt), .second, .val (.long hh), .second, .val (.int (15 : Int32)), .val (.int (50 : Int32)), .val (.long ((lo.toUInt64 >>> ((50 : Int32) &&& 0x3f).toInt64.toUInt64).toInt64)), .second] [(.int (y15 &&& (31 : Int32))), (.ref al), (.int (15 : Int32)), (.ref b1)])
  refine Goes.go (X32.caload (VA.ext X32.old) (own_b31 y15) (own_symv y15) rfl rfl (hb hby d_prog_16_method_4_149)) ?_
  show Goes _ _ _ _ T32 (mkF m 150 #[.val (.long t), .second, .val (.long hi), .second, .val (.long lo), .second, .val (.ref b1), .val (.long tt), .second, .val (.long hh), .second, .val (.int (15 : Int32)), .val (.int (50 : Int32)), .val (.long ((lo.toUInt64 >>> ((50 : Int32) &&& 0x3f).toInt64.toUInt64).toInt64)), .second] [(.int (own_sym y15)), (.int (15 : Int32)), (.ref b1)])
  refine Wk.castore (hm' := fun _ => h0) X32 V_b1 ⟨by decide, by decide⟩ (i := 15) rfl (Nat.le_of_ble_eq_true rfl) gz_b1 (fun _ => Mark.stay (allS gm_b1 all0)) rfl rfl (hb hby d_prog_16_method_4_150) ?_
  intro T33 h33 X33 W33 V33
  clear V_b1; have V_b1 : Arv Z h33 b1 _ .char (26 : Int32) [(.int (nar .char (own_sym y0))), (.int (nar .char (own_sym y1))), (.int (nar .char (own_sym y2))), (.int (nar .char (own_sym y3))), (.int (nar .char (own_sym y4))), (.int (nar .char (own_sym y5))), (.int (nar .char (own_sym y6))), (.int (nar .char (own_sym y7))), (.int (nar .char (own_sym y8))), (.int (nar .char (own_sym y9))), (.int (nar .char (own_sym y10))), (.int (nar .char (own_sym y11))), (.int (nar .char (own_sym y12))), (.int (nar .char (own_sym y13))), (.int (nar .char (own_sym y14))), (.int (nar .char (own_sym y15))), (.int (0 : Int32)), (.int (0 : Int32)), (.int (0 : Int32)), (.int (0 : Int32)), (.int (0 : Int32)), (.int (0 : Int32)), (.int (0 : Int32)), (.int (0 : Int32)), (.int (0 : Int32)), (.int (0 : Int32))] (.int (0 : Int32)) := V33
  show Goes _ _ _ _ T33 (mkF m 151 #[.val (.long t), .second, .val (.long hi), .second, .val (.long lo), .second, .val (.ref b1), .val (.long tt), .second, .val (.long hh), .second, .val (.int (15 : Int32)), .val (.int (50 : Int32)), .val (.long ((lo.toUInt64 >>> ((50 : Int32) &&& 0x3f).toInt64.toUInt64).toInt64)), .second] [])
  refine Goes.go (fun _ k => XS.iinc X33.here X33.ex rfl (hb hby d_prog_16_method_4_151) rfl (l' := #[.val (.long t), .second, .val (.long hi), .second, .val (.long lo), .second, .val (.ref b1), .val (.long tt), .second, .val (.long hh), .second, .val (.int ((15 : Int32) + (1 : Int32))), .val (.int (50 : Int32)), .val (.long ((lo.toUInt64 >>> ((50 : Int32) &&& 0x3f).toInt64.toUInt64).toInt64)), .second]) rfl k) ?_
  show Goes _ _ _ _ T33 (mkF m 154 #[.val (.long t), .second, .val (.long hi), .second, .val (.long lo), .second, .val (.ref b1), .val (.long tt), .second, .val (.long hh), .second, .val (.int ((15 : Int32) + (1 : Int32))), .val (.int (50 : Int32)), .val (.long ((lo.toUInt64 >>> ((50 : Int32) &&& 0x3f).toInt64.toUInt64).toInt64)), .second] [])
  refine Goes.cast (congrArg (fun zq_ => (mkF m 154 #[.val (.long t), .second, .val (.long hi), .second, .val (.long lo), .second, .val (.ref b1), .val (.long tt), .second, .val (.long hh), .second, .val (.int zq_), .val (.int (50 : Int32)), .val (.long ((lo.toUInt64 >>> ((50 : Int32) &&& 0x3f).toInt64.toUInt64).toInt64)), .second] [])) (show (((15 : Int32) + (1 : Int32)) : Int32) = (16 : Int32) from by decide)) ?_
  show Goes _ _ _ _ T33 (mkF m 154 #[.val (.long t), .second, .val (.long hi), .second, .val (.long lo), .second, .val (.ref b1), .val (.long tt), .second, .val (.long hh), .second, .val (.int (16 : Int32)), .val (.int (50 : Int32)), .val (.long ((lo.toUInt64 >>> ((50 : Int32) &&& 0x3f).toInt64.toUInt64).toInt64)), .second] [])
  refine Goes.go (fun _ k => XS.goto X33.here X33.ex rfl (pc0 := 154) (pc' := 67) rfl (hb hby d_prog_16_method_4_154) (by decide) (by decide) (XS.iload X33.here X33.ex rfl (hb hby d_prog_16_method_4_67) rfl (XS.bipush X33.here X33.ex rfl (hb hby d_prog_16_method_4_69) (XS.icmpNo X33.here X33.ex rfl (hb hby d_prog_16_method_4_71) rfl (cd_f (cd := .ge) (x := (16 : Int32)) (y := (26 : Int32)) (by decide)) (XS.iconst X33.here X33.ex rfl (hb hby d_prog_16_method_4_74) (XS.bipush X33.here X33.ex rfl (hb hby d_prog_16_method_4_75) k)))))) ?_
  show Goes _ _ _ _ T33 (mkF m 77 #[.val (.long t), .second, .val (.long hi), .second, .val (.long lo), .second, .val (.ref b1), .val (.long tt), .second, .val (.long hh), .second, .val (.int (16 : Int32)), .val (.int (50 : Int32)), .val (.long ((lo.toUInt64 >>> ((50 : Int32) &&& 0x3f).toInt64.toUInt64).toInt64)), .second] [(.int (25 : Int32)), (.int (5 : Int32))])
  refine Goes.go (fun _ k => XS.iload X33.here X33.ex rfl (hb hby d_prog_16_method_4_77) rfl (XS.isub X33.here X33.ex rfl (hb hby d_prog_16_method_4_79) rfl k)) ?_
  show Goes _ _ _ _ T33 (mkF m 80 #[.val (.long t), .second, .val (.long hi), .second, .val (.long lo), .second, .val (.ref b1), .val (.long tt), .second, .val (.long hh), .second, .val (.int (16 : Int32)), .val (.int (50 : Int32)), .val (.long ((lo.toUInt64 >>> ((50 : Int32) &&& 0x3f).toInt64.toUInt64).toInt64)), .second] [(.int ((25 : Int32) - (16 : Int32))), (.int (5 : Int32))])
  refine Goes.cast (congrArg (fun zq_ => (mkF m 80 #[.val (.long t), .second, .val (.long hi), .second, .val (.long lo), .second, .val (.ref b1), .val (.long tt), .second, .val (.long hh), .second, .val (.int (16 : Int32)), .val (.int (50 : Int32)), .val (.long ((lo.toUInt64 >>> ((50 : Int32) &&& 0x3f).toInt64.toUInt64).toInt64)), .second] [(.int zq_), (.int (5 : Int32))])) (show (((25 : Int32) - (16 : Int32)) : Int32) = (9 : Int32) from by decide)) ?_
  show Goes _ _ _ _ T33 (mkF m 80 #[.val (.long t), .second, .val (.long hi), .second, .val (.long lo), .second, .val (.ref b1), .val (.long tt), .second, .val (.long hh), .second, .val (.int (16 : Int32)), .val (.int (50 : Int32)), .val (.long ((lo.toUInt64 >>> ((50 : Int32) &&& 0x3f).toInt64.toUInt64).toInt64)), .second] [(.int (9 : Int32)), (.int (5 : Int32))])
  refine Goes.go (fun _ k => XS.imul X33.here X33.ex rfl (hb hby d_prog_16_method_4_80) rfl k) ?_
  show Goes _ _ _ _ T33 (mkF m 81 #[.val (.long t), .second, .val (.long hi), .second, .val (.long lo), .second, .val (.ref b1), .val (.long tt), .second, .val (.long hh), .second, .val (.int (16 : Int32)), .val (.int (50 : Int32)), .val (.long ((lo.toUInt64 >>> ((50 : Int32) &&& 0x3f).toInt64.toUInt64).toInt64)), .second] [(.int ((5 : Int32) * (9 : Int32)))])
  refine Goes.cast (congrArg (fun zq_ => (mkF m 81 #[.val (.long t), .second, .val (.long hi), .second, .val (.long lo), .second, .val (.ref b1), .val (.long tt), .second, .val (.long hh), .second, .val (.int (16 : Int32)), .val (.int (50 : Int32)), .val (.long ((lo.toUInt64 >>> ((50 : Int32) &&& 0x3f).toInt64.toUInt64).toInt64)), .second] [(.int zq_)])) (show (((5 : Int32) * (9 : Int32)) : Int32) = (45 : Int32) from by decide)) ?_
  show Goes _ _ _ _ T33 (mkF m 81 #[.val (.long t), .second, .val (.long hi), .second, .val (.long lo), .second, .val (.ref b1), .val (.long tt), .second, .val (.long hh), .second, .val (.int (16 : Int32)), .val (.int (50 : Int32)), .val (.long ((lo.toUInt64 >>> ((50 : Int32) &&& 0x3f).toInt64.toUInt64).toInt64)), .second] [(.int (45 : Int32))])
  refine Goes.go (fun _ k => XS.istore X33.here X33.ex rfl (hb hby d_prog_16_method_4_81) rfl (l' := #[.val (.long t), .second, .val (.long hi), .second, .val (.long lo), .second, .val (.ref b1), .val (.long tt), .second, .val (.long hh), .second, .val (.int (16 : Int32)), .val (.int (45 : Int32)), .val (.long ((lo.toUInt64 >>> ((50 : Int32) &&& 0x3f).toInt64.toUInt64).toInt64)), .second]) rfl (XS.iload X33.here X33.ex rfl (hb hby d_prog_16_method_4_83) rfl (XS.bipush X33.here X33.ex rfl (hb hby d_prog_16_method_4_85) (XS.icmpYes X33.here X33.ex rfl (pc0 := 87) (pc' := 103) rfl (hb hby d_prog_16_method_4_87) rfl (cd_t (cd := .lt) (x := (45 : Int32)) (y := (64 : Int32)) (by decide)) (by decide) (by decide) (XS.iload X33.here X33.ex rfl (hb hby d_prog_16_method_4_103) rfl (XS.bipush X33.here X33.ex rfl (hb hby d_prog_16_method_4_105) k)))))) ?_
  show Goes _ _ _ _ T33 (mkF m 107 #[.val (.long t), .second, .val (.long hi), .second, .val (.long lo), .second, .val (.ref b1), .val (.long tt), .second, .val (.long hh), .second, .val (.int (16 : Int32)), .val (.int (45 : Int32)), .val (.long ((lo.toUInt64 >>> ((50 : Int32) &&& 0x3f).toInt64.toUInt64).toInt64)), .second] [(.int (59 : Int32)), (.int (45 : Int32))])
  refine Goes.go (fun _ k => XS.icmpYes X33.here X33.ex rfl (pc0 := 107) (pc' := 129) rfl (hb hby d_prog_16_method_4_107) rfl (cd_t (cd := .le) (x := (45 : Int32)) (y := (59 : Int32)) (by decide)) (by decide) (by decide) (XS.lload X33.here X33.ex rfl (hb hby d_prog_16_method_4_129) rfl (XS.iload X33.here X33.ex rfl (hb hby d_prog_16_method_4_131) rfl (XS.lushr X33.here X33.ex rfl (hb hby d_prog_16_method_4_133) rfl (XS.lstore X33.here X33.ex rfl (hb hby d_prog_16_method_4_134) rfl (l' := #[.val (.long t), .second, .val (.long hi), .second, .val (.long lo), .second, .val (.ref b1), .val (.long tt), .second, .val (.long hh), .second, .val (.int (16 : Int32)), .val (.int (45 : Int32)), .val (.long ((lo.toUInt64 >>> ((45 : Int32) &&& 0x3f).toInt64.toUInt64).toInt64)), .second]) rfl (XS.aload X33.here X33.ex rfl (hb hby d_prog_16_method_4_136) rfl rfl k)))))) ?_
  show Goes _ _ _ _ T33 (mkF m 138 #[.val (.long t), .second, .val (.long hi), .second, .val (.long lo), .second, .val (.ref b1), .val (.long tt), .second, .val (.long hh), .second, .val (.int (16 : Int32)), .val (.int (45 : Int32)), .val (.long ((lo.toUInt64 >>> ((45 : Int32) &&& 0x3f).toInt64.toUInt64).toInt64)), .second] [(.ref b1)])
  refine Goes.go (fun _ k => XS.iload X33.here X33.ex rfl (hb hby d_prog_16_method_4_138) rfl k) ?_
  show Goes _ _ _ _ T33 (mkF m 140 #[.val (.long t), .second, .val (.long hi), .second, .val (.long lo), .second, .val (.ref b1), .val (.long tt), .second, .val (.long hh), .second, .val (.int (16 : Int32)), .val (.int (45 : Int32)), .val (.long ((lo.toUInt64 >>> ((45 : Int32) &&& 0x3f).toInt64.toUInt64).toInt64)), .second] [(.int (16 : Int32)), (.ref b1)])
  refine Wk.getS X33 (host := "") (Or.inl (w_6 hw)) Via.refl OA rfl (hb hby d_prog_16_method_4_140) ?_
  intro T34 X34
  show Goes _ _ _ _ T34 (mkF m 143 #[.val (.long t), .second, .val (.long hi), .second, .val (.long lo), .second, .val (.ref b1), .val (.long tt), .second, .val (.long hh), .second, .val (.int (16 : Int32)), .val (.int (45 : Int32)), .val (.long ((lo.toUInt64 >>> ((45 : Int32) &&& 0x3f).toInt64.toUInt64).toInt64)), .second] [(.ref al), (.int (16 : Int32)), (.ref b1)])
  refine Goes.go (fun _ k => XS.lload X34.here X34.ex rfl (hb hby d_prog_16_method_4_143) rfl (XS.l2i X34.here X34.ex rfl (hb hby d_prog_16_method_4_145) rfl (XS.bipush X34.here X34.ex rfl (hb hby d_prog_16_method_4_146) (XS.iand X34.here X34.ex rfl (hb hby d_prog_16_method_4_148) rfl k)))) ?_
  show Goes _ _ _ _ T34 (mkF m 149 #[.val (.long t), .second, .val (.long hi), .second, .val (.long lo), .second, .val (.ref b1), .val (.long tt), .second, .val (.long hh), .second, .val (.int (16 : Int32)), .val (.int (45 : Int32)), .val (.long ((lo.toUInt64 >>> ((45 : Int32) &&& 0x3f).toInt64.toUInt64).toInt64)), .second] [(.int ((((lo.toUInt64 >>> ((45 : Int32) &&& 0x3f).toInt64.toUInt64).toInt64).toInt32) &&& (31 : Int32))), (.ref al), (.int (16 : Int32)), (.ref b1)])
  obtain ⟨y16, hy16⟩ : ∃ z : Int32, z = (((lo.toUInt64 >>> ((45 : Int32) &&& 0x3f).toInt64.toUInt64).toInt64).toInt32) := ⟨_, rfl⟩
  refine Goes.cast (show (mkF m 149 #[.val (.long t), .second, .val (.long hi), .second, .val (.long lo), .second, .val (.ref b1), .val (.long tt), .second, .val (.long hh), .second, .val (.int (16 : Int32)), .val (.int (45 : Int32)), .val (.long ((lo.toUInt64 >>> ((45 : Int32) &&& 0x3f).toInt64.toUInt64).toInt64)), .second] [(.int ((((lo.toUInt64 >>> ((45 : Int32) &&& 0x3f).toInt64.toUInt64).toInt64).toInt32) &&& (31 : Int32))), (.ref al), (.int (16 : Int32)), (.ref b1)]) = (mkF m 149 #[.val (.long t), .second, .val (.long hi), .second, .val (.long lo), .second, .val (.ref b1), .val (.long tt), .second, .val (.long hh), .second, .val (.int (16 : Int32)), .val (.int (45 : Int32)), .val (.long ((lo.toUInt64 >>> ((45 : Int32) &&& 0x3f).toInt64.toUInt64).toInt64)), .second] [(.int (y16 &&& (31 : Int32))), (.ref al), (.int (16 : Int32)), (.ref b1)]) from by rw [hy16]) ?_
  show Goes _ _ _ _ T34 (mkF m 149 #[.val (.long t), .second, .val (.long hi), .second, .val (.long lo), .second, .val (.ref b1), .val (.long tt), .second, .val (.long hh), .second, .val (.int (16 : Int32)), .val (.int (45 : Int32)), .val (.long ((lo.toUInt64 >>> ((45 : Int32) &&& 0x3f).toInt64.toUInt64).toInt64)), .second] [(.int (y16 &&& (31 : Int32))), (.ref al), (.int (16 : Int32)), (.ref b1)])
  refine Goes.go (X34.caload (VA.ext X34.old) (own_b31 y16) (own_symv y16) rfl rfl (hb hby d_prog_16_method_4_149)) ?_
  show Goes _ _ _ _ T34 (mkF m 150 #[.val (.long t), .second, .val (.long hi), .second, .val (.long lo), .second, .val (.ref b1), .val (.long tt), .second, .val (.long hh), .second, .val (.int (16 : Int32)), .val (.int (45 : Int32)), .val (.long ((lo.toUInt64 >>> ((45 : Int32) &&& 0x3f).toInt64.toUInt64).toInt64)), .second] [(.int (own_sym y16)), (.int (16 : Int32)), (.ref b1)])
  refine Wk.castore (hm' := fun _ => h0) X34 V_b1 ⟨by decide, by decide⟩ (i := 16) rfl (Nat.le_of_ble_eq_true rfl) gz_b1 (fun _ => Mark.stay (allS gm_b1 all0)) rfl rfl (hb hby d_prog_16_method_4_150) ?_
  intro T35 h35 X35 W35 V35
  clear V_b1; have V_b1 : Arv Z h35 b1 _ .char (26 : Int32) [(.int (nar .char (own_sym y0))), (.int (nar .char (own_sym y1))), (.int (nar .char (own_sym y2))), (.int (nar .char (own_sym y3))), (.int (nar .char (own_sym y4))), (.int (nar .char (own_sym y5))), (.int (nar .char (own_sym y6))), (.int (nar .char (own_sym y7))), (.int (nar .char (own_sym y8))), (.int (nar .char (own_sym y9))), (.int (nar .char (own_sym y10))), (.int (nar .char (own_sym y11))), (.int (nar .char (own_sym y12))), (.int (nar .char (own_sym y13))), (.int (nar .char (own_sym y14))), (.int (nar .char (own_sym y15))), (.int (nar .char (own_sym y16))), (.int (0 : Int32)), (.int (0 : Int32)), (.int (0 : Int32)), (.int (0 : Int32)), (.int (0 : Int32)), (.int (0 : Int32)), (.int (0 : Int32)), (.int (0 : Int32)), (.int (0 : Int32))] (.int (0 : Int32)) := V35
  show Goes _ _ _ _ T35 (mkF m 151 #[.val (.long t), .second, .val (.long hi), .second, .val (.long lo), .second, .val (.ref b1), .val (.long tt), .second, .val (.long hh), .second, .val (.int (16 : Int32)), .val (.int (45 : Int32)), .val (.long ((lo.toUInt64 >>> ((45 : Int32) &&& 0x3f).toInt64.toUInt64).toInt64)), .second] [])
  refine Goes.go (fun _ k => XS.iinc X35.here X35.ex rfl (hb hby d_prog_16_method_4_151) rfl (l' := #[.val (.long t), .second, .val (.long hi), .second, .val (.long lo), .second, .val (.ref b1), .val (.long tt), .second, .val (.long hh), .second, .val (.int ((16 : Int32) + (1 : Int32))), .val (.int (45 : Int32)), .val (.long ((lo.toUInt64 >>> ((45 : Int32) &&& 0x3f).toInt64.toUInt64).toInt64)), .second]) rfl k) ?_
  show Goes _ _ _ _ T35 (mkF m 154 #[.val (.long t), .second, .val (.long hi), .second, .val (.long lo), .second, .val (.ref b1), .val (.long tt), .second, .val (.long hh), .second, .val (.int ((16 : Int32) + (1 : Int32))), .val (.int (45 : Int32)), .val (.long ((lo.toUInt64 >>> ((45 : Int32) &&& 0x3f).toInt64.toUInt64).toInt64)), .second] [])
  refine Goes.cast (congrArg (fun zq_ => (mkF m 154 #[.val (.long t), .second, .val (.long hi), .second, .val (.long lo), .second, .val (.ref b1), .val (.long tt), .second, .val (.long hh), .second, .val (.int zq_), .val (.int (45 : Int32)), .val (.long ((lo.toUInt64 >>> ((45 : Int32) &&& 0x3f).toInt64.toUInt64).toInt64)), .second] [])) (show (((16 : Int32) + (1 : Int32)) : Int32) = (17 : Int32) from by decide)) ?_
  show Goes _ _ _ _ T35 (mkF m 154 #[.val (.long t), .second, .val (.long hi), .second, .val (.long lo), .second, .val (.ref b1), .val (.long tt), .second, .val (.long hh), .second, .val (.int (17 : Int32)), .val (.int (45 : Int32)), .val (.long ((lo.toUInt64 >>> ((45 : Int32) &&& 0x3f).toInt64.toUInt64).toInt64)), .second] [])
  refine Goes.go (fun _ k => XS.goto X35.here X35.ex rfl (pc0 := 154) (pc' := 67) rfl (hb hby d_prog_16_method_4_154) (by decide) (by decide) (XS.iload X35.here X35.ex rfl (hb hby d_prog_16_method_4_67) rfl (XS.bipush X35.here X35.ex rfl (hb hby d_prog_16_method_4_69) (XS.icmpNo X35.here X35.ex rfl (hb hby d_prog_16_method_4_71) rfl (cd_f (cd := .ge) (x := (17 : Int32)) (y := (26 : Int32)) (by decide)) (XS.iconst X35.here X35.ex rfl (hb hby d_prog_16_method_4_74) (XS.bipush X35.here X35.ex rfl (hb hby d_prog_16_method_4_75) k)))))) ?_
  show Goes _ _ _ _ T35 (mkF m 77 #[.val (.long t), .second, .val (.long hi), .second, .val (.long lo), .second, .val (.ref b1), .val (.long tt), .second, .val (.long hh), .second, .val (.int (17 : Int32)), .val (.int (45 : Int32)), .val (.long ((lo.toUInt64 >>> ((45 : Int32) &&& 0x3f).toInt64.toUInt64).toInt64)), .second] [(.int (25 : Int32)), (.int (5 : Int32))])
  refine Goes.go (fun _ k => XS.iload X35.here X35.ex rfl (hb hby d_prog_16_method_4_77) rfl (XS.isub X35.here X35.ex rfl (hb hby d_prog_16_method_4_79) rfl k)) ?_
  show Goes _ _ _ _ T35 (mkF m 80 #[.val (.long t), .second, .val (.long hi), .second, .val (.long lo), .second, .val (.ref b1), .val (.long tt), .second, .val (.long hh), .second, .val (.int (17 : Int32)), .val (.int (45 : Int32)), .val (.long ((lo.toUInt64 >>> ((45 : Int32) &&& 0x3f).toInt64.toUInt64).toInt64)), .second] [(.int ((25 : Int32) - (17 : Int32))), (.int (5 : Int32))])
  refine Goes.cast (congrArg (fun zq_ => (mkF m 80 #[.val (.long t), .second, .val (.long hi), .second, .val (.long lo), .second, .val (.ref b1), .val (.long tt), .second, .val (.long hh), .second, .val (.int (17 : Int32)), .val (.int (45 : Int32)), .val (.long ((lo.toUInt64 >>> ((45 : Int32) &&& 0x3f).toInt64.toUInt64).toInt64)), .second] [(.int zq_), (.int (5 : Int32))])) (show (((25 : Int32) - (17 : Int32)) : Int32) = (8 : Int32) from by decide)) ?_
  show Goes _ _ _ _ T35 (mkF m 80 #[.val (.long t), .second, .val (.long hi), .second, .val (.long lo), .second, .val (.ref b1), .val (.long tt), .second, .val (.long hh), .second, .val (.int (17 : Int32)), .val (.int (45 : Int32)), .val (.long ((lo.toUInt64 >>> ((45 : Int32) &&& 0x3f).toInt64.toUInt64).toInt64)), .second] [(.int (8 : Int32)), (.int (5 : Int32))])
  refine Goes.go (fun _ k => XS.imul X35.here X35.ex rfl (hb hby d_prog_16_method_4_80) rfl k) ?_
  show Goes _ _ _ _ T35 (mkF m 81 #[.val (.long t), .second, .val (.long hi), .second, .val (.long lo), .second, .val (.ref b1), .val (.long tt), .second, .val (.long hh), .second, .val (.int (17 : Int32)), .val (.int (45 : Int32)), .val (.long ((lo.toUInt64 >>> ((45 : Int32) &&& 0x3f).toInt64.toUInt64).toInt64)), .second] [(.int ((5 : Int32) * (8 : Int32)))])
  refine Goes.cast (congrArg (fun zq_ => (mkF m 81 #[.val (.long t), .second, .val (.long hi), .second, .val (.long lo), .second, .val (.ref b1), .val (.long tt), .second, .val (.long hh), .second, .val (.int (17 : Int32)), .val (.int (45 : Int32)), .val (.long ((lo.toUInt64 >>> ((45 : Int32) &&& 0x3f).toInt64.toUInt64).toInt64)), .second] [(.int zq_)])) (show (((5 : Int32) * (8 : Int32)) : Int32) = (40 : Int32) from by decide)) ?_
  show Goes _ _ _ _ T35 (mkF m 81 #[.val (.long t), .second, .val (.long hi), .second, .val (.long lo), .second, .val (.ref b1), .val (.long tt), .second, .val (.long hh), .second, .val (.int (17 : Int32)), .val (.int (45 : Int32)), .val (.long ((lo.toUInt64 >>> ((45 : Int32) &&& 0x3f).toInt64.toUInt64).toInt64)), .second] [(.int (40 : Int32))])
  refine Goes.go (fun _ k => XS.istore X35.here X35.ex rfl (hb hby d_prog_16_method_4_81) rfl (l' := #[.val (.long t), .second, .val (.long hi), .second, .val (.long lo), .second, .val (.ref b1), .val (.long tt), .second, .val (.long hh), .second, .val (.int (17 : Int32)), .val (.int (40 : Int32)), .val (.long ((lo.toUInt64 >>> ((45 : Int32) &&& 0x3f).toInt64.toUInt64).toInt64)), .second]) rfl (XS.iload X35.here X35.ex rfl (hb hby d_prog_16_method_4_83) rfl (XS.bipush X35.here X35.ex rfl (hb hby d_prog_16_method_4_85) (XS.icmpYes X35.here X35.ex rfl (pc0 := 87) (pc' := 103) rfl (hb hby d_prog_16_method_4_87) rfl (cd_t (cd := .lt) (x := (40 : Int32)) (y := (64 : Int32)) (by decide)) (by decide) (by decide) (XS.iload X35.here X35.ex rfl (hb hby d_prog_16_method_4_103) rfl (XS.bipush X35.here X35.ex rfl (hb hby d_prog_16_method_4_105) k)))))) ?_
  show Goes _ _ _ _ T35 (mkF m 107 #[.val (.long t), .second, .val (.long hi), .second, .val (.long lo), .second, .val (.ref b1), .val (.long tt), .second, .val (.long hh), .second, .val (.int (17 : Int32)), .val (.int (40 : Int32)), .val (.long ((lo.toUInt64 >>> ((45 : Int32) &&& 0x3f).toInt64.toUInt64).toInt64)), .second] [(.int (59 : Int32)), (.int (40 : Int32))])
  refine Goes.go (fun _ k => XS.icmpYes X35.here X35.ex rfl (pc0 := 107) (pc' := 129) rfl (hb hby d_prog_16_method_4_107) rfl (cd_t (cd := .le) (x := (40 : Int32)) (y := (59 : Int32)) (by decide)) (by decide) (by decide) (XS.lload X35.here X35.ex rfl (hb hby d_prog_16_method_4_129) rfl (XS.iload X35.here X35.ex rfl (hb hby d_prog_16_method_4_131) rfl (XS.lushr X35.here X35.ex rfl (hb hby d_prog_16_method_4_133) rfl (XS.lstore X35.here X35.ex rfl (hb hby d_prog_16_method_4_134) rfl (l' := #[.val (.long t), .second, .val (.long hi), .second, .val (.long lo), .second, .val (.ref b1), .val (.long tt), .second, .val (.long hh), .second, .val (.int (17 : Int32)), .val (.int (40 : Int32)), .val (.long ((lo.toUInt64 >>> ((40 : Int32) &&& 0x3f).toInt64.toUInt64).toInt64)), .second]) rfl (XS.aload X35.here X35.ex rfl (hb hby d_prog_16_method_4_136) rfl rfl k)))))) ?_
  show Goes _ _ _ _ T35 (mkF m 138 #[.val (.long t), .second, .val (.long hi), .second, .val (.long lo), .second, .val (.ref b1), .val (.long tt), .second, .val (.long hh), .second, .val (.int (17 : Int32)), .val (.int (40 : Int32)), .val (.long ((lo.toUInt64 >>> ((40 : Int32) &&& 0x3f).toInt64.toUInt64).toInt64)), .second] [(.ref b1)])
  refine Goes.go (fun _ k => XS.iload X35.here X35.ex rfl (hb hby d_prog_16_method_4_138) rfl k) ?_
  show Goes _ _ _ _ T35 (mkF m 140 #[.val (.long t), .second, .val (.long hi), .second, .val (.long lo), .second, .val (.ref b1), .val (.long tt), .second, .val (.long hh), .second, .val (.int (17 : Int32)), .val (.int (40 : Int32)), .val (.long ((lo.toUInt64 >>> ((40 : Int32) &&& 0x3f).toInt64.toUInt64).toInt64)), .second] [(.int (17 : Int32)), (.ref b1)])
  refine Wk.getS X35 (host := "") (Or.inl (w_6 hw)) Via.refl OA rfl (hb hby d_prog_16_method_4_140) ?_
  intro T36 X36
  show Goes _ _ _ _ T36 (mkF m 143 #[.val (.long t), .second, .val (.long hi), .second, .val (.long lo), .second, .val (.ref b1), .val (.long tt), .second, .val (.long hh), .second, .val (.int (17 : Int32)), .val (.int (40 : Int32)), .val (.long ((lo.toUInt64 >>> ((40 : Int32) &&& 0x3f).toInt64.toUInt64).toInt64)), .second] [(.ref al), (.int (17 : Int32)), (.ref b1)])
  refine Goes.go (fun _ k => XS.lload X36.here X36.ex rfl (hb hby d_prog_16_method_4_143) rfl (XS.l2i X36.here X36.ex rfl (hb hby d_prog_16_method_4_145) rfl (XS.bipush X36.here X36.ex rfl (hb hby d_prog_16_method_4_146) (XS.iand X36.here X36.ex rfl (hb hby d_prog_16_method_4_148) rfl k)))) ?_
  show Goes _ _ _ _ T36 (mkF m 149 #[.val (.long t), .second, .val (.long hi), .second, .val (.long lo), .second, .val (.ref b1), .val (.long tt), .second, .val (.long hh), .second, .val (.int (17 : Int32)), .val (.int (40 : Int32)), .val (.long ((lo.toUInt64 >>> ((40 : Int32) &&& 0x3f).toInt64.toUInt64).toInt64)), .second] [(.int ((((lo.toUInt64 >>> ((40 : Int32) &&& 0x3f).toInt64.toUInt64).toInt64).toInt32) &&& (31 : Int32))), (.ref al), (.int (17 : Int32)), (.ref b1)])
  obtain ⟨y17, hy17⟩ : ∃ z : Int32, z = (((lo.toUInt64 >>> ((40 : Int32) &&& 0x3f).toInt64.toUInt64).toInt64).toInt32) := ⟨_, rfl⟩
  refine Goes.cast (show (mkF m 149 #[.val (.long t), .second, .val (.long hi), .second, .val (.long lo), .second, .val (.ref b1), .val (.long tt), .second, .val (.long hh), .second, .val (.int (17 : Int32)), .val (.int (40 : Int32)), .val (.long ((lo.toUInt64 >>> ((40 : Int32) &&& 0x3f).toInt64.toUInt64).toInt64)), .second] [(.int ((((lo.toUInt64 >>> ((40 : Int32) &&& 0x3f).toInt64.toUInt64).toInt64).toInt32) &&& (31 : Int32))), (.ref al), (.int (17 : Int32)), (.ref b1)]) = (mkF m 149 #[.val (.long t), .second, .val (.long hi), .second, .val (.long lo), .second, .val (.ref b1), .val (.long tt), .second, .val (.long hh), .second, .val (.int (17 : Int32)), .val (.int (40 : Int32)), .val (.long ((lo.toUInt64 >>> ((40 : Int32) &&& 0x3f).toInt64.toUInt64).toInt64)), .second] [(.int (y17 &&& (31 : Int32))), (.ref al), (.int (17 : Int32)), (.ref b1)]) from by rw [hy17]) ?_
  show Goes _ _ _ _ T36 (mkF m 149 #[.val (.long t), .second, .val (.long hi), .second, .val (.long lo), .second, .val (.ref b1), .val (.long tt), .second, .val (.long hh), .second, .val (.int (17 : Int32)), .val (.int (40 : Int32)), .val (.long ((lo.toUInt64 >>> ((40 : Int32) &&& 0x3f).toInt64.toUInt64).toInt64)), .second] [(.int (y17 &&& (31 : Int32))), (.ref al), (.int (17 : Int32)), (.ref b1)])
  refine Goes.go (X36.caload (VA.ext X36.old) (own_b31 y17) (own_symv y17) rfl rfl (hb hby d_prog_16_method_4_149)) ?_
  show Goes _ _ _ _ T36 (mkF m 150 #[.val (.long t), .second, .val (.long hi), .second, .val (.long lo), .second, .val (.ref b1), .val (.long tt), .second, .val (.long hh), .second, .val (.int (17 : Int32)), .val (.int (40 : Int32)), .val (.long ((lo.toUInt64 >>> ((40 : Int32) &&& 0x3f).toInt64.toUInt64).toInt64)), .second] [(.int (own_sym y17)), (.int (17 : Int32)), (.ref b1)])
  refine Wk.castore (hm' := fun _ => h0) X36 V_b1 ⟨by decide, by decide⟩ (i := 17) rfl (Nat.le_of_ble_eq_true rfl) gz_b1 (fun _ => Mark.stay (allS gm_b1 all0)) rfl rfl (hb hby d_prog_16_method_4_150) ?_
  intro T37 h37 X37 W37 V37
  clear V_b1; have V_b1 : Arv Z h37 b1 _ .char (26 : Int32) [(.int (nar .char (own_sym y0))), (.int (nar .char (own_sym y1))), (.int (nar .char (own_sym y2))), (.int (nar .char (own_sym y3))), (.int (nar .char (own_sym y4))), (.int (nar .char (own_sym y5))), (.int (nar .char (own_sym y6))), (.int (nar .char (own_sym y7))), (.int (nar .char (own_sym y8))), (.int (nar .char (own_sym y9))), (.int (nar .char (own_sym y10))), (.int (nar .char (own_sym y11))), (.int (nar .char (own_sym y12))), (.int (nar .char (own_sym y13))), (.int (nar .char (own_sym y14))), (.int (nar .char (own_sym y15))), (.int (nar .char (own_sym y16))), (.int (nar .char (own_sym y17))), (.int (0 : Int32)), (.int (0 : Int32)), (.int (0 : Int32)), (.int (0 : Int32)), (.int (0 : Int32)), (.int (0 : Int32)), (.int (0 : Int32)), (.int (0 : Int32))] (.int (0 : Int32)) := V37
  show Goes _ _ _ _ T37 (mkF m 151 #[.val (.long t), .second, .val (.long hi), .second, .val (.long lo), .second, .val (.ref b1), .val (.long tt), .second, .val (.long hh), .second, .val (.int (17 : Int32)), .val (.int (40 : Int32)), .val (.long ((lo.toUInt64 >>> ((40 : Int32) &&& 0x3f).toInt64.toUInt64).toInt64)), .second] [])
  refine Goes.go (fun _ k => XS.iinc X37.here X37.ex rfl (hb hby d_prog_16_method_4_151) rfl (l' := #[.val (.long t), .second, .val (.long hi), .second, .val (.long lo), .second, .val (.ref b1), .val (.long tt), .second, .val (.long hh), .second, .val (.int ((17 : Int32) + (1 : Int32))), .val (.int (40 : Int32)), .val (.long ((lo.toUInt64 >>> ((40 : Int32) &&& 0x3f).toInt64.toUInt64).toInt64)), .second]) rfl k) ?_
  show Goes _ _ _ _ T37 (mkF m 154 #[.val (.long t), .second, .val (.long hi), .second, .val (.long lo), .second, .val (.ref b1), .val (.long tt), .second, .val (.long hh), .second, .val (.int ((17 : Int32) + (1 : Int32))), .val (.int (40 : Int32)), .val (.long ((lo.toUInt64 >>> ((40 : Int32) &&& 0x3f).toInt64.toUInt64).toInt64)), .second] [])
  refine Goes.cast (congrArg (fun zq_ => (mkF m 154 #[.val (.long t), .second, .val (.long hi), .second, .val (.long lo), .second, .val (.ref b1), .val (.long tt), .second, .val (.long hh), .second, .val (.int zq_), .val (.int (40 : Int32)), .val (.long ((lo.toUInt64 >>> ((40 : Int32) &&& 0x3f).toInt64.toUInt64).toInt64)), .second] [])) (show (((17 : Int32) + (1 : Int32)) : Int32) = (18 : Int32) from by decide)) ?_
  show Goes _ _ _ _ T37 (mkF m 154 #[.val (.long t), .second, .val (.long hi), .second, .val (.long lo), .second, .val (.ref b1), .val (.long tt), .second, .val (.long hh), .second, .val (.int (18 : Int32)), .val (.int (40 : Int32)), .val (.long ((lo.toUInt64 >>> ((40 : Int32) &&& 0x3f).toInt64.toUInt64).toInt64)), .second] [])
  refine Goes.go (fun _ k => XS.goto X37.here X37.ex rfl (pc0 := 154) (pc' := 67) rfl (hb hby d_prog_16_method_4_154) (by decide) (by decide) (XS.iload X37.here X37.ex rfl (hb hby d_prog_16_method_4_67) rfl (XS.bipush X37.here X37.ex rfl (hb hby d_prog_16_method_4_69) (XS.icmpNo X37.here X37.ex rfl (hb hby d_prog_16_method_4_71) rfl (cd_f (cd := .ge) (x := (18 : Int32)) (y := (26 : Int32)) (by decide)) (XS.iconst X37.here X37.ex rfl (hb hby d_prog_16_method_4_74) (XS.bipush X37.here X37.ex rfl (hb hby d_prog_16_method_4_75) k)))))) ?_
  show Goes _ _ _ _ T37 (mkF m 77 #[.val (.long t), .second, .val (.long hi), .second, .val (.long lo), .second, .val (.ref b1), .val (.long tt), .second, .val (.long hh), .second, .val (.int (18 : Int32)), .val (.int (40 : Int32)), .val (.long ((lo.toUInt64 >>> ((40 : Int32) &&& 0x3f).toInt64.toUInt64).toInt64)), .second] [(.int (25 : Int32)), (.int (5 : Int32))])
  refine Goes.go (fun _ k => XS.iload X37.here X37.ex rfl (hb hby d_prog_16_method_4_77) rfl (XS.isub X37.here X37.ex rfl (hb hby d_prog_16_method_4_79) rfl k)) ?_
  show Goes _ _ _ _ T37 (mkF m 80 #[.val (.long t), .second, .val (.long hi), .second, .val (.long lo), .second, .val (.ref b1), .val (.long tt), .second, .val (.long hh), .second, .val (.int (18 : Int32)), .val (.int (40 : Int32)), .val (.long ((lo.toUInt64 >>> ((40 : Int32) &&& 0x3f).toInt64.toUInt64).toInt64)), .second] [(.int ((25 : Int32) - (18 : Int32))), (.int (5 : Int32))])
  refine Goes.cast (congrArg (fun zq_ => (mkF m 80 #[.val (.long t), .second, .val (.long hi), .second, .val (.long lo), .second, .val (.ref b1), .val (.long tt), .second, .val (.long hh), .second, .val (.int (18 : Int32)), .val (.int (40 : Int32)), .val (.long ((lo.toUInt64 >>> ((40 : Int32) &&& 0x3f).toInt64.toUInt64).toInt64)), .second] [(.int zq_), (.int (5 : Int32))])) (show (((25 : Int32) - (18 : Int32)) : Int32) = (7 : Int32) from by decide)) ?_
  show Goes _ _ _ _ T37 (mkF m 80 #[.val (.long t), .second, .val (.long hi), .second, .val (.long lo), .second, .val (.ref b1), .val (.long tt), .second, .val (.long hh), .second, .val (.int (18 : Int32)), .val (.int (40 : Int32)), .val (.long ((lo.toUInt64 >>> ((40 : Int32) &&& 0x3f).toInt64.toUInt64).toInt64)), .second] [(.int (7 : Int32)), (.int (5 : Int32))])
  refine Goes.go (fun _ k => XS.imul X37.here X37.ex rfl (hb hby d_prog_16_method_4_80) rfl k) ?_
  show Goes _ _ _ _ T37 (mkF m 81 #[.val (.long t), .second, .val (.long hi), .second, .val (.long lo), .second, .val (.ref b1), .val (.long tt), .second, .val (.long hh), .second, .val (.int (18 : Int32)), .val (.int (40 : Int32)), .val (.long ((lo.toUInt64 >>> ((40 : Int32) &&& 0x3f).toInt64.toUInt64).toInt64)), .second] [(.int ((5 : Int32) * (7 : Int32)))])
  refine Goes.cast (congrArg (fun zq_ => (mkF m 81 #[.val (.long t), .second, .val (.long hi), .second, .val (.long lo), .second, .val (.ref b1), .val (.long tt), .second, .val (.long hh), .second, .val (.int (18 : Int32)), .val (.int (40 : Int32)), .val (.long ((lo.toUInt64 >>> ((40 : Int32) &&& 0x3f).toInt64.toUInt64).toInt64)), .second] [(.int zq_)])) (show (((5 : Int32) * (7 : Int32)) : Int32) = (35 : Int32) from by decide)) ?_
  show Goes _ _ _ _ T37 (mkF m 81 #[.val (.long t), .second, .val (.long hi), .second, .val (.long lo), .second, .val (.ref b1), .val (.long tt), .second, .val (.long hh), .second, .val (.int (18 : Int32)), .val (.int (40 : Int32)), .val (.long ((lo.toUInt64 >>> ((40 : Int32) &&& 0x3f).toInt64.toUInt64).toInt64)), .second] [(.int (35 : Int32))])
  refine Goes.go (fun _ k => XS.istore X37.here X37.ex rfl (hb hby d_prog_16_method_4_81) rfl (l' := #[.val (.long t), .second, .val (.long hi), .second, .val (.long lo), .second, .val (.ref b1), .val (.long tt), .second, .val (.long hh), .second, .val (.int (18 : Int32)), .val (.int (35 : Int32)), .val (.long ((lo.toUInt64 >>> ((40 : Int32) &&& 0x3f).toInt64.toUInt64).toInt64)), .second]) rfl (XS.iload X37.here X37.ex rfl (hb hby d_prog_16_method_4_83) rfl (XS.bipush X37.here X37.ex rfl (hb hby d_prog_16_method_4_85) (XS.icmpYes X37.here X37.ex rfl (pc0 := 87) (pc' := 103) rfl (hb hby d_prog_16_method_4_87) rfl (cd_t (cd := .lt) (x := (35 : Int32)) (y := (64 : Int32)) (by decide)) (by decide) (by decide) (XS.iload X37.here X37.ex rfl (hb hby d_prog_16_method_4_103) rfl (XS.bipush X37.here X37.ex rfl (hb hby d_prog_16_method_4_105) k)))))) ?_
  show Goes _ _ _ _ T37 (mkF m 107 #[.val (.long t), .second, .val (.long hi), .second, .val (.long lo), .second, .val (.ref b1), .val (.long tt), .second, .val (.long hh), .second, .val (.int (18 : Int32)), .val (.int (35 : Int32)), .val (.long ((lo.toUInt64 >>> ((40 : Int32) &&& 0x3f).toInt64.toUInt64).toInt64)), .second] [(.int (59 : Int32)), (.int (35 : Int32))])
  refine Goes.go (fun _ k => XS.icmpYes X37.here X37.ex rfl (pc0 := 107) (pc' := 129) rfl (hb hby d_prog_16_method_4_107) rfl (cd_t (cd := .le) (x := (35 : Int32)) (y := (59 : Int32)) (by decide)) (by decide) (by decide) (XS.lload X37.here X37.ex rfl (hb hby d_prog_16_method_4_129) rfl (XS.iload X37.here X37.ex rfl (hb hby d_prog_16_method_4_131) rfl (XS.lushr X37.here X37.ex rfl (hb hby d_prog_16_method_4_133) rfl (XS.lstore X37.here X37.ex rfl (hb hby d_prog_16_method_4_134) rfl (l' := #[.val (.long t), .second, .val (.long hi), .second, .val (.long lo), .second, .val (.ref b1), .val (.long tt), .second, .val (.long hh), .second, .val (.int (18 : Int32)), .val (.int (35 : Int32)), .val (.long ((lo.toUInt64 >>> ((35 : Int32) &&& 0x3f).toInt64.toUInt64).toInt64)), .second]) rfl (XS.aload X37.here X37.ex rfl (hb hby d_prog_16_method_4_136) rfl rfl k)))))) ?_
  show Goes _ _ _ _ T37 (mkF m 138 #[.val (.long t), .second, .val (.long hi), .second, .val (.long lo), .second, .val (.ref b1), .val (.long tt), .second, .val (.long hh), .second, .val (.int (18 : Int32)), .val (.int (35 : Int32)), .val (.long ((lo.toUInt64 >>> ((35 : Int32) &&& 0x3f).toInt64.toUInt64).toInt64)), .second] [(.ref b1)])
  refine Goes.go (fun _ k => XS.iload X37.here X37.ex rfl (hb hby d_prog_16_method_4_138) rfl k) ?_
  show Goes _ _ _ _ T37 (mkF m 140 #[.val (.long t), .second, .val (.long hi), .second, .val (.long lo), .second, .val (.ref b1), .val (.long tt), .second, .val (.long hh), .second, .val (.int (18 : Int32)), .val (.int (35 : Int32)), .val (.long ((lo.toUInt64 >>> ((35 : Int32) &&& 0x3f).toInt64.toUInt64).toInt64)), .second] [(.int (18 : Int32)), (.ref b1)])
  refine Wk.getS X37 (host := "") (Or.inl (w_6 hw)) Via.refl OA rfl (hb hby d_prog_16_method_4_140) ?_
  intro T38 X38
  show Goes _ _ _ _ T38 (mkF m 143 #[.val (.long t), .second, .val (.long hi), .second, .val (.long lo), .second, .val (.ref b1), .val (.long tt), .second, .val (.long hh), .second, .val (.int (18 : Int32)), .val (.int (35 : Int32)), .val (.long ((lo.toUInt64 >>> ((35 : Int32) &&& 0x3f).toInt64.toUInt64).toInt64)), .second] [(.ref al), (.int (18 : Int32)), (.ref b1)])
  refine Goes.go (fun _ k => XS.lload X38.here X38.ex rfl (hb hby d_prog_16_method_4_143) rfl (XS.l2i X38.here X38.ex rfl (hb hby d_prog_16_method_4_145) rfl (XS.bipush X38.here X38.ex rfl (hb hby d_prog_16_method_4_146) (XS.iand X38.here X38.ex rfl (hb hby d_prog_16_method_4_148) rfl k)))) ?_
  show Goes _ _ _ _ T38 (mkF m 149 #[.val (.long t), .second, .val (.long hi), .second, .val (.long lo), .second, .val (.ref b1), .val (.long tt), .second, .val (.long hh), .second, .val (.int (18 : Int32)), .val (.int (35 : Int32)), .val (.long ((lo.toUInt64 >>> ((35 : Int32) &&& 0x3f).toInt64.toUInt64).toInt64)), .second] [(.int ((((lo.toUInt64 >>> ((35 : Int32) &&& 0x3f).toInt64.toUInt64).toInt64).toInt32) &&& (31 : Int32))), (.ref al), (.int (18 : Int32)), (.ref b1)])
  obtain ⟨y18, hy18⟩ : ∃ z : Int32, z = (((lo.toUInt64 >>> ((35 : Int32) &&& 0x3f).toInt64.toUInt64).toInt64).toInt32) := ⟨_, rfl⟩
  refine Goes.cast (show (mkF m 149 #[.val (.long t), .second, .val (.long hi), .second, .val (.long lo), .second, .val (.ref b1), .val (.long tt), .second, .val (.long hh), .second, .val (.int (18 : Int32)), .val (.int (35 : Int32)), .val (.long ((lo.toUInt64 >>> ((35 : Int32) &&& 0x3f).toInt64.toUInt64).toInt64)), .second] [(.int ((((lo.toUInt64 >>> ((35 : Int32) &&& 0x3f).toInt64.toUInt64).toInt64).toInt32) &&& (31 : Int32))), (.ref al), (.int (18 : Int32)), (.ref b1)]) = (mkF m 149 #[.val (.long t), .second, .val (.long hi), .second, .val (.long lo), .second, .val (.ref b1), .val (.long tt), .second, .val (.long hh), .second, .val (.int (18 : Int32)), .val (.int (35 : Int32)), .val (.long ((lo.toUInt64 >>> ((35 : Int32) &&& 0x3f).toInt64.toUInt64).toInt64)), .second] [(.int (y18 &&& (31 : Int32))), (.ref al), (.int (18 : Int32)), (.ref b1)]) from by rw [hy18]) ?_
  show Goes _ _ _ _ T38 (mkF m 149 #[.val (.long t), .second, .val (.long hi), .second, .val (.long lo), .second, .val (.ref b1), .val (.long tt), .second, .val (.long hh), .second, .val (.int (18 : Int32)), .val (.int (35 : Int32)), .val (.long ((lo.toUInt64 >>> ((35 : Int32) &&& 0x3f).toInt64.toUInt64).toInt64)), .second] [(.int (y18 &&& (31 : Int32))), (.ref al), (.int (18 : Int32)), (.ref b1)])
  refine Goes.go (X38.caload (VA.ext X38.old) (own_b31 y18) (own_symv y18) rfl rfl (hb hby d_prog_16_method_4_149)) ?_
  show Goes _ _ _ _ T38 (mkF m 150 #[.val (.long t), .second, .val (.long hi), .second, .val (.long lo), .second, .val (.ref b1), .val (.long tt), .second, .val (.long hh), .second, .val (.int (18 : Int32)), .val (.int (35 : Int32)), .val (.long ((lo.toUInt64 >>> ((35 : Int32) &&& 0x3f).toInt64.toUInt64).toInt64)), .second] [(.int (own_sym y18)), (.int (18 : Int32)), (.ref b1)])
  refine Wk.castore (hm' := fun _ => h0) X38 V_b1 ⟨by decide, by decide⟩ (i := 18) rfl (Nat.le_of_ble_eq_true rfl) gz_b1 (fun _ => Mark.stay (allS gm_b1 all0)) rfl rfl (hb hby d_prog_16_method_4_150) ?_
  intro T39 h39 X39 W39 V39
  clear V_b1; have V_b1 : Arv Z h39 b1 _ .char (26 : Int32) [(.int (nar .char (own_sym y0))), (.int (nar .char (own_sym y1))), (.int (nar .char (own_sym y2))), (.int (nar .char (own_sym y3))), (.int (nar .char (own_sym y4))), (.int (nar .char (own_sym y5))), (.int (nar .char (own_sym y6))), (.int (nar .char (own_sym y7))), (.int (nar .char (own_sym y8))), (.int (nar .char (own_sym y9))), (.int (nar .char (own_sym y10))), (.int (nar .char (own_sym y11))), (.int (nar .char (own_sym y12))), (.int (nar .char (own_sym y13))), (.int (nar .char (own_sym y14))), (.int (nar .char (own_sym y15))), (.int (nar .char (own_sym y16))), (.int (nar .char (own_sym y17))), (.int (nar .char (own_sym y18))), (.int (0 : Int32)), (.int (0 : Int32)), (.int (0 : Int32)), (.int (0 : Int32)), (.int (0 : Int32)), (.int (0 : Int32)), (.int (0 : Int32))] (.int (0 : Int32)) := V39
  show Goes _ _ _ _ T39 (mkF m 151 #[.val (.long t), .second, .val (.long hi), .second, .val (.long lo), .second, .val (.ref b1), .val (.long tt), .second, .val (.long hh), .second, .val (.int (18 : Int32)), .val (.int (35 : Int32)), .val (.long ((lo.toUInt64 >>> ((35 : Int32) &&& 0x3f).toInt64.toUInt64).toInt64)), .second] [])
  refine Goes.go (fun _ k => XS.iinc X39.here X39.ex rfl (hb hby d_prog_16_method_4_151) rfl (l' := #[.val (.long t), .second, .val (.long hi), .second, .val (.long lo), .second, .val (.ref b1), .val (.long tt), .second, .val (.long hh), .second, .val (.int ((18 : Int32) + (1 : Int32))), .val (.int (35 : Int32)), .val (.long ((lo.toUInt64 >>> ((35 : Int32) &&& 0x3f).toInt64.toUInt64).toInt64)), .second]) rfl k) ?_
  show Goes _ _ _ _ T39 (mkF m 154 #[.val (.long t), .second, .val (.long hi), .second, .val (.long lo), .second, .val (.ref b1), .val (.long tt), .second, .val (.long hh), .second, .val (.int ((18 : Int32) + (1 : Int32))), .val (.int (35 : Int32)), .val (.long ((lo.toUInt64 >>> ((35 : Int32) &&& 0x3f).toInt64.toUInt64).toInt64)), .second] [])
  refine Goes.cast (congrArg (fun zq_ => (mkF m 154 #[.val (.long t), .second, .val (.long hi), .second, .val (.long lo), .second, .val (.ref b1), .val (.long tt), .second, .val (.long hh), .second, .val (.int zq_), .val (.int (35 : Int32)), .val (.long ((lo.toUInt64 >>> ((35 : Int32) &&& 0x3f).toInt64.toUInt64).toInt64)), .second] [])) (show (((18 : Int32) + (1 : Int32)) : Int32) = (19 : Int32) from by decide)) ?_
  show Goes _ _ _ _ T39 (mkF m 154 #[.val (.long t), .second, .val (.long hi), .second, .val (.long lo), .second, .val (.ref b1), .val (.long tt), .second, .val (.long hh), .second, .val (.int (19 : Int32)), .val (.int (35 : Int32)), .val (.long ((lo.toUInt64 >>> ((35 : Int32) &&& 0x3f).toInt64.toUInt64).toInt64)), .second] [])
  refine Goes.go (fun _ k => XS.goto X39.here X39.ex rfl (pc0 := 154) (pc' := 67) rfl (hb hby d_prog_16_method_4_154) (by decide) (by decide) (XS.iload X39.here X39.ex rfl (hb hby d_prog_16_method_4_67) rfl (XS.bipush X39.here X39.ex rfl (hb hby d_prog_16_method_4_69) (XS.icmpNo X39.here X39.ex rfl (hb hby d_prog_16_method_4_71) rfl (cd_f (cd := .ge) (x := (19 : Int32)) (y := (26 : Int32)) (by decide)) (XS.iconst X39.here X39.ex rfl (hb hby d_prog_16_method_4_74) (XS.bipush X39.here X39.ex rfl (hb hby d_prog_16_method_4_75) k)))))) ?_
  show Goes _ _ _ _ T39 (mkF m 77 #[.val (.long t), .second, .val (.long hi), .second, .val (.long lo), .second, .val (.ref b1), .val (.long tt), .second, .val (.long hh), .second, .val (.int (19 : Int32)), .val (.int (35 : Int32)), .val (.long ((lo.toUInt64 >>> ((35 : Int32) &&& 0x3f).toInt64.toUInt64).toInt64)), .second] [(.int (25 : Int32)), (.int (5 : Int32))])
  refine Goes.go (fun _ k => XS.iload X39.here X39.ex rfl (hb hby d_prog_16_method_4_77) rfl (XS.isub X39.here X39.ex rfl (hb hby d_prog_16_method_4_79) rfl k)) ?_
  show Goes _ _ _ _ T39 (mkF m 80 #[.val (.long t), .second, .val (.long hi), .second, .val (.long lo), .second, .val (.ref b1), .val (.long tt), .second, .val (.long hh), .second, .val (.int (19 : Int32)), .val (.int (35 : Int32)), .val (.long ((lo.toUInt64 >>> ((35 : Int32) &&& 0x3f).toInt64.toUInt64).toInt64)), .second] [(.int ((25 : Int32) - (19 : Int32))), (.int (5 : Int32))])
  refine Goes.cast (congrArg (fun zq_ => (mkF m 80 #[.val (.long t), .second, .val (.long hi), .second, .val (.long lo), .second, .val (.ref b1), .val (.long tt), .second, .val (.long hh), .second, .val (.int (19 : Int32)), .val (.int (35 : Int32)), .val (.long ((lo.toUInt64 >>> ((35 : Int32) &&& 0x3f).toInt64.toUInt64).toInt64)), .second] [(.int zq_), (.int (5 : Int32))])) (show (((25 : Int32) - (19 : Int32)) : Int32) = (6 : Int32) from by decide)) ?_
  show Goes _ _ _ _ T39 (mkF m 80 #[.val (.long t), .second, .val (.long hi), .second, .val (.long lo), .second, .val (.ref b1), .val (.long tt), .second, .val (.long hh), .second, .val (.int (19 : Int32)), .val (.int (35 : Int32)), .val (.long ((lo.toUInt64 >>> ((35 : Int32) &&& 0x3f).toInt64.toUInt64).toInt64)), .second] [(.int (6 : Int32)), (.int (5 : Int32))])
  refine Goes.go (fun _ k => XS.imul X39.here X39.ex rfl (hb hby d_prog_16_method_4_80) rfl k) ?_
  show Goes _ _ _ _ T39 (mkF m 81 #[.val (.long t), .second, .val (.long hi), .second, .val (.long lo), .second, .val (.ref b1), .val (.long tt), .second, .val (.long hh), .second, .val (.int (19 : Int32)), .val (.int (35 : Int32)), .val (.long ((lo.toUInt64 >>> ((35 : Int32) &&& 0x3f).toInt64.toUInt64).toInt64)), .second] [(.int ((5 : Int32) * (6 : Int32)))])
  refine Goes.cast (congrArg (fun zq_ => (mkF m 81 #[.val (.long t), .second, .val (.long hi), .second, .val (.long lo), .second, .val (.ref b1), .val (.long tt), .second, .val (.long hh), .second, .val (.int (19 : Int32)), .val (.int (35 : Int32)), .val (.long ((lo.toUInt64 >>> ((35 : Int32) &&& 0x3f).toInt64.toUInt64).toInt64)), .second] [(.int zq_)])) (show (((5 : Int32) * (6 : Int32)) : Int32) = (30 : Int32) from by decide)) ?_
  show Goes _ _ _ _ T39 (mkF m 81 #[.val (.long t), .second, .val (.long hi), .second, .val (.long lo), .second, .val (.ref b1), .val (.long tt), .second, .val (.long hh), .second, .val (.int (19 : Int32)), .val (.int (35 : Int32)), .val (.long ((lo.toUInt64 >>> ((35 : Int32) &&& 0x3f).toInt64.toUInt64).toInt64)), .second] [(.int (30 : Int32))])
  refine Goes.go (fun _ k => XS.istore X39.here X39.ex rfl (hb hby d_prog_16_method_4_81) rfl (l' := #[.val (.long t), .second, .val (.long hi), .second, .val (.long lo), .second, .val (.ref b1), .val (.long tt), .second, .val (.long hh), .second, .val (.int (19 : Int32)), .val (.int (30 : Int32)), .val (.long ((lo.toUInt64 >>> ((35 : Int32) &&& 0x3f).toInt64.toUInt64).toInt64)), .second]) rfl (XS.iload X39.here X39.ex rfl (hb hby d_prog_16_method_4_83) rfl (XS.bipush X39.here X39.ex rfl (hb hby d_prog_16_method_4_85) (XS.icmpYes X39.here X39.ex rfl (pc0 := 87) (pc' := 103) rfl (hb hby d_prog_16_method_4_87) rfl (cd_t (cd := .lt) (x := (30 : Int32)) (y := (64 : Int32)) (by decide)) (by decide) (by decide) (XS.iload X39.here X39.ex rfl (hb hby d_prog_16_method_4_103) rfl (XS.bipush X39.here X39.ex rfl (hb hby d_prog_16_method_4_105) k)))))) ?_
  show Goes _ _ _ _ T39 (mkF m 107 #[.val (.long t), .second, .val (.long hi), .second, .val (.long lo), .second, .val (.ref b1), .val (.long tt), .second, .val (.long hh), .second, .val (.int (19 : Int32)), .val (.int (30 : Int32)), .val (.long ((lo.toUInt64 >>> ((35 : Int32) &&& 0x3f).toInt64.toUInt64).toInt64)), .second] [(.int (59 : Int32)), (.int (30 : Int32))])
  refine Goes.go (fun _ k => XS.icmpYes X39.here X39.ex rfl (pc0 := 107) (pc' := 129) rfl (hb hby d_prog_16_method_4_107) rfl (cd_t (cd := .le) (x := (30 : Int32)) (y := (59 : Int32)) (by decide)) (by decide) (by decide) (XS.lload X39.here X39.ex rfl (hb hby d_prog_16_method_4_129) rfl (XS.iload X39.here X39.ex rfl (hb hby d_prog_16_method_4_131) rfl (XS.lushr X39.here X39.ex rfl (hb hby d_prog_16_method_4_133) rfl (XS.lstore X39.here X39.ex rfl (hb hby d_prog_16_method_4_134) rfl (l' := #[.val (.long t), .second, .val (.long hi), .second, .val (.long lo), .second, .val (.ref b1), .val (.long tt), .second, .val (.long hh), .second, .val (.int (19 : Int32)), .val (.int (30 : Int32)), .val (.long ((lo.toUInt64 >>> ((30 : Int32) &&& 0x3f).toInt64.toUInt64).toInt64)), .second]) rfl (XS.aload X39.here X39.ex rfl (hb hby d_prog_16_method_4_136) rfl rfl k)))))) ?_
  show Goes _ _ _ _ T39 (mkF m 138 #[.val (.long t), .second, .val (.long hi), .second, .val (.long lo), .second, .val (.ref b1), .val (.long tt), .second, .val (.long hh), .second, .val (.int (19 : Int32)), .val (.int (30 : Int32)), .val (.long ((lo.toUInt64 >>> ((30 : Int32) &&& 0x3f).toInt64.toUInt64).toInt64)), .second] [(.ref b1)])
  refine Goes.go (fun _ k => XS.iload X39.here X39.ex rfl (hb hby d_prog_16_method_4_138) rfl k) ?_
  show Goes _ _ _ _ T39 (mkF m 140 #[.val (.long t), .second, .val (.long hi), .second, .val (.long lo), .second, .val (.ref b1), .val (.long tt), .second, .val (.long hh), .second, .val (.int (19 : Int32)), .val (.int (30 : Int32)), .val (.long ((lo.toUInt64 >>> ((30 : Int32) &&& 0x3f).toInt64.toUInt64).toInt64)), .second] [(.int (19 : Int32)), (.ref b1)])
  refine Wk.getS X39 (host := "") (Or.inl (w_6 hw)) Via.refl OA rfl (hb hby d_prog_16_method_4_140) ?_
  intro T40 X40
  show Goes _ _ _ _ T40 (mkF m 143 #[.val (.long t), .second, .val (.long hi), .second, .val (.long lo), .second, .val (.ref b1), .val (.long tt), .second, .val (.long hh), .second, .val (.int (19 : Int32)), .val (.int (30 : Int32)), .val (.long ((lo.toUInt64 >>> ((30 : Int32) &&& 0x3f).toInt64.toUInt64).toInt64)), .second] [(.ref al), (.int (19 : Int32)), (.ref b1)])
  refine Goes.go (fun _ k => XS.lload X40.here X40.ex rfl (hb hby d_prog_16_method_4_143) rfl (XS.l2i X40.here X40.ex rfl (hb hby d_prog_16_method_4_145) rfl (XS.bipush X40.here X40.ex rfl (hb hby d_prog_16_method_4_146) (XS.iand X40.here X40.ex rfl (hb hby d_prog_16_method_4_148) rfl k)))) ?_
  show Goes _ _ _ _ T40 (mkF m 149 #[.val (.long t), .second, .val (.long hi), .second, .val (.long lo), .second, .val (.ref b1), .val (.long tt), .second, .val (.long hh), .second, .val (.int (19 : Int32)), .val (.int (30 : Int32)), .val (.long ((lo.toUInt64 >>> ((30 : Int32) &&& 0x3f).toInt64.toUInt64).toInt64)), .second] [(.int ((((lo.toUInt64 >>> ((30 : Int32) &&& 0x3f).toInt64.toUInt64).toInt64).toInt32) &&& (31 : Int32))), (.ref al), (.int (19 : Int32)), (.ref b1)])
  obtain ⟨y19, hy19⟩ : ∃ z : Int32, z = (((lo.toUInt64 >>> ((30 : Int32) &&& 0x3f).toInt64.toUInt64).toInt64).toInt32) := ⟨_, rfl⟩
  refine Goes.cast (show (mkF m 149 #[.val (.long t), .second, .val (.long hi), .second, .val (.long lo), .second, .val (.ref b1), .val (.long tt), .second, .val (.long hh), .second, .val (.int (19 : Int32)), .val (.int (30 : Int32)), .val (.long ((lo.toUInt64 >>> ((30 : Int32) &&& 0x3f).toInt64.toUInt64).toInt64)), .second] [(.int ((((lo.toUInt64 >>> ((30 : Int32) &&& 0x3f).toInt64.toUInt64).toInt64).toInt32) &&& (31 : Int32))), (.ref al), (.int (19 : Int32)), (.ref b1)]) = (mkF m 149 #[.val (.long t), .second, .val (.long hi), .second, .val (.long lo), .second, .val (.ref b1), .val (.long tt), .second, .val (.long hh), .second, .val (.int (19 : Int32)), .val (.int (30 : Int32)), .val (.long ((lo.toUInt64 >>> ((30 : Int32) &&& 0x3f).toInt64.toUInt64).toInt64)), .second] [(.int (y19 &&& (31 : Int32))), (.ref al), (.int (19 : Int32)), (.ref b1)]) from by rw [hy19]) ?_
  show Goes _ _ _ _ T40 (mkF m 149 #[.val (.long t), .second, .val (.long hi), .second, .val (.long lo), .second, .val (.ref b1), .val (.long tt), .second, .val (.long hh), .second, .val (.int (19 : Int32)), .val (.int (30 : Int32)), .val (.long ((lo.toUInt64 >>> ((30 : Int32) &&& 0x3f).toInt64.toUInt64).toInt64)), .second] [(.int (y19 &&& (31 : Int32))), (.ref al), (.int (19 : Int32)), (.ref b1)])
  refine Goes.go (X40.caload (VA.ext X40.old) (own_b31 y19) (own_symv y19) rfl rfl (hb hby d_prog_16_method_4_149)) ?_
  show Goes _ _ _ _ T40 (mkF m 150 #[.val (.long t), .second, .val (.long hi), .second, .val (.long lo), .second, .val (.ref b1), .val (.long tt), .second, .val (.long hh), .second, .val (.int (19 : Int32)), .val (.int (30 : Int32)), .val (.long ((lo.toUInt64 >>> ((30 : Int32) &&& 0x3f).toInt64.toUInt64).toInt64)), .second] [(.int (own_sym y19)), (.int (19 : Int32)), (.ref b1)])
  refine Wk.castore (hm' := fun _ => h0) X40 V_b1 ⟨by decide, by decide⟩ (i := 19) rfl (Nat.le_of_ble_eq_true rfl) gz_b1 (fun _ => Mark.stay (allS gm_b1 all0)) rfl rfl (hb hby d_prog_16_method_4_150) ?_
  intro T41 h41 X41 W41 V41
  clear V_b1; have V_b1 : Arv Z h41 b1 _ .char (26 : Int32) [(.int (nar .char (own_sym y0))), (.int (nar .char (own_sym y1))), (.int (nar .char (own_sym y2))), (.int (nar .char (own_sym y3))), (.int (nar .char (own_sym y4))), (.int (nar .char (own_sym y5))), (.int (nar .char (own_sym y6))), (.int (nar .char (own_sym y7))), (.int (nar .char (own_sym y8))), (.int (nar .char (own_sym y9))), (.int (nar .char (own_sym y10))), (.int (nar .char (own_sym y11))), (.int (nar .char (own_sym y12))), (.int (nar .char (own_sym y13))), (.int (nar .char (own_sym y14))), (.int (nar .char (own_sym y15))), (.int (nar .char (own_sym y16))), (.int (nar .char (own_sym y17))), (.int (nar .char (own_sym y18))), (.int (nar .char (own_sym y19))), (.int (0 : Int32)), (.int (0 : Int32)), (.int (0 : Int32)), (.int (0 : Int32)), (.int (0 : Int32)), (.int (0 : Int32))] (.int (0 : Int32)) := V41
  show Goes _ _ _ _ T41 (mkF m 151 #[.val (.long t), .second, .val (.long hi), .second, .val (.long lo), .second, .val (.ref b1), .val (.long tt), .second, .val (.long hh), .second, .val (.int (19 : Int32)), .val (.int (30 : Int32)), .val (.long ((lo.toUInt64 >>> ((30 : Int32) &&& 0x3f).toInt64.toUInt64).toInt64)), .second] [])
  refine Goes.go (fun _ k => XS.iinc X41.here X41.ex rfl (hb hby d_prog_16_method_4_151) rfl (l' := #[.val (.long t), .second, .val (.long hi), .second, .val (.long lo), .second, .val (.ref b1), .val (.long tt), .second, .val (.long hh), .second, .val (.int ((19 : Int32) + (1 : Int32))), .val (.int (30 : Int32)), .val (.long ((lo.toUInt64 >>> ((30 : Int32) &&& 0x3f).toInt64.toUInt64).toInt64)), .second]) rfl k) ?_
  show Goes _ _ _ _ T41 (mkF m 154 #[.val (.long t), .second, .val (.long hi), .second, .val (.long lo), .second, .val (.ref b1), .val (.long tt), .second, .val (.long hh), .second, .val (.int ((19 : Int32) + (1 : Int32))), .val (.int (30 : Int32)), .val (.long ((lo.toUInt64 >>> ((30 : Int32) &&& 0x3f).toInt64.toUInt64).toInt64)), .second] [])
  refine Goes.cast (congrArg (fun zq_ => (mkF m 154 #[.val (.long t), .second, .val (.long hi), .second, .val (.long lo), .second, .val (.ref b1), .val (.long tt), .second, .val (.long hh), .second, .val (.int zq_), .val (.int (30 : Int32)), .val (.long ((lo.toUInt64 >>> ((30 : Int32) &&& 0x3f).toInt64.toUInt64).toInt64)), .second] [])) (show (((19 : Int32) + (1 : Int32)) : Int32) = (20 : Int32) from by decide)) ?_
  show Goes _ _ _ _ T41 (mkF m 154 #[.val (.long t), .second, .val (.long hi), .second, .val (.long lo), .second, .val (.ref b1), .val (.long tt), .second, .val (.long hh), .second, .val (.int (20 : Int32)), .val (.int (30 : Int32)), .val (.long ((lo.toUInt64 >>> ((30 : Int32) &&& 0x3f).toInt64.toUInt64).toInt64)), .second] [])
  refine Goes.go (fun _ k => XS.goto X41.here X41.ex rfl (pc0 := 154) (pc' := 67) rfl (hb hby d_prog_16_method_4_154) (by decide) (by decide) (XS.iload X41.here X41.ex rfl (hb hby d_prog_16_method_4_67) rfl (XS.bipush X41.here X41.ex rfl (hb hby d_prog_16_method_4_69) (XS.icmpNo X41.here X41.ex rfl (hb hby d_prog_16_method_4_71) rfl (cd_f (cd := .ge) (x := (20 : Int32)) (y := (26 : Int32)) (by decide)) (XS.iconst X41.here X41.ex rfl (hb hby d_prog_16_method_4_74) (XS.bipush X41.here X41.ex rfl (hb hby d_prog_16_method_4_75) k)))))) ?_
  show Goes _ _ _ _ T41 (mkF m 77 #[.val (.long t), .second, .val (.long hi), .second, .val (.long lo), .second, .val (.ref b1), .val (.long tt), .second, .val (.long hh), .second, .val (.int (20 : Int32)), .val (.int (30 : Int32)), .val (.long ((lo.toUInt64 >>> ((30 : Int32) &&& 0x3f).toInt64.toUInt64).toInt64)), .second] [(.int (25 : Int32)), (.int (5 : Int32))])
  refine Goes.go (fun _ k => XS.iload X41.here X41.ex rfl (hb hby d_prog_16_method_4_77) rfl (XS.isub X41.here X41.ex rfl (hb hby d_prog_16_method_4_79) rfl k)) ?_
  show Goes _ _ _ _ T41 (mkF m 80 #[.val (.long t), .second, .val (.long hi), .second, .val (.long lo), .second, .val (.ref b1), .val (.long tt), .second, .val (.long hh), .second, .val (.int (20 : Int32)), .val (.int (30 : Int32)), .val (.long ((lo.toUInt64 >>> ((30 : Int32) &&& 0x3f).toInt64.toUInt64).toInt64)), .second] [(.int ((25 : Int32) - (20 : Int32))), (.int (5 : Int32))])
  refine Goes.cast (congrArg (fun zq_ => (mkF m 80 #[.val (.long t), .second, .val (.long hi), .second, .val (.long lo), .second, .val (.ref b1), .val (.long tt), .second, .val (.long hh), .second, .val (.int (20 : Int32)), .val (.int (30 : Int32)), .val (.long ((lo.toUInt64 >>> ((30 : Int32) &&& 0x3f).toInt64.toUInt64).toInt64)), .second] [(.int zq_), (.int (5 : Int32))])) (show (((25 : Int32) - (20 : Int32)) : Int32) = (5 : Int32) from by decide)) ?_
  show Goes _ _ _ _ T41 (mkF m 80 #[.val (.long t), .second, .val (.long hi), .second, .val (.long lo), .second, .val (.ref b1), .val (.long tt), .second, .val (.long hh), .second, .val (.int (20 : Int32)), .val (.int (30 : Int32)), .val (.long ((lo.toUInt64 >>> ((30 : Int32) &&& 0x3f).toInt64.toUInt64).toInt64)), .second] [(.int (5 : Int32)), (.int (5 : Int32))])
  refine Goes.go (fun _ k => XS.imul X41.here X41.ex rfl (hb hby d_prog_16_method_4_80) rfl k) ?_
  show Goes _ _ _ _ T41 (mkF m 81 #[.val (.long t), .second, .val (.long hi), .second, .val (.long lo), .second, .val (.ref b1), .val (.long tt), .second, .val (.long hh), .second, .val (.int (20 : Int32)), .val (.int (30 : Int32)), .val (.long ((lo.toUInt64 >>> ((30 : Int32) &&& 0x3f).toInt64.toUInt64).toInt64)), .second] [(.int ((5 : Int32) * (5 : Int32)))])
  refine Goes.cast (congrArg (fun zq_ => (mkF m 81 #[.val (.long t), .second, .val (.long hi), .second, .val (.long lo), .second, .val (.ref b1), .val (.long tt), .second, .val (.long hh), .second, .val (.int (20 : Int32)), .val (.int (30 : Int32)), .val (.long ((lo.toUInt64 >>> ((30 : Int32) &&& 0x3f).toInt64.toUInt64).toInt64)), .second] [(.int zq_)])) (show (((5 : Int32) * (5 : Int32)) : Int32) = (25 : Int32) from by decide)) ?_
  show Goes _ _ _ _ T41 (mkF m 81 #[.val (.long t), .second, .val (.long hi), .second, .val (.long lo), .second, .val (.ref b1), .val (.long tt), .second, .val (.long hh), .second, .val (.int (20 : Int32)), .val (.int (30 : Int32)), .val (.long ((lo.toUInt64 >>> ((30 : Int32) &&& 0x3f).toInt64.toUInt64).toInt64)), .second] [(.int (25 : Int32))])
  refine Goes.go (fun _ k => XS.istore X41.here X41.ex rfl (hb hby d_prog_16_method_4_81) rfl (l' := #[.val (.long t), .second, .val (.long hi), .second, .val (.long lo), .second, .val (.ref b1), .val (.long tt), .second, .val (.long hh), .second, .val (.int (20 : Int32)), .val (.int (25 : Int32)), .val (.long ((lo.toUInt64 >>> ((30 : Int32) &&& 0x3f).toInt64.toUInt64).toInt64)), .second]) rfl (XS.iload X41.here X41.ex rfl (hb hby d_prog_16_method_4_83) rfl (XS.bipush X41.here X41.ex rfl (hb hby d_prog_16_method_4_85) (XS.icmpYes X41.here X41.ex rfl (pc0 := 87) (pc' := 103) rfl (hb hby d_prog_16_method_4_87) rfl (cd_t (cd := .lt) (x := (25 : Int32)) (y := (64 : Int32)) (by decide)) (by decide) (by decide) (XS.iload X41.here X41.ex rfl (hb hby d_prog_16_method_4_103) rfl (XS.bipush X41.here X41.ex rfl (hb hby d_prog_16_method_4_105) k)))))) ?_
  show Goes _ _ _ _ T41 (mkF m 107 #[.val (.long t), .second, .val (.long hi), .second, .val (.long lo), .second, .val (.ref b1), .val (.long tt), .second, .val (.long hh), .second, .val (.int (20 : Int32)), .val (.int (25 : Int32)), .val (.long ((lo.toUInt64 >>> ((30 : Int32) &&& 0x3f).toInt64.toUInt64).toInt64)), .second] [(.int (59 : Int32)), (.int (25 : Int32))])
  refine Goes.go (fun _ k => XS.icmpYes X41.here X41.ex rfl (pc0 := 107) (pc' := 129) rfl (hb hby d_prog_16_method_4_107) rfl (cd_t (cd := .le) (x := (25 : Int32)) (y := (59 : Int32)) (by decide)) (by decide) (by decide) (XS.lload X41.here X41.ex rfl (hb hby d_prog_16_method_4_129) rfl (XS.iload X41.here X41.ex rfl (hb hby d_prog_16_method_4_131) rfl (XS.lushr X41.here X41.ex rfl (hb hby d_prog_16_method_4_133) rfl (XS.lstore X41.here X41.ex rfl (hb hby d_prog_16_method_4_134) rfl (l' := #[.val (.long t), .second, .val (.long hi), .second, .val (.long lo), .second, .val (.ref b1), .val (.long tt), .second, .val (.long hh), .second, .val (.int (20 : Int32)), .val (.int (25 : Int32)), .val (.long ((lo.toUInt64 >>> ((25 : Int32) &&& 0x3f).toInt64.toUInt64).toInt64)), .second]) rfl (XS.aload X41.here X41.ex rfl (hb hby d_prog_16_method_4_136) rfl rfl k)))))) ?_
  show Goes _ _ _ _ T41 (mkF m 138 #[.val (.long t), .second, .val (.long hi), .second, .val (.long lo), .second, .val (.ref b1), .val (.long tt), .second, .val (.long hh), .second, .val (.int (20 : Int32)), .val (.int (25 : Int32)), .val (.long ((lo.toUInt64 >>> ((25 : Int32) &&& 0x3f).toInt64.toUInt64).toInt64)), .second] [(.ref b1)])
  refine Goes.go (fun _ k => XS.iload X41.here X41.ex rfl (hb hby d_prog_16_method_4_138) rfl k) ?_
  show Goes _ _ _ _ T41 (mkF m 140 #[.val (.long t), .second, .val (.long hi), .second, .val (.long lo), .second, .val (.ref b1), .val (.long tt), .second, .val (.long hh), .second, .val (.int (20 : Int32)), .val (.int (25 : Int32)), .val (.long ((lo.toUInt64 >>> ((25 : Int32) &&& 0x3f).toInt64.toUInt64).toInt64)), .second] [(.int (20 : Int32)), (.ref b1)])
  refine Wk.getS X41 (host := "") (Or.inl (w_6 hw)) Via.refl OA rfl (hb hby d_prog_16_method_4_140) ?_
  intro T42 X42
  show Goes _ _ _ _ T42 (mkF m 143 #[.val (.long t), .second, .val (.long hi), .second, .val (.long lo), .second, .val (.ref b1), .val (.long tt), .second, .val (.long hh), .second, .val (.int (20 : Int32)), .val (.int (25 : Int32)), .val (.long ((lo.toUInt64 >>> ((25 : Int32) &&& 0x3f).toInt64.toUInt64).toInt64)), .second] [(.ref al), (.int (20 : Int32)), (.ref b1)])
  refine Goes.go (fun _ k => XS.lload X42.here X42.ex rfl (hb hby d_prog_16_method_4_143) rfl (XS.l2i X42.here X42.ex rfl (hb hby d_prog_16_method_4_145) rfl (XS.bipush X42.here X42.ex rfl (hb hby d_prog_16_method_4_146) (XS.iand X42.here X42.ex rfl (hb hby d_prog_16_method_4_148) rfl k)))) ?_
  show Goes _ _ _ _ T42 (mkF m 149 #[.val (.long t), .second, .val (.long hi), .second, .val (.long lo), .second, .val (.ref b1), .val (.long tt), .second, .val (.long hh), .second, .val (.int (20 : Int32)), .val (.int (25 : Int32)), .val (.long ((lo.toUInt64 >>> ((25 : Int32) &&& 0x3f).toInt64.toUInt64).toInt64)), .second] [(.int ((((lo.toUInt64 >>> ((25 : Int32) &&& 0x3f).toInt64.toUInt64).toInt64).toInt32) &&& (31 : Int32))), (.ref al), (.int (20 : Int32)), (.ref b1)])
  obtain ⟨y20, hy20⟩ : ∃ z : Int32, z = (((lo.toUInt64 >>> ((25 : Int32) &&& 0x3f).toInt64.toUInt64).toInt64).toInt32) := ⟨_, rfl⟩
  refine Goes.cast (show (mkF m 149 #[.val (.long t), .second, .val (.long hi), .second, .val (.long lo), .second, .val (.ref b1), .val (.long tt), .second, .val (.long hh), .second, .val (.int (20 : Int32)), .val (.int (25 : Int32)), .val (.long ((lo.toUInt64 >>> ((25 : Int32) &&& 0x3f).toInt64.toUInt64).toInt64)), .second] [(.int ((((lo.toUInt64 >>> ((25 : Int32) &&& 0x3f).toInt64.toUInt64).toInt64).toInt32) &&& (31 : Int32))), (.ref al), (.int (20 : Int32)), (.ref b1)]) = (mkF m 149 #[.val (.long t), .second, .val (.long hi), .second, .val (.long lo), .second, .val (.ref b1), .val (.long tt), .second, .val (.long hh), .second, .val (.int (20 : Int32)), .val (.int (25 : Int32)), .val (.long ((lo.toUInt64 >>> ((25 : Int32) &&& 0x3f).toInt64.toUInt64).toInt64)), .second] [(.int (y20 &&& (31 : Int32))), (.ref al), (.int (20 : Int32)), (.ref b1)]) from by rw [hy20]) ?_
  show Goes _ _ _ _ T42 (mkF m 149 #[.val (.long t), .second, .val (.long hi), .second, .val (.long lo), .second, .val (.ref b1), .val (.long tt), .second, .val (.long hh), .second, .val (.int (20 : Int32)), .val (.int (25 : Int32)), .val (.long ((lo.toUInt64 >>> ((25 : Int32) &&& 0x3f).toInt64.toUInt64).toInt64)), .second] [(.int (y20 &&& (31 : Int32))), (.ref al), (.int (20 : Int32)), (.ref b1)])
  refine Goes.go (X42.caload (VA.ext X42.old) (own_b31 y20) (own_symv y20) rfl rfl (hb hby d_prog_16_method_4_149)) ?_
  show Goes _ _ _ _ T42 (mkF m 150 #[.val (.long t), .second, .val (.long hi), .second, .val (.long lo), .second, .val (.ref b1), .val (.long tt), .second, .val (.long hh), .second, .val (.int (20 : Int32)), .val (.int (25 : Int32)), .val (.long ((lo.toUInt64 >>> ((25 : Int32) &&& 0x3f).toInt64.toUInt64).toInt64)), .second] [(.int (own_sym y20)), (.int (20 : Int32)), (.ref b1)])
  refine Wk.castore (hm' := fun _ => h0) X42 V_b1 ⟨by decide, by decide⟩ (i := 20) rfl (Nat.le_of_ble_eq_true rfl) gz_b1 (fun _ => Mark.stay (allS gm_b1 all0)) rfl rfl (hb hby d_prog_16_method_4_150) ?_
  intro T43 h43 X43 W43 V43
  clear V_b1; have V_b1 : Arv Z h43 b1 _ .char (26 : Int32) [(.int (nar .char (own_sym y0))), (.int (nar .char (own_sym y1))), (.int (nar .char (own_sym y2))), (.int (nar .char (own_sym y3))), (.int (nar .char (own_sym y4))), (.int (nar .char (own_sym y5))), (.int (nar .char (own_sym y6))), (.int (nar .char (own_sym y7))), (.int (nar .char (own_sym y8))), (.int (nar .char (own_sym y9))), (.int (nar .char (own_sym y10))), (.int (nar .char (own_sym y11))), (.int (nar .char (own_sym y12))), (.int (nar .char (own_sym y13))), (.int (nar .char (own_sym y14))), (.int (nar .char (own_sym y15))), (.int (nar .char (own_sym y16))), (.int (nar .char (own_sym y17))), (.int (nar .char (own_sym y18))), (.int (nar .char (own_sym y19))), (.int (nar .char (own_sym y20))), (.int (0 : Int32)), (.int (0 : Int32)), (.int (0 : Int32)), (.int (0 : Int32)), (.int (0 : Int32))] (.int (0 : Int32)) := V43
  show Goes _ _ _ _ T43 (mkF m 151 #[.val (.long t), .second, .val (.long hi), .second, .val (.long lo), .second, .val (.ref b1), .val (.long tt), .second, .val (.long hh), .second, .val (.int (20 : Int32)), .val (.int (25 : Int32)), .val (.long ((lo.toUInt64 >>> ((25 : Int32) &&& 0x3f).toInt64.toUInt64).toInt64)), .second] [])
  refine Goes.go (fun _ k => XS.iinc X43.here X43.ex rfl (hb hby d_prog_16_method_4_151) rfl (l' := #[.val (.long t), .second, .val (.long hi), .second, .val (.long lo), .second, .val (.ref b1), .val (.long tt), .second, .val (.long hh), .second, .val (.int ((20 : Int32) + (1 : Int32))), .val (.int (25 : Int32)), .val (.long ((lo.toUInt64 >>> ((25 : Int32) &&& 0x3f).toInt64.toUInt64).toInt64)), .second]) rfl k) ?_
  show Goes _ _ _ _ T43 (mkF m 154 #[.val (.long t), .second, .val (.long hi), .second, .val (.long lo), .second, .val (.ref b1), .val (.long tt), .second, .val (.long hh), .second, .val (.int ((20 : Int32) + (1 : Int32))), .val (.int (25 : Int32)), .val (.long ((lo.toUInt64 >>> ((25 : Int32) &&& 0x3f).toInt64.toUInt64).toInt64)), .second] [])
  refine Goes.cast (congrArg (fun zq_ => (mkF m 154 #[.val (.long t), .second, .val (.long hi), .second, .val (.long lo), .second, .val (.ref b1), .val (.long tt), .second, .val (.long hh), .second, .val (.int zq_), .val (.int (25 : Int32)), .val (.long ((lo.toUInt64 >>> ((25 : Int32) &&& 0x3f).toInt64.toUInt64).toInt64)), .second] [])) (show (((20 : Int32) + (1 : Int32)) : Int32) = (21 : Int32) from by decide)) ?_
  show Goes _ _ _ _ T43 (mkF m 154 #[.val (.long t), .second, .val (.long hi), .second, .val (.long lo), .second, .val (.ref b1), .val (.long tt), .second, .val (.long hh), .second, .val (.int (21 : Int32)), .val (.int (25 : Int32)), .val (.long ((lo.toUInt64 >>> ((25 : Int32) &&& 0x3f).toInt64.toUInt64).toInt64)), .second] [])
  refine Goes.go (fun _ k => XS.goto X43.here X43.ex rfl (pc0 := 154) (pc' := 67) rfl (hb hby d_prog_16_method_4_154) (by decide) (by decide) (XS.iload X43.here X43.ex rfl (hb hby d_prog_16_method_4_67) rfl (XS.bipush X43.here X43.ex rfl (hb hby d_prog_16_method_4_69) (XS.icmpNo X43.here X43.ex rfl (hb hby d_prog_16_method_4_71) rfl (cd_f (cd := .ge) (x := (21 : Int32)) (y := (26 : Int32)) (by decide)) (XS.iconst X43.here X43.ex rfl (hb hby d_prog_16_method_4_74) (XS.bipush X43.here X43.ex rfl (hb hby d_prog_16_method_4_75) k)))))) ?_
  show Goes _ _ _ _ T43 (mkF m 77 #[.val (.long t), .second, .val (.long hi), .second, .val (.long lo), .second, .val (.ref b1), .val (.long tt), .second, .val (.long hh), .second, .val (.int (21 : Int32)), .val (.int (25 : Int32)), .val (.long ((lo.toUInt64 >>> ((25 : Int32) &&& 0x3f).toInt64.toUInt64).toInt64)), .second] [(.int (25 : Int32)), (.int (5 : Int32))])
  refine Goes.go (fun _ k => XS.iload X43.here X43.ex rfl (hb hby d_prog_16_method_4_77) rfl (XS.isub X43.here X43.ex rfl (hb hby d_prog_16_method_4_79) rfl k)) ?_
  show Goes _ _ _ _ T43 (mkF m 80 #[.val (.long t), .second, .val (.long hi), .second, .val (.long lo), .second, .val (.ref b1), .val (.long tt), .second, .val (.long hh), .second, .val (.int (21 : Int32)), .val (.int (25 : Int32)), .val (.long ((lo.toUInt64 >>> ((25 : Int32) &&& 0x3f).toInt64.toUInt64).toInt64)), .second] [(.int ((25 : Int32) - (21 : Int32))), (.int (5 : Int32))])
  refine Goes.cast (congrArg (fun zq_ => (mkF m 80 #[.val (.long t), .second, .val (.long hi), .second, .val (.long lo), .second, .val (.ref b1), .val (.long tt), .second, .val (.long hh), .second, .val (.int (21 : Int32)), .val (.int (25 : Int32)), .val (.long ((lo.toUInt64 >>> ((25 : Int32) &&& 0x3f).toInt64.toUInt64).toInt64)), .second] [(.int zq_), (.int (5 : Int32))])) (show (((25 : Int32) - (21 : Int32)) : Int32) = (4 : Int32) from by decide)) ?_
  show Goes _ _ _ _ T43 (mkF m 80 #[.val (.long t), .second, .val (.long hi), .second, .val (.long lo), .second, .val (.ref b1), .val (.long tt), .second, .val (.long hh), .second, .val (.int (21 : Int32)), .val (.int (25 : Int32)), .val (.long ((lo.toUInt64 >>> ((25 : Int32) &&& 0x3f).toInt64.toUInt64).toInt64)), .second] [(.int (4 : Int32)), (.int (5 : Int32))])
  refine Goes.go (fun _ k => XS.imul X43.here X43.ex rfl (hb hby d_prog_16_method_4_80) rfl k) ?_
  show Goes _ _ _ _ T43 (mkF m 81 #[.val (.long t), .second, .val (.long hi), .second, .val (.long lo), .second, .val (.ref b1), .val (.long tt), .second, .val (.long hh), .second, .val (.int (21 : Int32)), .val (.int (25 : Int32)), .val (.long ((lo.toUInt64 >>> ((25 : Int32) &&& 0x3f).toInt64.toUInt64).toInt64)), .second] [(.int ((5 : Int32) * (4 : Int32)))])
  refine Goes.cast (congrArg (fun zq_ => (mkF m 81 #[.val (.long t), .second, .val (.long hi), .second, .val (.long lo), .second, .val (.ref b1), .val (.long tt), .second, .val (.long hh), .second, .val (.int (21 : Int32)), .val (.int (25 : Int32)), .val (.long ((lo.toUInt64 >>> ((25 : Int32) &&& 0x3f).toInt64.toUInt64).toInt64)), .second] [(.int zq_)])) (show (((5 : Int32) * (4 : Int32)) : Int32) = (20 : Int32) from by decide)) ?_
  show Goes _ _ _ _ T43 (mkF m 81 #[.val (.long t), .second, .val (.long hi), .second, .val (.long lo), .second, .val (.ref b1), .val (.long tt), .second, .val (.long hh), .second, .val (.int (21 : Int32)), .val (.int (25 : Int32)), .val (.long ((lo.toUInt64 >>> ((25 : Int32) &&& 0x3f).toInt64.toUInt64).toInt64)), .second] [(.int (20 : Int32))])
  refine Goes.go (fun _ k => XS.istore X43.here X43.ex rfl (hb hby d_prog_16_method_4_81) rfl (l' := #[.val (.long t), .second, .val (.long hi), .second, .val (.long lo), .second, .val (.ref b1), .val (.long tt), .second, .val (.long hh), .second, .val (.int (21 : Int32)), .val (.int (20 : Int32)), .val (.long ((lo.toUInt64 >>> ((25 : Int32) &&& 0x3f).toInt64.toUInt64).toInt64)), .second]) rfl (XS.iload X43.here X43.ex rfl (hb hby d_prog_16_method_4_83) rfl (XS.bipush X43.here X43.ex rfl (hb hby d_prog_16_method_4_85) (XS.icmpYes X43.here X43.ex rfl (pc0 := 87) (pc' := 103) rfl (hb hby d_prog_16_method_4_87) rfl (cd_t (cd := .lt) (x := (20 : Int32)) (y := (64 : Int32)) (by decide)) (by decide) (by decide) (XS.iload X43.here X43.ex rfl (hb hby d_prog_16_method_4_103) rfl (XS.bipush X43.here X43.ex rfl (hb hby d_prog_16_method_4_105) k)))))) ?_
  show Goes _ _ _ _ T43 (mkF m 107 #[.val (.long t), .second, .val (.long hi), .second, .val (.long lo), .second, .val (.ref b1), .val (.long tt), .second, .val (.long hh), .second, .val (.int (21 : Int32)), .val (.int (20 : Int32)), .val (.long ((lo.toUInt64 >>> ((25 : Int32) &&& 0x3f).toInt64.toUInt64).toInt64)), .second] [(.int (59 : Int32)), (.int (20 : Int32))])
  refine Goes.go (fun _ k => XS.icmpYes X43.here X43.ex rfl (pc0 := 107) (pc' := 129) rfl (hb hby d_prog_16_method_4_107) rfl (cd_t (cd := .le) (x := (20 : Int32)) (y := (59 : Int32)) (by decide)) (by decide) (by decide) (XS.lload X43.here X43.ex rfl (hb hby d_prog_16_method_4_129) rfl (XS.iload X43.here X43.ex rfl (hb hby d_prog_16_method_4_131) rfl (XS.lushr X43.here X43.ex rfl (hb hby d_prog_16_method_4_133) rfl (XS.lstore X43.here X43.ex rfl (hb hby d_prog_16_method_4_134) rfl (l' := #[.val (.long t), .second, .val (.long hi), .second, .val (.long lo), .second, .val (.ref b1), .val (.long tt), .second, .val (.long hh), .second, .val (.int (21 : Int32)), .val (.int (20 : Int32)), .val (.long ((lo.toUInt64 >>> ((20 : Int32) &&& 0x3f).toInt64.toUInt64).toInt64)), .second]) rfl (XS.aload X43.here X43.ex rfl (hb hby d_prog_16_method_4_136) rfl rfl k)))))) ?_
  show Goes _ _ _ _ T43 (mkF m 138 #[.val (.long t), .second, .val (.long hi), .second, .val (.long lo), .second, .val (.ref b1), .val (.long tt), .second, .val (.long hh), .second, .val (.int (21 : Int32)), .val (.int (20 : Int32)), .val (.long ((lo.toUInt64 >>> ((20 : Int32) &&& 0x3f).toInt64.toUInt64).toInt64)), .second] [(.ref b1)])
  refine Goes.go (fun _ k => XS.iload X43.here X43.ex rfl (hb hby d_prog_16_method_4_138) rfl k) ?_
  show Goes _ _ _ _ T43 (mkF m 140 #[.val (.long t), .second, .val (.long hi), .second, .val (.long lo), .second, .val (.ref b1), .val (.long tt), .second, .val (.long hh), .second, .val (.int (21 : Int32)), .val (.int (20 : Int32)), .val (.long ((lo.toUInt64 >>> ((20 : Int32) &&& 0x3f).toInt64.toUInt64).toInt64)), .second] [(.int (21 : Int32)), (.ref b1)])
  refine Wk.getS X43 (host := "") (Or.inl (w_6 hw)) Via.refl OA rfl (hb hby d_prog_16_method_4_140) ?_
  intro T44 X44
  show Goes _ _ _ _ T44 (mkF m 143 #[.val (.long t), .second, .val (.long hi), .second, .val (.long lo), .second, .val (.ref b1), .val (.long tt), .second, .val (.long hh), .second, .val (.int (21 : Int32)), .val (.int (20 : Int32)), .val (.long ((lo.toUInt64 >>> ((20 : Int32) &&& 0x3f).toInt64.toUInt64).toInt64)), .second] [(.ref al), (.int (21 : Int32)), (.ref b1)])
  refine Goes.go (fun _ k => XS.lload X44.here X44.ex rfl (hb hby d_prog_16_method_4_143) rfl (XS.l2i X44.here X44.ex rfl (hb hby d_prog_16_method_4_145) rfl (XS.bipush X44.here X44.ex rfl (hb hby d_prog_16_method_4_146) (XS.iand X44.here X44.ex rfl (hb hby d_prog_16_method_4_148) rfl k)))) ?_
  show Goes _ _ _ _ T44 (mkF m 149 #[.val (.long t), .second, .val (.long hi), .second, .val (.long lo), .second, .val (.ref b1), .val (.long tt), .second, .val (.long hh), .second, .val (.int (21 : Int32)), .val (.int (20 : Int32)), .val (.long ((lo.toUInt64 >>> ((20 : Int32) &&& 0x3f).toInt64.toUInt64).toInt64)), .second] [(.int ((((lo.toUInt64 >>> ((20 : Int32) &&& 0x3f).toInt64.toUInt64).toInt64).toInt32) &&& (31 : Int32))), (.ref al), (.int (21 : Int32)), (.ref b1)])
  obtain ⟨y21, hy21⟩ : ∃ z : Int32, z = (((lo.toUInt64 >>> ((20 : Int32) &&& 0x3f).toInt64.toUInt64).toInt64).toInt32) := ⟨_, rfl⟩
  refine Goes.cast (show (mkF m 149 #[.val (.long t), .second, .val (.long hi), .second, .val (.long lo), .second, .val (.ref b1), .val (.long tt), .second, .val (.long hh), .second, .val (.int (21 : Int32)), .val (.int (20 : Int32)), .val (.long ((lo.toUInt64 >>> ((20 : Int32) &&& 0x3f).toInt64.toUInt64).toInt64)), .second] [(.int ((((lo.toUInt64 >>> ((20 : Int32) &&& 0x3f).toInt64.toUInt64).toInt64).toInt32) &&& (31 : Int32))), (.ref al), (.int (21 : Int32)), (.ref b1)]) = (mkF m 149 #[.val (.long t), .second, .val (.long hi), .second, .val (.long lo), .second, .val (.ref b1), .val (.long tt), .second, .val (.long hh), .second, .val (.int (21 : Int32)), .val (.int (20 : Int32)), .val (.long ((lo.toUInt64 >>> ((20 : Int32) &&& 0x3f).toInt64.toUInt64).toInt64)), .second] [(.int (y21 &&& (31 : Int32))), (.ref al), (.int (21 : Int32)), (.ref b1)]) from by rw [hy21]) ?_
  show Goes _ _ _ _ T44 (mkF m 149 #[.val (.long t), .second, .val (.long hi), .second, .val (.long lo), .second, .val (.ref b1), .val (.long tt), .second, .val (.long hh), .second, .val (.int (21 : Int32)), .val (.int (20 : Int32)), .val (.long ((lo.toUInt64 >>> ((20 : Int32) &&& 0x3f).toInt64.toUInt64).toInt64)), .second] [(.int (y21 &&& (31 : Int32))), (.ref al), (.int (21 : Int32)), (.ref b1)])
  refine Goes.go (X44.caload (VA.ext X44.old) (own_b31 y21) (own_symv y21) rfl rfl (hb hby d_prog_16_method_4_149)) ?_
  show Goes _ _ _ _ T44 (mkF m 150 #[.val (.long t), .second, .val (.long hi), .second, .val (.long lo), .second, .val (.ref b1), .val (.long tt), .second, .val (.long hh), .second, .val (.int (21 : Int32)), .val (.int (20 : Int32)), .val (.long ((lo.toUInt64 >>> ((20 : Int32) &&& 0x3f).toInt64.toUInt64).toInt64)), .second] [(.int (own_sym y21)), (.int (21 : Int32)), (.ref b1)])
  refine Wk.castore (hm' := fun _ => h0) X44 V_b1 ⟨by decide, by decide⟩ (i := 21) rfl (Nat.le_of_ble_eq_true rfl) gz_b1 (fun _ => Mark.stay (allS gm_b1 all0)) rfl rfl (hb hby d_prog_16_method_4_150) ?_
  intro T45 h45 X45 W45 V45
  clear V_b1; have V_b1 : Arv Z h45 b1 _ .char (26 : Int32) [(.int (nar .char (own_sym y0))), (.int (nar .char (own_sym y1))), (.int (nar .char (own_sym y2))), (.int (nar .char (own_sym y3))), (.int (nar .char (own_sym y4))), (.int (nar .char (own_sym y5))), (.int (nar .char (own_sym y6))), (.int (nar .char (own_sym y7))), (.int (nar .char (own_sym y8))), (.int (nar .char (own_sym y9))), (.int (nar .char (own_sym y10))), (.int (nar .char (own_sym y11))), (.int (nar .char (own_sym y12))), (.int (nar .char (own_sym y13))), (.int (nar .char (own_sym y14))), (.int (nar .char (own_sym y15))), (.int (nar .char (own_sym y16))), (.int (nar .char (own_sym y17))), (.int (nar .char (own_sym y18))), (.int (nar .char (own_sym y19))), (.int (nar .char (own_sym y20))), (.int (nar .char (own_sym y21))), (.int (0 : Int32)), (.int (0 : Int32)), (.int (0 : Int32)), (.int (0 : Int32))] (.int (0 : Int32)) := V45
  show Goes _ _ _ _ T45 (mkF m 151 #[.val (.long t), .second, .val (.long hi), .second, .val (.long lo), .second, .val (.ref b1), .val (.long tt), .second, .val (.long hh), .second, .val (.int (21 : Int32)), .val (.int (20 : Int32)), .val (.long ((lo.toUInt64 >>> ((20 : Int32) &&& 0x3f).toInt64.toUInt64).toInt64)), .second] [])
  refine Goes.go (fun _ k => XS.iinc X45.here X45.ex rfl (hb hby d_prog_16_method_4_151) rfl (l' := #[.val (.long t), .second, .val (.long hi), .second, .val (.long lo), .second, .val (.ref b1), .val (.long tt), .second, .val (.long hh), .second, .val (.int ((21 : Int32) + (1 : Int32))), .val (.int (20 : Int32)), .val (.long ((lo.toUInt64 >>> ((20 : Int32) &&& 0x3f).toInt64.toUInt64).toInt64)), .second]) rfl k) ?_
  show Goes _ _ _ _ T45 (mkF m 154 #[.val (.long t), .second, .val (.long hi), .second, .val (.long lo), .second, .val (.ref b1), .val (.long tt), .second, .val (.long hh), .second, .val (.int ((21 : Int32) + (1 : Int32))), .val (.int (20 : Int32)), .val (.long ((lo.toUInt64 >>> ((20 : Int32) &&& 0x3f).toInt64.toUInt64).toInt64)), .second] [])
  refine Goes.cast (congrArg (fun zq_ => (mkF m 154 #[.val (.long t), .second, .val (.long hi), .second, .val (.long lo), .second, .val (.ref b1), .val (.long tt), .second, .val (.long hh), .second, .val (.int zq_), .val (.int (20 : Int32)), .val (.long ((lo.toUInt64 >>> ((20 : Int32) &&& 0x3f).toInt64.toUInt64).toInt64)), .second] [])) (show (((21 : Int32) + (1 : Int32)) : Int32) = (22 : Int32) from by decide)) ?_
  show Goes _ _ _ _ T45 (mkF m 154 #[.val (.long t), .second, .val (.long hi), .second, .val (.long lo), .second, .val (.ref b1), .val (.long tt), .second, .val (.long hh), .second, .val (.int (22 : Int32)), .val (.int (20 : Int32)), .val (.long ((lo.toUInt64 >>> ((20 : Int32) &&& 0x3f).toInt64.toUInt64).toInt64)), .second] [])
  refine Goes.go (fun _ k => XS.goto X45.here X45.ex rfl (pc0 := 154) (pc' := 67) rfl (hb hby d_prog_16_method_4_154) (by decide) (by decide) (XS.iload X45.here X45.ex rfl (hb hby d_prog_16_method_4_67) rfl (XS.bipush X45.here X45.ex rfl (hb hby d_prog_16_method_4_69) (XS.icmpNo X45.here X45.ex rfl (hb hby d_prog_16_method_4_71) rfl (cd_f (cd := .ge) (x := (22 : Int32)) (y := (26 : Int32)) (by decide)) (XS.iconst X45.here X45.ex rfl (hb hby d_prog_16_method_4_74) (XS.bipush X45.here X45.ex rfl (hb hby d_prog_16_method_4_75) k)))))) ?_
  show Goes _ _ _ _ T45 (mkF m 77 #[.val (.long t), .second, .val (.long hi), .second, .val (.long lo), .second, .val (.ref b1), .val (.long tt), .second, .val (.long hh), .second, .val (.int (22 : Int32)), .val (.int (20 : Int32)), .val (.long ((lo.toUInt64 >>> ((20 : Int32) &&& 0x3f).toInt64.toUInt64).toInt64)), .second] [(.int (25 : Int32)), (.int (5 : Int32))])
  refine Goes.go (fun _ k => XS.iload X45.here X45.ex rfl (hb hby d_prog_16_method_4_77) rfl (XS.isub X45.here X45.ex rfl (hb hby d_prog_16_method_4_79) rfl k)) ?_
  show Goes _ _ _ _ T45 (mkF m 80 #[.val (.long t), .second, .val (.long hi), .second, .val (.long lo), .second, .val (.ref b1), .val (.long tt), .second, .val (.long hh), .second, .val (.int (22 : Int32)), .val (.int (20 : Int32)), .val (.long ((lo.toUInt64 >>> ((20 : Int32) &&& 0x3f).toInt64.toUInt64).toInt64)), .second] [(.int ((25 : Int32) - (22 : Int32))), (.int (5 : Int32))])
  refine Goes.cast (congrArg (fun zq_ => (mkF m 80 #[.val (.long t), .second, .val (.long hi), .second, .val (.long lo), .second, .val (.ref b1), .val (.long tt), .second, .val (.long hh), .second, .val (.int (22 : Int32)), .val (.int (20 : Int32)), .val (.long ((lo.toUInt64 >>> ((20 : Int32) &&& 0x3f).toInt64.toUInt64).toInt64)), .second] [(.int zq_), (.int (5 : Int32))])) (show (((25 : Int32) - (22 : Int32)) : Int32) = (3 : Int32) from by decide)) ?_
  show Goes _ _ _ _ T45 (mkF m 80 #[.val (.long t), .second, .val (.long hi), .second, .val (.long lo), .second, .val (.ref b1), .val (.long tt), .second, .val (.long hh), .second, .val (.int (22 : Int32)), .val (.int (20 : Int32)), .val (.long ((lo.toUInt64 >>> ((20 : Int32) &&& 0x3f).toInt64.toUInt64).toInt64)), .second] [(.int (3 : Int32)), (.int (5 : Int32))])
  refine Goes.go (fun _ k => XS.imul X45.here X45.ex rfl (hb hby d_prog_16_method_4_80) rfl k) ?_
  show Goes _ _ _ _ T45 (mkF m 81 #[.val (.long t), .second, .val (.long hi), .second, .val (.long lo), .second, .val (.ref b1), .val (.long tt), .second, .val (.long hh), .second, .val (.int (22 : Int32)), .val (.int (20 : Int32)), .val (.long ((lo.toUInt64 >>> ((20 : Int32) &&& 0x3f).toInt64.toUInt64).toInt64)), .second] [(.int ((5 : Int32) * (3 : Int32)))])
  refine Goes.cast (congrArg (fun zq_ => (mkF m 81 #[.val (.long t), .second, .val (.long hi), .second, .val (.long lo), .second, .val (.ref b1), .val (.long tt), .second, .val (.long hh), .second, .val (.int (22 : Int32)), .val (.int (20 : Int32)), .val (.long ((lo.toUInt64 >>> ((20 : Int32) &&& 0x3f).toInt64.toUInt64).toInt64)), .second] [(.int zq_)])) (show (((5 : Int32) * (3 : Int32)) : Int32) = (15 : Int32) from by decide)) ?_
  show Goes _ _ _ _ T45 (mkF m 81 #[.val (.long t), .second, .val (.long hi), .second, .val (.long lo), .second, .val (.ref b1), .val (.long tt), .second, .val (.long hh), .second, .val (.int (22 : Int32)), .val (.int (20 : Int32)), .val (.long ((lo.toUInt64 >>> ((20 : Int32) &&& 0x3f).toInt64.toUInt64).toInt64)), .second] [(.int (15 : Int32))])
  refine Goes.go (fun _ k => XS.istore X45.here X45.ex rfl (hb hby d_prog_16_method_4_81) rfl (l' := #[.val (.long t), .second, .val (.long hi), .second, .val (.long lo), .second, .val (.ref b1), .val (.long tt), .second, .val (.long hh), .second, .val (.int (22 : Int32)), .val (.int (15 : Int32)), .val (.long ((lo.toUInt64 >>> ((20 : Int32) &&& 0x3f).toInt64.toUInt64).toInt64)), .second]) rfl (XS.iload X45.here X45.ex rfl (hb hby d_prog_16_method_4_83) rfl (XS.bipush X45.here X45.ex rfl (hb hby d_prog_16_method_4_85) (XS.icmpYes X45.here X45.ex rfl (pc0 := 87) (pc' := 103) rfl (hb hby d_prog_16_method_4_87) rfl (cd_t (cd := .lt) (x := (15 : Int32)) (y := (64 : Int32)) (by decide)) (by decide) (by decide) (XS.iload X45.here X45.ex rfl (hb hby d_prog_16_method_4_103) rfl (XS.bipush X45.here X45.ex rfl (hb hby d_prog_16_method_4_105) k)))))) ?_
  show Goes _ _ _ _ T45 (mkF m 107 #[.val (.long t), .second, .val (.long hi), .second, .val (.long lo), .second, .val (.ref b1), .val (.long tt), .second, .val (.long hh), .second, .val (.int (22 : Int32)), .val (.int (15 : Int32)), .val (.long ((lo.toUInt64 >>> ((20 : Int32) &&& 0x3f).toInt64.toUInt64).toInt64)), .second] [(.int (59 : Int32)), (.int (15 : Int32))])
  refine Goes.go (fun _ k => XS.icmpYes X45.here X45.ex rfl (pc0 := 107) (pc' := 129) rfl (hb hby d_prog_16_method_4_107) rfl (cd_t (cd := .le) (x := (15 : Int32)) (y := (59 : Int32)) (by decide)) (by decide) (by decide) (XS.lload X45.here X45.ex rfl (hb hby d_prog_16_method_4_129) rfl (XS.iload X45.here X45.ex rfl (hb hby d_prog_16_method_4_131) rfl (XS.lushr X45.here X45.ex rfl (hb hby d_prog_16_method_4_133) rfl (XS.lstore X45.here X45.ex rfl (hb hby d_prog_16_method_4_134) rfl (l' := #[.val (.long t), .second, .val (.long hi), .second, .val (.long lo), .second, .val (.ref b1), .val (.long tt), .second, .val (.long hh), .second, .val (.int (22 : Int32)), .val (.int (15 : Int32)), .val (.long ((lo.toUInt64 >>> ((15 : Int32) &&& 0x3f).toInt64.toUInt64).toInt64)), .second]) rfl (XS.aload X45.here X45.ex rfl (hb hby d_prog_16_method_4_136) rfl rfl k)))))) ?_
  show Goes _ _ _ _ T45 (mkF m 138 #[.val (.long t), .second, .val (.long hi), .second, .val (.long lo), .second, .val (.ref b1), .val (.long tt), .second, .val (.long hh), .second, .val (.int (22 : Int32)), .val (.int (15 : Int32)), .val (.long ((lo.toUInt64 >>> ((15 : Int32) &&& 0x3f).toInt64.toUInt64).toInt64)), .second] [(.ref b1)])
  refine Goes.go (fun _ k => XS.iload X45.here X45.ex rfl (hb hby d_prog_16_method_4_138) rfl k) ?_
  show Goes _ _ _ _ T45 (mkF m 140 #[.val (.long t), .second, .val (.long hi), .second, .val (.long lo), .second, .val (.ref b1), .val (.long tt), .second, .val (.long hh), .second, .val (.int (22 : Int32)), .val (.int (15 : Int32)), .val (.long ((lo.toUInt64 >>> ((15 : Int32) &&& 0x3f).toInt64.toUInt64).toInt64)), .second] [(.int (22 : Int32)), (.ref b1)])
  refine Wk.getS X45 (host := "") (Or.inl (w_6 hw)) Via.refl OA rfl (hb hby d_prog_16_method_4_140) ?_
  intro T46 X46
  show Goes _ _ _ _ T46 (mkF m 143 #[.val (.long t), .second, .val (.long hi), .second, .val (.long lo), .second, .val (.ref b1), .val (.long tt), .second, .val (.long hh), .second, .val (.int (22 : Int32)), .val (.int (15 : Int32)), .val (.long ((lo.toUInt64 >>> ((15 : Int32) &&& 0x3f).toInt64.toUInt64).toInt64)), .second] [(.ref al), (.int (22 : Int32)), (.ref b1)])
  refine Goes.go (fun _ k => XS.lload X46.here X46.ex rfl (hb hby d_prog_16_method_4_143) rfl (XS.l2i X46.here X46.ex rfl (hb hby d_prog_16_method_4_145) rfl (XS.bipush X46.here X46.ex rfl (hb hby d_prog_16_method_4_146) (XS.iand X46.here X46.ex rfl (hb hby d_prog_16_method_4_148) rfl k)))) ?_
  show Goes _ _ _ _ T46 (mkF m 149 #[.val (.long t), .second, .val (.long hi), .second, .val (.long lo), .second, .val (.ref b1), .val (.long tt), .second, .val (.long hh), .second, .val (.int (22 : Int32)), .val (.int (15 : Int32)), .val (.long ((lo.toUInt64 >>> ((15 : Int32) &&& 0x3f).toInt64.toUInt64).toInt64)), .second] [(.int ((((lo.toUInt64 >>> ((15 : Int32) &&& 0x3f).toInt64.toUInt64).toInt64).toInt32) &&& (31 : Int32))), (.ref al), (.int (22 : Int32)), (.ref b1)])
  obtain ⟨y22, hy22⟩ : ∃ z : Int32, z = (((lo.toUInt64 >>> ((15 : Int32) &&& 0x3f).toInt64.toUInt64).toInt64).toInt32) := ⟨_, rfl⟩
  refine Goes.cast (show (mkF m 149 #[.val (.long t), .second, .val (.long hi), .second, .val (.long lo), .second, .val (.ref b1), .val (.long tt), .second, .val (.long hh), .second, .val (.int (22 : Int32)), .val (.int (15 : Int32)), .val (.long ((lo.toUInt64 >>> ((15 : Int32) &&& 0x3f).toInt64.toUInt64).toInt64)), .second] [(.int ((((lo.toUInt64 >>> ((15 : Int32) &&& 0x3f).toInt64.toUInt64).toInt64).toInt32) &&& (31 : Int32))), (.ref al), (.int (22 : Int32)), (.ref b1)]) = (mkF m 149 #[.val (.long t), .second, .val (.long hi), .second, .val (.long lo), .second, .val (.ref b1), .val (.long tt), .second, .val (.long hh), .second, .val (.int (22 : Int32)), .val (.int (15 : Int32)), .val (.long ((lo.toUInt64 >>> ((15 : Int32) &&& 0x3f).toInt64.toUInt64).toInt64)), .second] [(.int (y22 &&& (31 : Int32))), (.ref al), (.int (22 : Int32)), (.ref b1)]) from by rw [hy22]) ?_
  show Goes _ _ _ _ T46 (mkF m 149 #[.val (.long t), .second, .val (.long hi), .second, .val (.long lo), .second, .val (.ref b1), .val (.long tt), .second, .val (.long hh), .second, .val (.int (22 : Int32)), .val (.int (15 : Int32)), .val (.long ((lo.toUInt64 >>> ((15 : Int32) &&& 0x3f).toInt64.toUInt64).toInt64)), .second] [(.int (y22 &&& (31 : Int32))), (.ref al), (.int (22 : Int32)), (.ref b1)])
  refine Goes.go (X46.caload (VA.ext X46.old) (own_b31 y22) (own_symv y22) rfl rfl (hb hby d_prog_16_method_4_149)) ?_
  show Goes _ _ _ _ T46 (mkF m 150 #[.val (.long t), .second, .val (.long hi), .second, .val (.long lo), .second, .val (.ref b1), .val (.long tt), .second, .val (.long hh), .second, .val (.int (22 : Int32)), .val (.int (15 : Int32)), .val (.long ((lo.toUInt64 >>> ((15 : Int32) &&& 0x3f).toInt64.toUInt64).toInt64)), .second] [(.int (own_sym y22)), (.int (22 : Int32)), (.ref b1)])
  refine Wk.castore (hm' := fun _ => h0) X46 V_b1 ⟨by decide, by decide⟩ (i := 22) rfl (Nat.le_of_ble_eq_true rfl) gz_b1 (fun _ => Mark.stay (allS gm_b1 all0)) rfl rfl (hb hby d_prog_16_method_4_150) ?_
  intro T47 h47 X47 W47 V47
  clear V_b1; have V_b1 : Arv Z h47 b1 _ .char (26 : Int32) [(.int (nar .char (own_sym y0))), (.int (nar .char (own_sym y1))), (.int (nar .char (own_sym y2))), (.int (nar .char (own_sym y3))), (.int (nar .char (own_sym y4))), (.int (nar .char (own_sym y5))), (.int (nar .char (own_sym y6))), (.int (nar .char (own_sym y7))), (.int (nar .char (own_sym y8))), (.int (nar .char (own_sym y9))), (.int (nar .char (own_sym y10))), (.int (nar .char (own_sym y11))), (.int (nar .char (own_sym y12))), (.int (nar .char (own_sym y13))), (.int (nar .char (own_sym y14))), (.int (nar .char (own_sym y15))), (.int (nar .char (own_sym y16))), (.int (nar .char (own_sym y17))), (.int (nar .char (own_sym y18))), (.int (nar .char (own_sym y19))), (.int (nar .char (own_sym y20))), (.int (nar .char (own_sym y21))), (.int (nar .char (own_sym y22))), (.int (0 : Int32)), (.int (0 : Int32)), (.int (0 : Int32))] (.int (0 : Int32)) := V47
  show Goes _ _ _ _ T47 (mkF m 151 #[.val (.long t), .second, .val (.long hi), .second, .val (.long lo), .second, .val (.ref b1), .val (.long tt), .second, .val (.long hh), .second, .val (.int (22 : Int32)), .val (.int (15 : Int32)), .val (.long ((lo.toUInt64 >>> ((15 : Int32) &&& 0x3f).toInt64.toUInt64).toInt64)), .second] [])
  refine Goes.go (fun _ k => XS.iinc X47.here X47.ex rfl (hb hby d_prog_16_method_4_151) rfl (l' := #[.val (.long t), .second, .val (.long hi), .second, .val (.long lo), .second, .val (.ref b1), .val (.long tt), .second, .val (.long hh), .second, .val (.int ((22 : Int32) + (1 : Int32))), .val (.int (15 : Int32)), .val (.long ((lo.toUInt64 >>> ((15 : Int32) &&& 0x3f).toInt64.toUInt64).toInt64)), .second]) rfl k) ?_
  show Goes _ _ _ _ T47 (mkF m 154 #[.val (.long t), .second, .val (.long hi), .second, .val (.long lo), .second, .val (.ref b1), .val (.long tt), .second, .val (.long hh), .second, .val (.int ((22 : Int32) + (1 : Int32))), .val (.int (15 : Int32)), .val (.long ((lo.toUInt64 >>> ((15 : Int32) &&& 0x3f).toInt64.toUInt64).toInt64)), .second] [])
  refine Goes.cast (congrArg (fun zq_ => (mkF m 154 #[.val (.long t), .second, .val (.long hi), .second, .val (.long lo), .second, .val (.ref b1), .val (.long tt), .second, .val (.long hh), .second, .val (.int zq_), .val (.int (15 : Int32)), .val (.long ((lo.toUInt64 >>> ((15 : Int32) &&& 0x3f).toInt64.toUInt64).toInt64)), .second] [])) (show (((22 : Int32) + (1 : Int32)) : Int32) = (23 : Int32) from by decide)) ?_
  show Goes _ _ _ _ T47 (mkF m 154 #[.val (.long t), .second, .val (.long hi), .second, .val (.long lo), .second, .val (.ref b1), .val (.long tt), .second, .val (.long hh), .second, .val (.int (23 : Int32)), .val (.int (15 : Int32)), .val (.long ((lo.toUInt64 >>> ((15 : Int32) &&& 0x3f).toInt64.toUInt64).toInt64)), .second] [])
  refine Goes.go (fun _ k => XS.goto X47.here X47.ex rfl (pc0 := 154) (pc' := 67) rfl (hb hby d_prog_16_method_4_154) (by decide) (by decide) (XS.iload X47.here X47.ex rfl (hb hby d_prog_16_method_4_67) rfl (XS.bipush X47.here X47.ex rfl (hb hby d_prog_16_method_4_69) (XS.icmpNo X47.here X47.ex rfl (hb hby d_prog_16_method_4_71) rfl (cd_f (cd := .ge) (x := (23 : Int32)) (y := (26 : Int32)) (by decide)) (XS.iconst X47.here X47.ex rfl (hb hby d_prog_16_method_4_74) (XS.bipush X47.here X47.ex rfl (hb hby d_prog_16_method_4_75) k)))))) ?_
  show Goes _ _ _ _ T47 (mkF m 77 #[.val (.long t), .second, .val (.long hi), .second, .val (.long lo), .second, .val (.ref b1), .val (.long tt), .second, .val (.long hh), .second, .val (.int (23 : Int32)), .val (.int (15 : Int32)), .val (.long ((lo.toUInt64 >>> ((15 : Int32) &&& 0x3f).toInt64.toUInt64).toInt64)), .second] [(.int (25 : Int32)), (.int (5 : Int32))])
  refine Goes.go (fun _ k => XS.iload X47.here X47.ex rfl (hb hby d_prog_16_method_4_77) rfl (XS.isub X47.here X47.ex rfl (hb hby d_prog_16_method_4_79) rfl k)) ?_
  show Goes _ _ _ _ T47 (mkF m 80 #[.val (.long t), .second, .val (.long hi), .second, .val (.long lo), .second, .val (.ref b1), .val (.long tt), .second, .val (.long hh), .second, .val (.int (23 : Int32)), .val (.int (15 : Int32)), .val (.long ((lo.toUInt64 >>> ((15 : Int32) &&& 0x3f).toInt64.toUInt64).toInt64)), .second] [(.int ((25 : Int32) - (23 : Int32))), (.int (5 : Int32))])
  refine Goes.cast (congrArg (fun zq_ => (mkF m 80 #[.val (.long t), .second, .val (.long hi), .second, .val (.long lo), .second, .val (.ref b1), .val (.long tt), .second, .val (.long hh), .second, .val (.int (23 : Int32)), .val (.int (15 : Int32)), .val (.long ((lo.toUInt64 >>> ((15 : Int32) &&& 0x3f).toInt64.toUInt64).toInt64)), .second] [(.int zq_), (.int (5 : Int32))])) (show (((25 : Int32) - (23 : Int32)) : Int32) = (2 : Int32) from by decide)) ?_
  show Goes _ _ _ _ T47 (mkF m 80 #[.val (.long t), .second, .val (.long hi), .second, .val (.long lo), .second, .val (.ref b1), .val (.long tt), .second, .val (.long hh), .second, .val (.int (23 : Int32)), .val (.int (15 : Int32)), .val (.long ((lo.toUInt64 >>> ((15 : Int32) &&& 0x3f).toInt64.toUInt64).toInt64)), .second] [(.int (2 : Int32)), (.int (5 : Int32))])
  refine Goes.go (fun _ k => XS.imul X47.here X47.ex rfl (hb hby d_prog_16_method_4_80) rfl k) ?_
  show Goes _ _ _ _ T47 (mkF m 81 #[.val (.long t), .second, .val (.long hi), .second, .val (.long lo), .second, .val (.ref b1), .val (.long tt), .second, .val (.long hh), .second, .val (.int (23 : Int32)), .val (.int (15 : Int32)), .val (.long ((lo.toUInt64 >>> ((15 : Int32) &&& 0x3f).toInt64.toUInt64).toInt64)), .second] [(.int ((5 : Int32) * (2 : Int32)))])
  refine Goes.cast (congrArg (fun zq_ => (mkF m 81 #[.val (.long t), .second, .val (.long hi), .second, .val (.long lo), .second, .val (.ref b1), .val (.long tt), .second, .val (.long hh), .second, .val (.int (23 : Int32)), .val (.int (15 : Int32)), .val (.long ((lo.toUInt64 >>> ((15 : Int32) &&& 0x3f).toInt64.toUInt64).toInt64)), .second] [(.int zq_)])) (show (((5 : Int32) * (2 : Int32)) : Int32) = (10 : Int32) from by decide)) ?_
  show Goes _ _ _ _ T47 (mkF m 81 #[.val (.long t), .second, .val (.long hi), .second, .val (.long lo), .second, .val (.ref b1), .val (.long tt), .second, .val (.long hh), .second, .val (.int (23 : Int32)), .val (.int (15 : Int32)), .val (.long ((lo.toUInt64 >>> ((15 : Int32) &&& 0x3f).toInt64.toUInt64).toInt64)), .second] [(.int (10 : Int32))])
  refine Goes.go (fun _ k => XS.istore X47.here X47.ex rfl (hb hby d_prog_16_method_4_81) rfl (l' := #[.val (.long t), .second, .val (.long hi), .second, .val (.long lo), .second, .val (.ref b1), .val (.long tt), .second, .val (.long hh), .second, .val (.int (23 : Int32)), .val (.int (10 : Int32)), .val (.long ((lo.toUInt64 >>> ((15 : Int32) &&& 0x3f).toInt64.toUInt64).toInt64)), .second]) rfl (XS.iload X47.here X47.ex rfl (hb hby d_prog_16_method_4_83) rfl (XS.bipush X47.here X47.ex rfl (hb hby d_prog_16_method_4_85) (XS.icmpYes X47.here X47.ex rfl (pc0 := 87) (pc' := 103) rfl (hb hby d_prog_16_method_4_87) rfl (cd_t (cd := .lt) (x := (10 : Int32)) (y := (64 : Int32)) (by decide)) (by decide) (by decide) (XS.iload X47.here X47.ex rfl (hb hby d_prog_16_method_4_103) rfl (XS.bipush X47.here X47.ex rfl (hb hby d_prog_16_method_4_105) k)))))) ?_
  show Goes _ _ _ _ T47 (mkF m 107 #[.val (.long t), .second, .val (.long hi), .second, .val (.long lo), .second, .val (.ref b1), .val (.long tt), .second, .val (.long hh), .second, .val (.int (23 : Int32)), .val (.int (10 : Int32)), .val (.long ((lo.toUInt64 >>> ((15 : Int32) &&& 0x3f).toInt64.toUInt64).toInt64)), .second] [(.int (59 : Int32)), (.int (10 : Int32))])
  refine Goes.go (fun _ k => XS.icmpYes X47.here X47.ex rfl (pc0 := 107) (pc' := 129) rfl (hb hby d_prog_16_method_4_107) rfl (cd_t (cd := .le) (x := (10 : Int32)) (y := (59 : Int32)) (by decide)) (by decide) (by decide) (XS.lload X47.here X47.ex rfl (hb hby d_prog_16_method_4_129) rfl (XS.iload X47.here X47.ex rfl (hb hby d_prog_16_method_4_131) rfl (XS.lushr X47.here X47.ex rfl (hb hby d_prog_16_method_4_133) rfl (XS.lstore X47.here X47.ex rfl (hb hby d_prog_16_method_4_134) rfl (l' := #[.val (.long t), .second, .val (.long hi), .second, .val (.long lo), .second, .val (.ref b1), .val (.long tt), .second, .val (.long hh), .second, .val (.int (23 : Int32)), .val (.int (10 : Int32)), .val (.long ((lo.toUInt64 >>> ((10 : Int32) &&& 0x3f).toInt64.toUInt64).toInt64)), .second]) rfl (XS.aload X47.here X47.ex rfl (hb hby d_prog_16_method_4_136) rfl rfl k)))))) ?_
  show Goes _ _ _ _ T47 (mkF m 138 #[.val (.long t), .second, .val (.long hi), .second, .val (.long lo), .second, .val (.ref b1), .val (.long tt), .second, .val (.long hh), .second, .val (.int (23 : Int32)), .val (.int (10 : Int32)), .val (.long ((lo.toUInt64 >>> ((10 : Int32) &&& 0x3f).toInt64.toUInt64).toInt64)), .second] [(.ref b1)])
  refine Goes.go (fun _ k => XS.iload X47.here X47.ex rfl (hb hby d_prog_16_method_4_138) rfl k) ?_
  show Goes _ _ _ _ T47 (mkF m 140 #[.val (.long t), .second, .val (.long hi), .second, .val (.long lo), .second, .val (.ref b1), .val (.long tt), .second, .val (.long hh), .second, .val (.int (23 : Int32)), .val (.int (10 : Int32)), .val (.long ((lo.toUInt64 >>> ((10 : Int32) &&& 0x3f).toInt64.toUInt64).toInt64)), .second] [(.int (23 : Int32)), (.ref b1)])
  refine Wk.getS X47 (host := "") (Or.inl (w_6 hw)) Via.refl OA rfl (hb hby d_prog_16_method_4_140) ?_
  intro T48 X48
  show Goes _ _ _ _ T48 (mkF m 143 #[.val (.long t), .second, .val (.long hi), .second, .val (.long lo), .second, .val (.ref b1), .val (.long tt), .second, .val (.long hh), .second, .val (.int (23 : Int32)), .val (.int (10 : Int32)), .val (.long ((lo.toUInt64 >>> ((10 : Int32) &&& 0x3f).toInt64.toUInt64).toInt64)), .second] [(.ref al), (.int (23 : Int32)), (.ref b1)])
  refine Goes.go (fun _ k => XS.lload X48.here X48.ex rfl (hb hby d_prog_16_method_4_143) rfl (XS.l2i X48.here X48.ex rfl (hb hby d_prog_16_method_4_145) rfl (XS.bipush X48.here X48.ex rfl (hb hby d_prog_16_method_4_146) (XS.iand X48.here X48.ex rfl (hb hby d_prog_16_method_4_148) rfl k)))) ?_
  show Goes _ _ _ _ T48 (mkF m 149 #[.val (.long t), .second, .val (.long hi), .second, .val (.long lo), .second, .val (.ref b1), .val (.long tt), .second, .val (.long hh), .second, .val (.int (23 : Int32)), .val (.int (10 : Int32)), .val (.long ((lo.toUInt64 >>> ((10 : Int32) &&& 0x3f).toInt64.toUInt64).toInt64)), .second] [(.int ((((lo.toUInt64 >>> ((10 : Int32) &&& 0x3f).toInt64.toUInt64).toInt64).toInt32) &&& (31 : Int32))), (.ref al), (.int (23 : Int32)), (.ref b1)])
  obtain ⟨y23, hy23⟩ : ∃ z : Int32, z = (((lo.toUInt64 >>> ((10 : Int32) &&& 0x3f).toInt64.toUInt64).toInt64).toInt32) := ⟨_, rfl⟩
  refine Goes.cast (show (mkF m 149 #[.val (.long t), .second, .val (.long hi), .second, .val (.long lo), .second, .val (.ref b1), .val (.long tt), .second, .val (.long hh), .second, .val (.int (23 : Int32)), .val (.int (10 : Int32)), .val (.long ((lo.toUInt64 >>> ((10 : Int32) &&& 0x3f).toInt64.toUInt64).toInt64)), .second] [(.int ((((lo.toUInt64 >>> ((10 : Int32) &&& 0x3f).toInt64.toUInt64).toInt64).toInt32) &&& (31 : Int32))), (.ref al), (.int (23 : Int32)), (.ref b1)]) = (mkF m 149 #[.val (.long t), .second, .val (.long hi), .second, .val (.long lo), .second, .val (.ref b1), .val (.long tt), .second, .val (.long hh), .second, .val (.int (23 : Int32)), .val (.int (10 : Int32)), .val (.long ((lo.toUInt64 >>> ((10 : Int32) &&& 0x3f).toInt64.toUInt64).toInt64)), .second] [(.int (y23 &&& (31 : Int32))), (.ref al), (.int (23 : Int32)), (.ref b1)]) from by rw [hy23]) ?_
  show Goes _ _ _ _ T48 (mkF m 149 #[.val (.long t), .second, .val (.long hi), .second, .val (.long lo), .second, .val (.ref b1), .val (.long tt), .second, .val (.long hh), .second, .val (.int (23 : Int32)), .val (.int (10 : Int32)), .val (.long ((lo.toUInt64 >>> ((10 : Int32) &&& 0x3f).toInt64.toUInt64).toInt64)), .second] [(.int (y23 &&& (31 : Int32))), (.ref al), (.int (23 : Int32)), (.ref b1)])
  refine Goes.go (X48.caload (VA.ext X48.old) (own_b31 y23) (own_symv y23) rfl rfl (hb hby d_prog_16_method_4_149)) ?_
  show Goes _ _ _ _ T48 (mkF m 150 #[.val (.long t), .second, .val (.long hi), .second, .val (.long lo), .second, .val (.ref b1), .val (.long tt), .second, .val (.long hh), .second, .val (.int (23 : Int32)), .val (.int (10 : Int32)), .val (.long ((lo.toUInt64 >>> ((10 : Int32) &&& 0x3f).toInt64.toUInt64).toInt64)), .second] [(.int (own_sym y23)), (.int (23 : Int32)), (.ref b1)])
  refine Wk.castore (hm' := fun _ => h0) X48 V_b1 ⟨by decide, by decide⟩ (i := 23) rfl (Nat.le_of_ble_eq_true rfl) gz_b1 (fun _ => Mark.stay (allS gm_b1 all0)) rfl rfl (hb hby d_prog_16_method_4_150) ?_
  intro T49 h49 X49 W49 V49
  clear V_b1; have V_b1 : Arv Z h49 b1 _ .char (26 : Int32) [(.int (nar .char (own_sym y0))), (.int (nar .char (own_sym y1))), (.int (nar .char (own_sym y2))), (.int (nar .char (own_sym y3))), (.int (nar .char (own_sym y4))), (.int (nar .char (own_sym y5))), (.int (nar .char (own_sym y6))), (.int (nar .char (own_sym y7))), (.int (nar .char (own_sym y8))), (.int (nar .char (own_sym y9))), (.int (nar .char (own_sym y10))), (.int (nar .char (own_sym y11))), (.int (nar .char (own_sym y12))), (.int (nar .char (own_sym y13))), (.int (nar .char (own_sym y14))), (.int (nar .char (own_sym y15))), (.int (nar .char (own_sym y16))), (.int (nar .char (own_sym y17))), (.int (nar .char (own_sym y18))), (.int (nar .char (own_sym y19))), (.int (nar .char (own_sym y20))), (.int (nar .char (own_sym y21))), (.int (nar .char (own_sym y22))), (.int (nar .char (own_sym y23))), (.int (0 : Int32)), (.int (0 : Int32))] (.int (0 : Int32)) := V49
  show Goes _ _ _ _ T49 (mkF m 151 #[.val (.long t), .second, .val (.long hi), .second, .val (.long lo), .second, .val (.ref b1), .val (.long tt), .second, .val (.long hh), .second, .val (.int (23 : Int32)), .val (.int (10 : Int32)), .val (.long ((lo.toUInt64 >>> ((10 : Int32) &&& 0x3f).toInt64.toUInt64).toInt64)), .second] [])
  refine Goes.go (fun _ k => XS.iinc X49.here X49.ex rfl (hb hby d_prog_16_method_4_151) rfl (l' := #[.val (.long t), .second, .val (.long hi), .second, .val (.long lo), .second, .val (.ref b1), .val (.long tt), .second, .val (.long hh), .second, .val (.int ((23 : Int32) + (1 : Int32))), .val (.int (10 : Int32)), .val (.long ((lo.toUInt64 >>> ((10 : Int32) &&& 0x3f).toInt64.toUInt64).toInt64)), .second]) rfl k) ?_
  show Goes _ _ _ _ T49 (mkF m 154 #[.val (.long t), .second, .val (.long hi), .second, .val (.long lo), .second, .val (.ref b1), .val (.long tt), .second, .val (.long hh), .second, .val (.int ((23 : Int32) + (1 : Int32))), .val (.int (10 : Int32)), .val (.long ((lo.toUInt64 >>> ((10 : Int32) &&& 0x3f).toInt64.toUInt64).toInt64)), .second] [])
  refine Goes.cast (congrArg (fun zq_ => (mkF m 154 #[.val (.long t), .second, .val (.long hi), .second, .val (.long lo), .second, .val (.ref b1), .val (.long tt), .second, .val (.long hh), .second, .val (.int zq_), .val (.int (10 : Int32)), .val (.long ((lo.toUInt64 >>> ((10 : Int32) &&& 0x3f).toInt64.toUInt64).toInt64)), .second] [])) (show (((23 : Int32) + (1 : Int32)) : Int32) = (24 : Int32) from by decide)) ?_
  show Goes _ _ _ _ T49 (mkF m 154 #[.val (.long t), .second, .val (.long hi), .second, .val (.long lo), .second, .val (.ref b1), .val (.long tt), .second, .val (.long hh), .second, .val (.int (24 : Int32)), .val (.int (10 : Int32)), .val (.long ((lo.toUInt64 >>> ((10 : Int32) &&& 0x3f).toInt64.toUInt64).toInt64)), .second] [])
  refine Goes.go (fun _ k => XS.goto X49.here X49.ex rfl (pc0 := 154) (pc' := 67) rfl (hb hby d_prog_16_method_4_154) (by decide) (by decide) (XS.iload X49.here X49.ex rfl (hb hby d_prog_16_method_4_67) rfl (XS.bipush X49.here X49.ex rfl (hb hby d_prog_16_method_4_69) (XS.icmpNo X49.here X49.ex rfl (hb hby d_prog_16_method_4_71) rfl (cd_f (cd := .ge) (x := (24 : Int32)) (y := (26 : Int32)) (by decide)) (XS.iconst X49.here X49.ex rfl (hb hby d_prog_16_method_4_74) (XS.bipush X49.here X49.ex rfl (hb hby d_prog_16_method_4_75) k)))))) ?_
  show Goes _ _ _ _ T49 (mkF m 77 #[.val (.long t), .second, .val (.long hi), .second, .val (.long lo), .second, .val (.ref b1), .val (.long tt), .second, .val (.long hh), .second, .val (.int (24 : Int32)), .val (.int (10 : Int32)), .val (.long ((lo.toUInt64 >>> ((10 : Int32) &&& 0x3f).toInt64.toUInt64).toInt64)), .second] [(.int (25 : Int32)), (.int (5 : Int32))])
  refine Goes.go (fun _ k => XS.iload X49.here X49.ex rfl (hb hby d_prog_16_method_4_77) rfl (XS.isub X49.here X49.ex rfl (hb hby d_prog_16_method_4_79) rfl k)) ?_
  show Goes _ _ _ _ T49 (mkF m 80 #[.val (.long t), .second, .val (.long hi), .second, .val (.long lo), .second, .val (.ref b1), .val (.long tt), .second, .val (.long hh), .second, .val (.int (24 : Int32)), .val (.int (10 : Int32)), .val (.long ((lo.toUInt64 >>> ((10 : Int32) &&& 0x3f).toInt64.toUInt64).toInt64)), .second] [(.int ((25 : Int32) - (24 : Int32))), (.int (5 : Int32))])
  refine Goes.cast (congrArg (fun zq_ => (mkF m 80 #[.val (.long t), .second, .val (.long hi), .second, .val (.long lo), .second, .val (.ref b1), .val (.long tt), .second, .val (.long hh), .second, .val (.int (24 : Int32)), .val (.int (10 : Int32)), .val (.long ((lo.toUInt64 >>> ((10 : Int32) &&& 0x3f).toInt64.toUInt64).toInt64)), .second] [(.int zq_), (.int (5 : Int32))])) (show (((25 : Int32) - (24 : Int32)) : Int32) = (1 : Int32) from by decide)) ?_
  show Goes _ _ _ _ T49 (mkF m 80 #[.val (.long t), .second, .val (.long hi), .second, .val (.long lo), .second, .val (.ref b1), .val (.long tt), .second, .val (.long hh), .second, .val (.int (24 : Int32)), .val (.int (10 : Int32)), .val (.long ((lo.toUInt64 >>> ((10 : Int32) &&& 0x3f).toInt64.toUInt64).toInt64)), .second] [(.int (1 : Int32)), (.int (5 : Int32))])
  refine Goes.go (fun _ k => XS.imul X49.here X49.ex rfl (hb hby d_prog_16_method_4_80) rfl k) ?_
  show Goes _ _ _ _ T49 (mkF m 81 #[.val (.long t), .second, .val (.long hi), .second, .val (.long lo), .second, .val (.ref b1), .val (.long tt), .second, .val (.long hh), .second, .val (.int (24 : Int32)), .val (.int (10 : Int32)), .val (.long ((lo.toUInt64 >>> ((10 : Int32) &&& 0x3f).toInt64.toUInt64).toInt64)), .second] [(.int ((5 : Int32) * (1 : Int32)))])
  refine Goes.cast (congrArg (fun zq_ => (mkF m 81 #[.val (.long t), .second, .val (.long hi), .second, .val (.long lo), .second, .val (.ref b1), .val (.long tt), .second, .val (.long hh), .second, .val (.int (24 : Int32)), .val (.int (10 : Int32)), .val (.long ((lo.toUInt64 >>> ((10 : Int32) &&& 0x3f).toInt64.toUInt64).toInt64)), .second] [(.int zq_)])) (show (((5 : Int32) * (1 : Int32)) : Int32) = (5 : Int32) from by decide)) ?_
  show Goes _ _ _ _ T49 (mkF m 81 #[.val (.long t), .second, .val (.long hi), .second, .val (.long lo), .second, .val (.ref b1), .val (.long tt), .second, .val (.long hh), .second, .val (.int (24 : Int32)), .val (.int (10 : Int32)), .val (.long ((lo.toUInt64 >>> ((10 : Int32) &&& 0x3f).toInt64.toUInt64).toInt64)), .second] [(.int (5 : Int32))])
  refine Goes.go (fun _ k => XS.istore X49.here X49.ex rfl (hb hby d_prog_16_method_4_81) rfl (l' := #[.val (.long t), .second, .val (.long hi), .second, .val (.long lo), .second, .val (.ref b1), .val (.long tt), .second, .val (.long hh), .second, .val (.int (24 : Int32)), .val (.int (5 : Int32)), .val (.long ((lo.toUInt64 >>> ((10 : Int32) &&& 0x3f).toInt64.toUInt64).toInt64)), .second]) rfl (XS.iload X49.here X49.ex rfl (hb hby d_prog_16_method_4_83) rfl (XS.bipush X49.here X49.ex rfl (hb hby d_prog_16_method_4_85) (XS.icmpYes X49.here X49.ex rfl (pc0 := 87) (pc' := 103) rfl (hb hby d_prog_16_method_4_87) rfl (cd_t (cd := .lt) (x := (5 : Int32)) (y := (64 : Int32)) (by decide)) (by decide) (by decide) (XS.iload X49.here X49.ex rfl (hb hby d_prog_16_method_4_103) rfl (XS.bipush X49.here X49.ex rfl (hb hby d_prog_16_method_4_105) k)))))) ?_
  show Goes _ _ _ _ T49 (mkF m 107 #[.val (.long t), .second, .val (.long hi), .second, .val (.long lo), .second, .val (.ref b1), .val (.long tt), .second, .val (.long hh), .second, .val (.int (24 : Int32)), .val (.int (5 : Int32)), .val (.long ((lo.toUInt64 >>> ((10 : Int32) &&& 0x3f).toInt64.toUInt64).toInt64)), .second] [(.int (59 : Int32)), (.int (5 : Int32))])
  refine Goes.go (fun _ k => XS.icmpYes X49.here X49.ex rfl (pc0 := 107) (pc' := 129) rfl (hb hby d_prog_16_method_4_107) rfl (cd_t (cd := .le) (x := (5 : Int32)) (y := (59 : Int32)) (by decide)) (by decide) (by decide) (XS.lload X49.here X49.ex rfl (hb hby d_prog_16_method_4_129) rfl (XS.iload X49.here X49.ex rfl (hb hby d_prog_16_method_4_131) rfl (XS.lushr X49.here X49.ex rfl (hb hby d_prog_16_method_4_133) rfl (XS.lstore X49.here X49.ex rfl (hb hby d_prog_16_method_4_134) rfl (l' := #[.val (.long t), .second, .val (.long hi), .second, .val (.long lo), .second, .val (.ref b1), .val (.long tt), .second, .val (.long hh), .second, .val (.int (24 : Int32)), .val (.int (5 : Int32)), .val (.long ((lo.toUInt64 >>> ((5 : Int32) &&& 0x3f).toInt64.toUInt64).toInt64)), .second]) rfl (XS.aload X49.here X49.ex rfl (hb hby d_prog_16_method_4_136) rfl rfl k)))))) ?_
  show Goes _ _ _ _ T49 (mkF m 138 #[.val (.long t), .second, .val (.long hi), .second, .val (.long lo), .second, .val (.ref b1), .val (.long tt), .second, .val (.long hh), .second, .val (.int (24 : Int32)), .val (.int (5 : Int32)), .val (.long ((lo.toUInt64 >>> ((5 : Int32) &&& 0x3f).toInt64.toUInt64).toInt64)), .second] [(.ref b1)])
  refine Goes.go (fun _ k => XS.iload X49.here X49.ex rfl (hb hby d_prog_16_method_4_138) rfl k) ?_
  show Goes _ _ _ _ T49 (mkF m 140 #[.val (.long t), .second, .val (.long hi), .second, .val (.long lo), .second, .val (.ref b1), .val (.long tt), .second, .val (.long hh), .second, .val (.int (24 : Int32)), .val (.int (5 : Int32)), .val (.long ((lo.toUInt64 >>> ((5 : Int32) &&& 0x3f).toInt64.toUInt64).toInt64)), .second] [(.int (24 : Int32)), (.ref b1)])
  refine Wk.getS X49 (host := "") (Or.inl (w_6 hw)) Via.refl OA rfl (hb hby d_prog_16_method_4_140) ?_
  intro T50 X50
  show Goes _ _ _ _ T50 (mkF m 143 #[.val (.long t), .second, .val (.long hi), .second, .val (.long lo), .second, .val (.ref b1), .val (.long tt), .second, .val (.long hh), .second, .val (.int (24 : Int32)), .val (.int (5 : Int32)), .val (.long ((lo.toUInt64 >>> ((5 : Int32) &&& 0x3f).toInt64.toUInt64).toInt64)), .second] [(.ref al), (.int (24 : Int32)), (.ref b1)])
  refine Goes.go (fun _ k => XS.lload X50.here X50.ex rfl (hb hby d_prog_16_method_4_143) rfl (XS.l2i X50.here X50.ex rfl (hb hby d_prog_16_method_4_145) rfl (XS.bipush X50.here X50.ex rfl (hb hby d_prog_16_method_4_146) (XS.iand X50.here X50.ex rfl (hb hby d_prog_16_method_4_148) rfl k)))) ?_
  show Goes _ _ _ _ T50 (mkF m 149 #[.val (.long t), .second, .val (.long hi), .second, .val (.long lo), .second, .val (.ref b1), .val (.long tt), .second, .val (.long hh), .second, .val (.int (24 : Int32)), .val (.int (5 : Int32)), .val (.long ((lo.toUInt64 >>> ((5 : Int32) &&& 0x3f).toInt64.toUInt64).toInt64)), .second] [(.int ((((lo.toUInt64 >>> ((5 : Int32) &&& 0x3f).toInt64.toUInt64).toInt64).toInt32) &&& (31 : Int32))), (.ref al), (.int (24 : Int32)), (.ref b1)])
  obtain ⟨y24, hy24⟩ : ∃ z : Int32, z = (((lo.toUInt64 >>> ((5 : Int32) &&& 0x3f).toInt64.toUInt64).toInt64).toInt32) := ⟨_, rfl⟩
  refine Goes.cast (show (mkF m 149 #[.val (.long t), .second, .val (.long hi), .second, .val (.long lo), .second, .val (.ref b1), .val (.long tt), .second, .val (.long hh), .second, .val (.int (24 : Int32)), .val (.int (5 : Int32)), .val (.long ((lo.toUInt64 >>> ((5 : Int32) &&& 0x3f).toInt64.toUInt64).toInt64)), .second] [(.int ((((lo.toUInt64 >>> ((5 : Int32) &&& 0x3f).toInt64.toUInt64).toInt64).toInt32) &&& (31 : Int32))), (.ref al), (.int (24 : Int32)), (.ref b1)]) = (mkF m 149 #[.val (.long t), .second, .val (.long hi), .second, .val (.long lo), .second, .val (.ref b1), .val (.long tt), .second, .val (.long hh), .second, .val (.int (24 : Int32)), .val (.int (5 : Int32)), .val (.long ((lo.toUInt64 >>> ((5 : Int32) &&& 0x3f).toInt64.toUInt64).toInt64)), .second] [(.int (y24 &&& (31 : Int32))), (.ref al), (.int (24 : Int32)), (.ref b1)]) from by rw [hy24]) ?_
  show Goes _ _ _ _ T50 (mkF m 149 #[.val (.long t), .second, .val (.long hi), .second, .val (.long lo), .second, .val (.ref b1), .val (.long tt), .second, .val (.long hh), .second, .val (.int (24 : Int32)), .val (.int (5 : Int32)), .val (.long ((lo.toUInt64 >>> ((5 : Int32) &&& 0x3f).toInt64.toUInt64).toInt64)), .second] [(.int (y24 &&& (31 : Int32))), (.ref al), (.int (24 : Int32)), (.ref b1)])
  refine Goes.go (X50.caload (VA.ext X50.old) (own_b31 y24) (own_symv y24) rfl rfl (hb hby d_prog_16_method_4_149)) ?_
  show Goes _ _ _ _ T50 (mkF m 150 #[.val (.long t), .second, .val (.long hi), .second, .val (.long lo), .second, .val (.ref b1), .val (.long tt), .second, .val (.long hh), .second, .val (.int (24 : Int32)), .val (.int (5 : Int32)), .val (.long ((lo.toUInt64 >>> ((5 : Int32) &&& 0x3f).toInt64.toUInt64).toInt64)), .second] [(.int (own_sym y24)), (.int (24 : Int32)), (.ref b1)])
  refine Wk.castore (hm' := fun _ => h0) X50 V_b1 ⟨by decide, by decide⟩ (i := 24) rfl (Nat.le_of_ble_eq_true rfl) gz_b1 (fun _ => Mark.stay (allS gm_b1 all0)) rfl rfl (hb hby d_prog_16_method_4_150) ?_
  intro T51 h51 X51 W51 V51
  clear V_b1; have V_b1 : Arv Z h51 b1 _ .char (26 : Int32) [(.int (nar .char (own_sym y0))), (.int (nar .char (own_sym y1))), (.int (nar .char (own_sym y2))), (.int (nar .char (own_sym y3))), (.int (nar .char (own_sym y4))), (.int (nar .char (own_sym y5))), (.int (nar .char (own_sym y6))), (.int (nar .char (own_sym y7))), (.int (nar .char (own_sym y8))), (.int (nar .char (own_sym y9))), (.int (nar .char (own_sym y10))), (.int (nar .char (own_sym y11))), (.int (nar .char (own_sym y12))), (.int (nar .char (own_sym y13))), (.int (nar .char (own_sym y14))), (.int (nar .char (own_sym y15))), (.int (nar .char (own_sym y16))), (.int (nar .char (own_sym y17))), (.int (nar .char (own_sym y18))), (.int (nar .char (own_sym y19))), (.int (nar .char (own_sym y20))), (.int (nar .char (own_sym y21))), (.int (nar .char (own_sym y22))), (.int (nar .char (own_sym y23))), (.int (nar .char (own_sym y24))), (.int (0 : Int32))] (.int (0 : Int32)) := V51
  show Goes _ _ _ _ T51 (mkF m 151 #[.val (.long t), .second, .val (.long hi), .second, .val (.long lo), .second, .val (.ref b1), .val (.long tt), .second, .val (.long hh), .second, .val (.int (24 : Int32)), .val (.int (5 : Int32)), .val (.long ((lo.toUInt64 >>> ((5 : Int32) &&& 0x3f).toInt64.toUInt64).toInt64)), .second] [])
  refine Goes.go (fun _ k => XS.iinc X51.here X51.ex rfl (hb hby d_prog_16_method_4_151) rfl (l' := #[.val (.long t), .second, .val (.long hi), .second, .val (.long lo), .second, .val (.ref b1), .val (.long tt), .second, .val (.long hh), .second, .val (.int ((24 : Int32) + (1 : Int32))), .val (.int (5 : Int32)), .val (.long ((lo.toUInt64 >>> ((5 : Int32) &&& 0x3f).toInt64.toUInt64).toInt64)), .second]) rfl k) ?_
  show Goes _ _ _ _ T51 (mkF m 154 #[.val (.long t), .second, .val (.long hi), .second, .val (.long lo), .second, .val (.ref b1), .val (.long tt), .second, .val (.long hh), .second, .val (.int ((24 : Int32) + (1 : Int32))), .val (.int (5 : Int32)), .val (.long ((lo.toUInt64 >>> ((5 : Int32) &&& 0x3f).toInt64.toUInt64).toInt64)), .second] [])
  refine Goes.cast (congrArg (fun zq_ => (mkF m 154 #[.val (.long t), .second, .val (.long hi), .second, .val (.long lo), .second, .val (.ref b1), .val (.long tt), .second, .val (.long hh), .second, .val (.int zq_), .val (.int (5 : Int32)), .val (.long ((lo.toUInt64 >>> ((5 : Int32) &&& 0x3f).toInt64.toUInt64).toInt64)), .second] [])) (show (((24 : Int32) + (1 : Int32)) : Int32) = (25 : Int32) from by decide)) ?_
  show Goes _ _ _ _ T51 (mkF m 154 #[.val (.long t), .second, .val (.long hi), .second, .val (.long lo), .second, .val (.ref b1), .val (.long tt), .second, .val (.long hh), .second, .val (.int (25 : Int32)), .val (.int (5 : Int32)), .val (.long ((lo.toUInt64 >>> ((5 : Int32) &&& 0x3f).toInt64.toUInt64).toInt64)), .second] [])
  refine Goes.go (fun _ k => XS.goto X51.here X51.ex rfl (pc0 := 154) (pc' := 67) rfl (hb hby d_prog_16_method_4_154) (by decide) (by decide) (XS.iload X51.here X51.ex rfl (hb hby d_prog_16_method_4_67) rfl (XS.bipush X51.here X51.ex rfl (hb hby d_prog_16_method_4_69) (XS.icmpNo X51.here X51.ex rfl (hb hby d_prog_16_method_4_71) rfl (cd_f (cd := .ge) (x := (25 : Int32)) (y := (26 : Int32)) (by decide)) (XS.iconst X51.here X51.ex rfl (hb hby d_prog_16_method_4_74) (XS.bipush X51.here X51.ex rfl (hb hby d_prog_16_method_4_75) k)))))) ?_
  show Goes _ _ _ _ T51 (mkF m 77 #[.val (.long t), .second, .val (.long hi), .second, .val (.long lo), .second, .val (.ref b1), .val (.long tt), .second, .val (.long hh), .second, .val (.int (25 : Int32)), .val (.int (5 : Int32)), .val (.long ((lo.toUInt64 >>> ((5 : Int32) &&& 0x3f).toInt64.toUInt64).toInt64)), .second] [(.int (25 : Int32)), (.int (5 : Int32))])
  refine Goes.go (fun _ k => XS.iload X51.here X51.ex rfl (hb hby d_prog_16_method_4_77) rfl (XS.isub X51.here X51.ex rfl (hb hby d_prog_16_method_4_79) rfl k)) ?_
  show Goes _ _ _ _ T51 (mkF m 80 #[.val (.long t), .second, .val (.long hi), .second, .val (.long lo), .second, .val (.ref b1), .val (.long tt), .second, .val (.long hh), .second, .val (.int (25 : Int32)), .val (.int (5 : Int32)), .val (.long ((lo.toUInt64 >>> ((5 : Int32) &&& 0x3f).toInt64.toUInt64).toInt64)), .second] [(.int ((25 : Int32) - (25 : Int32))), (.int (5 : Int32))])
  refine Goes.cast (congrArg (fun zq_ => (mkF m 80 #[.val (.long t), .second, .val (.long hi), .second, .val (.long lo), .second, .val (.ref b1), .val (.long tt), .second, .val (.long hh), .second, .val (.int (25 : Int32)), .val (.int (5 : Int32)), .val (.long ((lo.toUInt64 >>> ((5 : Int32) &&& 0x3f).toInt64.toUInt64).toInt64)), .second] [(.int zq_), (.int (5 : Int32))])) (show (((25 : Int32) - (25 : Int32)) : Int32) = (0 : Int32) from by decide)) ?_
  show Goes _ _ _ _ T51 (mkF m 80 #[.val (.long t), .second, .val (.long hi), .second, .val (.long lo), .second, .val (.ref b1), .val (.long tt), .second, .val (.long hh), .second, .val (.int (25 : Int32)), .val (.int (5 : Int32)), .val (.long ((lo.toUInt64 >>> ((5 : Int32) &&& 0x3f).toInt64.toUInt64).toInt64)), .second] [(.int (0 : Int32)), (.int (5 : Int32))])
  refine Goes.go (fun _ k => XS.imul X51.here X51.ex rfl (hb hby d_prog_16_method_4_80) rfl k) ?_
  show Goes _ _ _ _ T51 (mkF m 81 #[.val (.long t), .second, .val (.long hi), .second, .val (.long lo), .second, .val (.ref b1), .val (.long tt), .second, .val (.long hh), .second, .val (.int (25 : Int32)), .val (.int (5 : Int32)), .val (.long ((lo.toUInt64 >>> ((5 : Int32) &&& 0x3f).toInt64.toUInt64).toInt64)), .second] [(.int ((5 : Int32) * (0 : Int32)))])
  refine Goes.cast (congrArg (fun zq_ => (mkF m 81 #[.val (.long t), .second, .val (.long hi), .second, .val (.long lo), .second, .val (.ref b1), .val (.long tt), .second, .val (.long hh), .second, .val (.int (25 : Int32)), .val (.int (5 : Int32)), .val (.long ((lo.toUInt64 >>> ((5 : Int32) &&& 0x3f).toInt64.toUInt64).toInt64)), .second] [(.int zq_)])) (show (((5 : Int32) * (0 : Int32)) : Int32) = (0 : Int32) from by decide)) ?_
  show Goes _ _ _ _ T51 (mkF m 81 #[.val (.long t), .second, .val (.long hi), .second, .val (.long lo), .second, .val (.ref b1), .val (.long tt), .second, .val (.long hh), .second, .val (.int (25 : Int32)), .val (.int (5 : Int32)), .val (.long ((lo.toUInt64 >>> ((5 : Int32) &&& 0x3f).toInt64.toUInt64).toInt64)), .second] [(.int (0 : Int32))])
  refine Goes.go (fun _ k => XS.istore X51.here X51.ex rfl (hb hby d_prog_16_method_4_81) rfl (l' := #[.val (.long t), .second, .val (.long hi), .second, .val (.long lo), .second, .val (.ref b1), .val (.long tt), .second, .val (.long hh), .second, .val (.int (25 : Int32)), .val (.int (0 : Int32)), .val (.long ((lo.toUInt64 >>> ((5 : Int32) &&& 0x3f).toInt64.toUInt64).toInt64)), .second]) rfl (XS.iload X51.here X51.ex rfl (hb hby d_prog_16_method_4_83) rfl (XS.bipush X51.here X51.ex rfl (hb hby d_prog_16_method_4_85) (XS.icmpYes X51.here X51.ex rfl (pc0 := 87) (pc' := 103) rfl (hb hby d_prog_16_method_4_87) rfl (cd_t (cd := .lt) (x := (0 : Int32)) (y := (64 : Int32)) (by decide)) (by decide) (by decide) (XS.iload X51.here X51.ex rfl (hb hby d_prog_16_method_4_103) rfl (XS.bipush X51.here X51.ex rfl (hb hby d_prog_16_method_4_105) k)))))) ?_
  show Goes _ _ _ _ T51 (mkF m 107 #[.val (.long t), .second, .val (.long hi), .second, .val (.long lo), .second, .val (.ref b1), .val (.long tt), .second, .val (.long hh), .second, .val (.int (25 : Int32)), .val (.int (0 : Int32)), .val (.long ((lo.toUInt64 >>> ((5 : Int32) &&& 0x3f).toInt64.toUInt64).toInt64)), .second] [(.int (59 : Int32)), (.int (0 : Int32))])
  refine Goes.go (fun _ k => XS.icmpYes X51.here X51.ex rfl (pc0 := 107) (pc' := 129) rfl (hb hby d_prog_16_method_4_107) rfl (cd_t (cd := .le) (x := (0 : Int32)) (y := (59 : Int32)) (by decide)) (by decide) (by decide) (XS.lload X51.here X51.ex rfl (hb hby d_prog_16_method_4_129) rfl (XS.iload X51.here X51.ex rfl (hb hby d_prog_16_method_4_131) rfl (XS.lushr X51.here X51.ex rfl (hb hby d_prog_16_method_4_133) rfl (XS.lstore X51.here X51.ex rfl (hb hby d_prog_16_method_4_134) rfl (l' := #[.val (.long t), .second, .val (.long hi), .second, .val (.long lo), .second, .val (.ref b1), .val (.long tt), .second, .val (.long hh), .second, .val (.int (25 : Int32)), .val (.int (0 : Int32)), .val (.long ((lo.toUInt64 >>> ((0 : Int32) &&& 0x3f).toInt64.toUInt64).toInt64)), .second]) rfl (XS.aload X51.here X51.ex rfl (hb hby d_prog_16_method_4_136) rfl rfl k)))))) ?_
  show Goes _ _ _ _ T51 (mkF m 138 #[.val (.long t), .second, .val (.long hi), .second, .val (.long lo), .second, .val (.ref b1), .val (.long tt), .second, .val (.long hh), .second, .val (.int (25 : Int32)), .val (.int (0 : Int32)), .val (.long ((lo.toUInt64 >>> ((0 : Int32) &&& 0x3f).toInt64.toUInt64).toInt64)), .second] [(.ref b1)])
  refine Goes.go (fun _ k => XS.iload X51.here X51.ex rfl (hb hby d_prog_16_method_4_138) rfl k) ?_
  show Goes _ _ _ _ T51 (mkF m 140 #[.val (.long t), .second, .val (.long hi), .second, .val (.long lo), .second, .val (.ref b1), .val (.long tt), .second, .val (.long hh), .second, .val (.int (25 : Int32)), .val (.int (0 : Int32)), .val (.long ((lo.toUInt64 >>> ((0 : Int32) &&& 0x3f).toInt64.toUInt64).toInt64)), .second] [(.int (25 : Int32)), (.ref b1)])
  refine Wk.getS X51 (host := "") (Or.inl (w_6 hw)) Via.refl OA rfl (hb hby d_prog_16_method_4_140) ?_
  intro T52 X52
  show Goes _ _ _ _ T52 (mkF m 143 #[.val (.long t), .second, .val (.long hi), .second, .val (.long lo), .second, .val (.ref b1), .val (.long tt), .second, .val (.long hh), .second, .val (.int (25 : Int32)), .val (.int (0 : Int32)), .val (.long ((lo.toUInt64 >>> ((0 : Int32) &&& 0x3f).toInt64.toUInt64).toInt64)), .second] [(.ref al), (.int (25 : Int32)), (.ref b1)])
  refine Goes.go (fun _ k => XS.lload X52.here X52.ex rfl (hb hby d_prog_16_method_4_143) rfl (XS.l2i X52.here X52.ex rfl (hb hby d_prog_16_method_4_145) rfl (XS.bipush X52.here X52.ex rfl (hb hby d_prog_16_method_4_146) (XS.iand X52.here X52.ex rfl (hb hby d_prog_16_method_4_148) rfl k)))) ?_
  show Goes _ _ _ _ T52 (mkF m 149 #[.val (.long t), .second, .val (.long hi), .second, .val (.long lo), .second, .val (.ref b1), .val (.long tt), .second, .val (.long hh), .second, .val (.int (25 : Int32)), .val (.int (0 : Int32)), .val (.long ((lo.toUInt64 >>> ((0 : Int32) &&& 0x3f).toInt64.toUInt64).toInt64)), .second] [(.int ((((lo.toUInt64 >>> ((0 : Int32) &&& 0x3f).toInt64.toUInt64).toInt64).toInt32) &&& (31 : Int32))), (.ref al), (.int (25 : Int32)), (.ref b1)])
  obtain ⟨y25, hy25⟩ : ∃ z : Int32, z = (((lo.toUInt64 >>> ((0 : Int32) &&& 0x3f).toInt64.toUInt64).toInt64).toInt32) := ⟨_, rfl⟩
  refine Goes.cast (show (mkF m 149 #[.val (.long t), .second, .val (.long hi), .second, .val (.long lo), .second, .val (.ref b1), .val (.long tt), .second, .val (.long hh), .second, .val (.int (25 : Int32)), .val (.int (0 : Int32)), .val (.long ((lo.toUInt64 >>> ((0 : Int32) &&& 0x3f).toInt64.toUInt64).toInt64)), .second] [(.int ((((lo.toUInt64 >>> ((0 : Int32) &&& 0x3f).toInt64.toUInt64).toInt64).toInt32) &&& (31 : Int32))), (.ref al), (.int (25 : Int32)), (.ref b1)]) = (mkF m 149 #[.val (.long t), .second, .val (.long hi), .second, .val (.long lo), .second, .val (.ref b1), .val (.long tt), .second, .val (.long hh), .second, .val (.int (25 : Int32)), .val (.int (0 : Int32)), .val (.long ((lo.toUInt64 >>> ((0 : Int32) &&& 0x3f).toInt64.toUInt64).toInt64)), .second] [(.int (y25 &&& (31 : Int32))), (.ref al), (.int (25 : Int32)), (.ref b1)]) from by rw [hy25]) ?_
  show Goes _ _ _ _ T52 (mkF m 149 #[.val (.long t), .second, .val (.long hi), .second, .val (.long lo), .second, .val (.ref b1), .val (.long tt), .second, .val (.long hh), .second, .val (.int (25 : Int32)), .val (.int (0 : Int32)), .val (.long ((lo.toUInt64 >>> ((0 : Int32) &&& 0x3f).toInt64.toUInt64).toInt64)), .second] [(.int (y25 &&& (31 : Int32))), (.ref al), (.int (25 : Int32)), (.ref b1)])
  refine Goes.go (X52.caload (VA.ext X52.old) (own_b31 y25) (own_symv y25) rfl rfl (hb hby d_prog_16_method_4_149)) ?_
  show Goes _ _ _ _ T52 (mkF m 150 #[.val (.long t), .second, .val (.long hi), .second, .val (.long lo), .second, .val (.ref b1), .val (.long tt), .second, .val (.long hh), .second, .val (.int (25 : Int32)), .val (.int (0 : Int32)), .val (.long ((lo.toUInt64 >>> ((0 : Int32) &&& 0x3f).toInt64.toUInt64).toInt64)), .second] [(.int (own_sym y25)), (.int (25 : Int32)), (.ref b1)])
  refine Wk.castore (hm' := fun _ => h0) X52 V_b1 ⟨by decide, by decide⟩ (i := 25) rfl (Nat.le_of_ble_eq_true rfl) gz_b1 (fun _ => Mark.stay (allS gm_b1 all0)) rfl rfl (hb hby d_prog_16_method_4_150) ?_
  intro T53 h53 X53 W53 V53
  clear V_b1; have V_b1 : Arv Z h53 b1 _ .char (26 : Int32) [(.int (nar .char (own_sym y0))), (.int (nar .char (own_sym y1))), (.int (nar .char (own_sym y2))), (.int (nar .char (own_sym y3))), (.int (nar .char (own_sym y4))), (.int (nar .char (own_sym y5))), (.int (nar .char (own_sym y6))), (.int (nar .char (own_sym y7))), (.int (nar .char (own_sym y8))), (.int (nar .char (own_sym y9))), (.int (nar .char (own_sym y10))), (.int (nar .char (own_sym y11))), (.int (nar .char (own_sym y12))), (.int (nar .char (own_sym y13))), (.int (nar .char (own_sym y14))), (.int (nar .char (own_sym y15))), (.int (nar .char (own_sym y16))), (.int (nar .char (own_sym y17))), (.int (nar .char (own_sym y18))), (.int (nar .char (own_sym y19))), (.int (nar .char (own_sym y20))), (.int (nar .char (own_sym y21))), (.int (nar .char (own_sym y22))), (.int (nar .char (own_sym y23))), (.int (nar .char (own_sym y24))), (.int (nar .char (own_sym y25)))] (.int (0 : Int32)) := V53
  show Goes _ _ _ _ T53 (mkF m 151 #[.val (.long t), .second, .val (.long hi), .second, .val (.long lo), .second, .val (.ref b1), .val (.long tt), .second, .val (.long hh), .second, .val (.int (25 : Int32)), .val (.int (0 : Int32)), .val (.long ((lo.toUInt64 >>> ((0 : Int32) &&& 0x3f).toInt64.toUInt64).toInt64)), .second] [])
  refine Goes.go (fun _ k => XS.iinc X53.here X53.ex rfl (hb hby d_prog_16_method_4_151) rfl (l' := #[.val (.long t), .second, .val (.long hi), .second, .val (.long lo), .second, .val (.ref b1), .val (.long tt), .second, .val (.long hh), .second, .val (.int ((25 : Int32) + (1 : Int32))), .val (.int (0 : Int32)), .val (.long ((lo.toUInt64 >>> ((0 : Int32) &&& 0x3f).toInt64.toUInt64).toInt64)), .second]) rfl k) ?_
  show Goes _ _ _ _ T53 (mkF m 154 #[.val (.long t), .second, .val (.long hi), .second, .val (.long lo), .second, .val (.ref b1), .val (.long tt), .second, .val (.long hh), .second, .val (.int ((25 : Int32) + (1 : Int32))), .val (.int (0 : Int32)), .val (.long ((lo.toUInt64 >>> ((0 : Int32) &&& 0x3f).toInt64.toUInt64).toInt64)), .second] [])
  refine Goes.cast (congrArg (fun zq_ => (mkF m 154 #[.val (.long t), .second, .val (.long hi), .second, .val (.long lo), .second, .val (.ref b1), .val (.long tt), .second, .val (.long hh), .second, .val (.int zq_), .val (.int (0 : Int32)), .val (.long ((lo.toUInt64 >>> ((0 : Int32) &&& 0x3f).toInt64.toUInt64).toInt64)), .second] [])) (show (((25 : Int32) + (1 : Int32)) : Int32) = (26 : Int32) from by decide)) ?_
  show Goes _ _ _ _ T53 (mkF m 154 #[.val (.long t), .second, .val (.long hi), .second, .val (.long lo), .second, .val (.ref b1), .val (.long tt), .second, .val (.long hh), .second, .val (.int (26 : Int32)), .val (.int (0 : Int32)), .val (.long ((lo.toUInt64 >>> ((0 : Int32) &&& 0x3f).toInt64.toUInt64).toInt64)), .second] [])
  refine Goes.go (fun _ k => XS.goto X53.here X53.ex rfl (pc0 := 154) (pc' := 67) rfl (hb hby d_prog_16_method_4_154) (by decide) (by decide) (XS.iload X53.here X53.ex rfl (hb hby d_prog_16_method_4_67) rfl (XS.bipush X53.here X53.ex rfl (hb hby d_prog_16_method_4_69) (XS.icmpYes X53.here X53.ex rfl (pc0 := 71) (pc' := 157) rfl (hb hby d_prog_16_method_4_71) rfl (cd_t (cd := .ge) (x := (26 : Int32)) (y := (26 : Int32)) (by decide)) (by decide) (by decide) k)))) ?_
  show Goes _ _ _ _ T53 (mkF m 157 #[.val (.long t), .second, .val (.long hi), .second, .val (.long lo), .second, .val (.ref b1), .val (.long tt), .second, .val (.long hh), .second, .val (.int (26 : Int32)), .val (.int (0 : Int32)), .val (.long ((lo.toUInt64 >>> ((0 : Int32) &&& 0x3f).toInt64.toUInt64).toInt64)), .second] [])
  have EA := X53.ext
  have X54 := X53.mark
  refine Wk.new X54 (w_9 hw) (w_10 hw) (w_11 hw) rfl (hb hby d_prog_16_method_4_157) (by decide) (by decide) ?_
  intro T55 h55 a55 g55 X55 E55 A55 D55
  have lt_b1_a55 : b1 < a55 := by rw [g55]; exact V_b1.lt
  replace V_b1 := V_b1.ext E55
  have gz_a55 : Z.heap.size ≤ a55 := g55 ▸ X54.old.1
  have gm_a55 : h53.size ≤ a55 := g55 ▸ X54.ext.1
  have F_a55_coder : Fld Z h55 a55 "java/lang/String" "coder" "B" (.int (0 : Int32)) := D55 (Or.inr (w_35 hw)) (ty := .byte) (by decide)
  have F_a55_value : Fld Z h55 a55 "java/lang/String" "value" "[B" .null := D55 (Or.inr (w_37 hw)) (ty := (.array .byte)) (by decide)
  clear D55
  show Goes _ _ _ _ T55 (mkF m 160 #[.val (.long t), .second, .val (.long hi), .second, .val (.long lo), .second, .val (.ref b1), .val (.long tt), .second, .val (.long hh), .second, .val (.int (26 : Int32)), .val (.int (0 : Int32)), .val (.long ((lo.toUInt64 >>> ((0 : Int32) &&& 0x3f).toInt64.toUInt64).toInt64)), .second] [(.ref a55)])
  refine Goes.go (fun _ k => XS.dup X55.here X55.ex rfl (hb hby d_prog_16_method_4_160) rfl rfl (XS.aload X55.here X55.ex rfl (hb hby d_prog_16_method_4_161) rfl rfl k)) ?_
  show Goes _ _ _ _ T55 (mkF m 163 #[.val (.long t), .second, .val (.long hi), .second, .val (.long lo), .second, .val (.ref b1), .val (.long tt), .second, .val (.long hh), .second, .val (.int (26 : Int32)), .val (.int (0 : Int32)), .val (.long ((lo.toUInt64 >>> ((0 : Int32) &&& 0x3f).toInt64.toUInt64).toInt64)), .second] [(.ref b1), (.ref a55), (.ref a55)])
  have hp56 : ∀ c ∈ ([(nar .char (own_sym y0)), (nar .char (own_sym y1)), (nar .char (own_sym y2)), (nar .char (own_sym y3)), (nar .char (own_sym y4)), (nar .char (own_sym y5)), (nar .char (own_sym y6)), (nar .char (own_sym y7)), (nar .char (own_sym y8)), (nar .char (own_sym y9)), (nar .char (own_sym y10)), (nar .char (own_sym y11)), (nar .char (own_sym y12)), (nar .char (own_sym y13)), (nar .char (own_sym y14)), (nar .char (own_sym y15)), (nar .char (own_sym y16)), (nar .char (own_sym y17)), (nar .char (own_sym y18)), (nar .char (own_sym y19)), (nar .char (own_sym y20)), (nar .char (own_sym y21)), (nar .char (own_sym y22)), (nar .char (own_sym y23)), (nar .char (own_sym y24)), (nar .char (own_sym y25))] : List Int32), ¬ c < 0 ∧ ¬ (255 : Int32) < c := by
      intro c hc
      simp only [List.mem_cons, List.not_mem_nil, or_false] at hc
      rcases hc with rfl | rfl | rfl | rfl | rfl | rfl | rfl | rfl | rfl | rfl | rfl | rfl | rfl | rfl | rfl | rfl | rfl | rfl | rfl | rfl | rfl | rfl | rfl | rfl | rfl | rfl
      · rw [own_narc (own_symb y0)]; exact (own_symb y0)
      · rw [own_narc (own_symb y1)]; exact (own_symb y1)
      · rw [own_narc (own_symb y2)]; exact (own_symb y2)
      · rw [own_narc (own_symb y3)]; exact (own_symb y3)
      · rw [own_narc (own_symb y4)]; exact (own_symb y4)
      · rw [own_narc (own_symb y5)]; exact (own_symb y5)
      · rw [own_narc (own_symb y6)]; exact (own_symb y6)
      · rw [own_narc (own_symb y7)]; exact (own_symb y7)
      · rw [own_narc (own_symb y8)]; exact (own_symb y8)
      · rw [own_narc (own_symb y9)]; exact (own_symb y9)
      · rw [own_narc (own_symb y10)]; exact (own_symb y10)
      · rw [own_narc (own_symb y11)]; exact (own_symb y11)
      · rw [own_narc (own_symb y12)]; exact (own_symb y12)
      · rw [own_narc (own_symb y13)]; exact (own_symb y13)
      · rw [own_narc (own_symb y14)]; exact (own_symb y14)
      · rw [own_narc (own_symb y15)]; exact (own_symb y15)
      · rw [own_narc (own_symb y16)]; exact (own_symb y16)
      · rw [own_narc (own_symb y17)]; exact (own_symb y17)
      · rw [own_narc (own_symb y18)]; exact (own_symb y18)
      · rw [own_narc (own_symb y19)]; exact (own_symb y19)
      · rw [own_narc (own_symb y20)]; exact (own_symb y20)
      · rw [own_narc (own_symb y21)]; exact (own_symb y21)
      · rw [own_narc (own_symb y22)]; exact (own_symb y22)
      · rw [own_narc (own_symb y23)]; exact (own_symb y23)
      · rw [own_narc (own_symb y24)]; exact (own_symb y24)
      · rw [own_narc (own_symb y25)]; exact (own_symb y25)
  refine Wk.special (hm' := fun _ => h53) (y := (⟨"java/lang/String", "<init>", "([C)V"⟩ : MethodName)) (W := 1) (kc := 1) (ks := 26) (argsL := [(.ref b1)]) (rest := [(.ref a55)]) (as' := #[(.ref a55), (.ref b1)]) (ws := [a55]) X55 rfl (w_12 hw) (w_13 hw) (w_14 hw) (by decide) (own_newP (own_ws hw) (kI := 4) (w_10 hw) (cs := ([(nar .char (own_sym y0)), (nar .char (own_sym y1)), (nar .char (own_sym y2)), (nar .char (own_sym y3)), (nar .char (own_sym y4)), (nar .char (own_sym y5)), (nar .char (own_sym y6)), (nar .char (own_sym y7)), (nar .char (own_sym y8)), (nar .char (own_sym y9)), (nar .char (own_sym y10)), (nar .char (own_sym y11)), (nar .char (own_sym y12)), (nar .char (own_sym y13)), (nar .char (own_sym y14)), (nar .char (own_sym y15)), (nar .char (own_sym y16)), (nar .char (own_sym y17)), (nar .char (own_sym y18)), (nar .char (own_sym y19)), (nar .char (own_sym y20)), (nar .char (own_sym y21)), (nar .char (own_sym y22)), (nar .char (own_sym y23)), (nar .char (own_sym y24)), (nar .char (own_sym y25))] : List Int32)) (n := 26) gz_a55 X55.old A55 F_a55_value F_a55_coder V_b1 O2 P5 rfl rfl (by decide) (by decide) hp56 (by decide) (by decide)) (fun v h' L q => ⟨q.2.1, q.2.2.1⟩) (allS gz_a55 all0) (fun _ => Mark.stay (allS gm_a55 all0)) rfl (by rw [hml]; rfl) (lenOf pd_0 rfl) rfl rfl (by show 2 * 0 + _ ≤ _; exact Nat.le_of_eq rfl) (hb hby d_prog_16_method_4_163) (by decide) (by decide) ?_
  intro T57 h57 v57 L57 X57 q57 K57
  obtain ⟨rfl, -, -, S_a55⟩ := q57
  show Goes _ _ _ _ T57 (mkF m 166 #[.val (.long t), .second, .val (.long hi), .second, .val (.long lo), .second, .val (.ref b1), .val (.long tt), .second, .val (.long hh), .second, .val (.int (26 : Int32)), .val (.int (0 : Int32)), .val (.long ((lo.toUInt64 >>> ((0 : Int32) &&& 0x3f).toInt64.toUInt64).toInt64)), .second] [(.ref a55)])
  have EB := EA.oTrans X57.ext
  simp only [own_narc (own_symb y0), own_narc (own_symb y1), own_narc (own_symb y2), own_narc (own_symb y3), own_narc (own_symb y4), own_narc (own_symb y5), own_narc (own_symb y6), own_narc (own_symb y7), own_narc (own_symb y8), own_narc (own_symb y9), own_narc (own_symb y10), own_narc (own_symb y11), own_narc (own_symb y12), own_narc (own_symb y13), own_narc (own_symb y14), own_narc (own_symb y15), own_narc (own_symb y16), own_narc (own_symb y17), own_narc (own_symb y18), own_narc (own_symb y19), own_narc (own_symb y20), own_narc (own_symb y21), own_narc (own_symb y22), own_narc (own_symb y23), own_narc (own_symb y24), own_narc (own_symb y25)] at S_a55
  subst hy0 hy1 hy2 hy3 hy4 hy5 hy6 hy7 hy8 hy9 hy10 hy11 hy12 hy13 hy14 hy15 hy16 hy17 hy18 hy19 hy20 hy21 hy22 hy23 hy24 hy25
  subst htt hhh
  refine Goes.outN X57 (fun q => by rw [hret] at q; cases q) hlk (X57.rA hret rfl rfl (hb hby d_prog_16_method_4_166)) ?_ (by decide) (by decide)
  exact ⟨Ext.oKeepOf EB [], a55, rfl, S_a55⟩
set_option maxRecDepth 65536 in
set_option maxHeartbeats 40000000 in
theorem own_bitc (l : Launch) (Z : State) (a0 : Array Value) (hw : ∀ d ∈ tables_1, d.before a0 Z = true) (h0 : Heap) (hO : Ext Z.heap h0) (t : Int64) (hi : Int64) (lo : Int64) (k : Int32)  :
    CtrN l Z (⟨"com/example/relaywright/relaywright/outbox/EventIdsEncodePinLaw", "bit", "(JJJI)J"⟩ : MethodName) method_2_code 7 (some .long) ({ frames := 0, cells := 0, slots := 0, locals := 0 } : Room) #[(.long t), (.long hi), (.long lo), (.int k)] h0 (fun v h' => Keep h0 h' [] ∧ v = some (.long (own_bit t hi lo k))) := by
  refine CtrN.of (plainFor_of_name pn_1) hO ?_
  intro p e s m below meth c T0 X0 hsh hby hml hret hlk hnm
  refine Goes.cast (ef_own_bitc m t hi lo k) ?_
  show Goes _ _ _ _ T0 (mkF m 0 #[.val (.long t), .second, .val (.long hi), .second, .val (.long lo), .second, .val (.int k)] [])
  refine Goes.go (fun _ k => XS.iload X0.here X0.ex rfl (hb hby d_method_2_0) rfl (XS.bipush X0.here X0.ex rfl (hb hby d_method_2_2) k)) ?_
  show Goes _ _ _ _ T0 (mkF m 4 #[.val (.long t), .second, .val (.long hi), .second, .val (.long lo), .second, .val (.int k)] [(.int (64 : Int32)), (.int k)])
  refine Goes.icmp (pc' := 15) X0.here X0.ex (hb hby d_method_2_4) (by decide) (by decide) (fun hc4 => ?_) (fun hc4 => ?_)
  · have hc4 : ¬ (k < (64 : Int32)) := hc4
    show Goes _ _ _ _ T0 (mkF m 15 #[.val (.long t), .second, .val (.long hi), .second, .val (.long lo), .second, .val (.int k)] [])
    refine Goes.go (fun _ k => XS.iload X0.here X0.ex rfl (hb hby d_method_2_15) rfl (XS.bipush X0.here X0.ex rfl (hb hby d_method_2_17) k)) ?_
    show Goes _ _ _ _ T0 (mkF m 19 #[.val (.long t), .second, .val (.long hi), .second, .val (.long lo), .second, .val (.int k)] [(.int (80 : Int32)), (.int k)])
    refine Goes.icmp (pc' := 32) X0.here X0.ex (hb hby d_method_2_19) (by decide) (by decide) (fun hc19 => ?_) (fun hc19 => ?_)
    · have hc19 : ¬ (k < (80 : Int32)) := hc19
      show Goes _ _ _ _ T0 (mkF m 32 #[.val (.long t), .second, .val (.long hi), .second, .val (.long lo), .second, .val (.int k)] [])
      refine Goes.go (fun _ k => XS.iload X0.here X0.ex rfl (hb hby d_method_2_32) rfl (XS.sipush X0.here X0.ex rfl (hb hby d_method_2_34) k)) ?_
      show Goes _ _ _ _ T0 (mkF m 37 #[.val (.long t), .second, .val (.long hi), .second, .val (.long lo), .second, .val (.int k)] [(.int (128 : Int32)), (.int k)])
      refine Goes.icmp (pc' := 50) X0.here X0.ex (hb hby d_method_2_37) (by decide) (by decide) (fun hc37 => ?_) (fun hc37 => ?_)
      · have hc37 : ¬ (k < (128 : Int32)) := hc37
        show Goes _ _ _ _ T0 (mkF m 50 #[.val (.long t), .second, .val (.long hi), .second, .val (.long lo), .second, .val (.int k)] [])
        refine Goes.go (fun _ k => XS.lconst X0.here X0.ex rfl (hb hby d_method_2_50) k) ?_
        show Goes _ _ _ _ T0 (mkF m 51 #[.val (.long t), .second, .val (.long hi), .second, .val (.long lo), .second, .val (.int k)] [(.long (0 : Int64))])
        refine Goes.outN X0 (fun q => by rw [hret] at q; cases q) hlk (X0.rJ hret (hb hby d_method_2_51)) ?_ (by decide) (by decide)
        exact ⟨Ext.oKeepOf X0.ext [], by unfold own_bit; simp only [hc4, hc19, hc37, own_n10, own_n20, own_n21, own_n30, own_n31, own_n32, if_true, if_false, ↓reduceIte]⟩
      · have hc37 : k < (128 : Int32) := Classical.not_not.mp hc37
        show Goes _ _ _ _ T0 (mkF m 40 #[.val (.long t), .second, .val (.long hi), .second, .val (.long lo), .second, .val (.int k)] [])
        refine Goes.go (fun _ k => XS.lloadN X0.here X0.ex rfl (hb hby d_method_2_40) rfl (XS.iload X0.here X0.ex rfl (hb hby d_method_2_41) rfl (XS.bipush X0.here X0.ex rfl (hb hby d_method_2_43) (XS.isub X0.here X0.ex rfl (hb hby d_method_2_45) rfl (XS.lushr X0.here X0.ex rfl (hb hby d_method_2_46) rfl (XS.lconst X0.here X0.ex rfl (hb hby d_method_2_47) k)))))) ?_
        show Goes _ _ _ _ T0 (mkF m 48 #[.val (.long t), .second, .val (.long hi), .second, .val (.long lo), .second, .val (.int k)] [(.long (1 : Int64)), (.long ((t.toUInt64 >>> ((k - (80 : Int32)) &&& 0x3f).toInt64.toUInt64).toInt64))])
        refine Goes.go (fun _ k => XS.land X0.here X0.ex rfl (hb hby d_method_2_48) rfl k) ?_
        show Goes _ _ _ _ T0 (mkF m 49 #[.val (.long t), .second, .val (.long hi), .second, .val (.long lo), .second, .val (.int k)] [(.long (((t.toUInt64 >>> ((k - (80 : Int32)) &&& 0x3f).toInt64.toUInt64).toInt64) &&& (1 : Int64)))])
        refine Goes.outN X0 (fun q => by rw [hret] at q; cases q) hlk (X0.rJ hret (hb hby d_method_2_49)) ?_ (by decide) (by decide)
        exact ⟨Ext.oKeepOf X0.ext [], by unfold own_bit; simp only [hc4, hc19, hc37, own_n10, own_n20, own_n21, own_n30, own_n31, own_n32, if_true, if_false, ↓reduceIte]⟩
    · have hc19 : k < (80 : Int32) := Classical.not_not.mp hc19
      show Goes _ _ _ _ T0 (mkF m 22 #[.val (.long t), .second, .val (.long hi), .second, .val (.long lo), .second, .val (.int k)] [])
      refine Goes.go (fun _ k => XS.lloadN X0.here X0.ex rfl (hb hby d_method_2_22) rfl (XS.iload X0.here X0.ex rfl (hb hby d_method_2_23) rfl (XS.bipush X0.here X0.ex rfl (hb hby d_method_2_25) (XS.isub X0.here X0.ex rfl (hb hby d_method_2_27) rfl (XS.lushr X0.here X0.ex rfl (hb hby d_method_2_28) rfl (XS.lconst X0.here X0.ex rfl (hb hby d_method_2_29) k)))))) ?_
      show Goes _ _ _ _ T0 (mkF m 30 #[.val (.long t), .second, .val (.long hi), .second, .val (.long lo), .second, .val (.int k)] [(.long (1 : Int64)), (.long ((hi.toUInt64 >>> ((k - (64 : Int32)) &&& 0x3f).toInt64.toUInt64).toInt64))])
      refine Goes.go (fun _ k => XS.land X0.here X0.ex rfl (hb hby d_method_2_30) rfl k) ?_
      show Goes _ _ _ _ T0 (mkF m 31 #[.val (.long t), .second, .val (.long hi), .second, .val (.long lo), .second, .val (.int k)] [(.long (((hi.toUInt64 >>> ((k - (64 : Int32)) &&& 0x3f).toInt64.toUInt64).toInt64) &&& (1 : Int64)))])
      refine Goes.outN X0 (fun q => by rw [hret] at q; cases q) hlk (X0.rJ hret (hb hby d_method_2_31)) ?_ (by decide) (by decide)
      exact ⟨Ext.oKeepOf X0.ext [], by unfold own_bit; simp only [hc4, hc19, own_n10, own_n20, own_n21, own_n30, own_n31, own_n32, if_true, if_false, ↓reduceIte]⟩
  · have hc4 : k < (64 : Int32) := Classical.not_not.mp hc4
    show Goes _ _ _ _ T0 (mkF m 7 #[.val (.long t), .second, .val (.long hi), .second, .val (.long lo), .second, .val (.int k)] [])
    refine Goes.go (fun _ k => XS.lload X0.here X0.ex rfl (hb hby d_method_2_7) rfl (XS.iload X0.here X0.ex rfl (hb hby d_method_2_9) rfl (XS.lushr X0.here X0.ex rfl (hb hby d_method_2_11) rfl (XS.lconst X0.here X0.ex rfl (hb hby d_method_2_12) (XS.land X0.here X0.ex rfl (hb hby d_method_2_13) rfl k))))) ?_
    show Goes _ _ _ _ T0 (mkF m 14 #[.val (.long t), .second, .val (.long hi), .second, .val (.long lo), .second, .val (.int k)] [(.long (((lo.toUInt64 >>> (k &&& 0x3f).toInt64.toUInt64).toInt64) &&& (1 : Int64)))])
    refine Goes.outN X0 (fun q => by rw [hret] at q; cases q) hlk (X0.rJ hret (hb hby d_method_2_14)) ?_ (by decide) (by decide)
    exact ⟨Ext.oKeepOf X0.ext [], by unfold own_bit; simp only [hc4, own_n10, own_n20, own_n21, own_n30, own_n31, own_n32, if_true, if_false, ↓reduceIte]⟩
set_option maxRecDepth 65536 in
set_option maxHeartbeats 40000000 in
theorem own_symc (l : Launch) (Z : State) (a0 : Array Value) (hw : ∀ d ∈ tables_1, d.before a0 Z = true) (h0 : Heap) (hO : Ext Z.heap h0) (n : Int32)  :
    CtrN l Z (⟨"com/example/relaywright/relaywright/outbox/EventIdsEncodePinLaw", "sym", "(I)C"⟩ : MethodName) method_3_code 1 (some .char) ({ frames := 0, cells := 0, slots := 0, locals := 0 } : Room) #[(.int n)] h0 (fun v h' => Keep h0 h' [] ∧ v = some (.int (nar .char (own_symj n)))) := by
  refine CtrN.of (plainFor_of_name pn_1) hO ?_
  intro p e s m below meth c T0 X0 hsh hby hml hret hlk hnm
  refine Goes.cast (ef_own_symc m n) ?_
  show Goes _ _ _ _ T0 (mkF m 0 #[.val (.int n)] [])
  refine Goes.go (fun _ k => XS.iloadN X0.here X0.ex rfl (hb hby d_method_3_0) rfl (XS.bipush X0.here X0.ex rfl (hb hby d_method_3_1) k)) ?_
  show Goes _ _ _ _ T0 (mkF m 3 #[.val (.int n)] [(.int (10 : Int32)), (.int n)])
  refine Goes.icmp (pc' := 12) X0.here X0.ex (hb hby d_method_3_3) (by decide) (by decide) (fun hc3 => ?_) (fun hc3 => ?_)
  · have hc3 : ¬ (n < (10 : Int32)) := hc3
    show Goes _ _ _ _ T0 (mkF m 12 #[.val (.int n)] [])
    refine Goes.go (fun _ k => XS.iloadN X0.here X0.ex rfl (hb hby d_method_3_12) rfl (XS.bipush X0.here X0.ex rfl (hb hby d_method_3_13) k)) ?_
    show Goes _ _ _ _ T0 (mkF m 15 #[.val (.int n)] [(.int (18 : Int32)), (.int n)])
    refine Goes.icmp (pc' := 27) X0.here X0.ex (hb hby d_method_3_15) (by decide) (by decide) (fun hc15 => ?_) (fun hc15 => ?_)
    · have hc15 : ¬ (n < (18 : Int32)) := hc15
      show Goes _ _ _ _ T0 (mkF m 27 #[.val (.int n)] [])
      refine Goes.go (fun _ k => XS.iloadN X0.here X0.ex rfl (hb hby d_method_3_27) rfl (XS.bipush X0.here X0.ex rfl (hb hby d_method_3_28) k)) ?_
      show Goes _ _ _ _ T0 (mkF m 30 #[.val (.int n)] [(.int (20 : Int32)), (.int n)])
      refine Goes.icmp (pc' := 42) X0.here X0.ex (hb hby d_method_3_30) (by decide) (by decide) (fun hc30 => ?_) (fun hc30 => ?_)
      · have hc30 : ¬ (n < (20 : Int32)) := hc30
        show Goes _ _ _ _ T0 (mkF m 42 #[.val (.int n)] [])
        refine Goes.go (fun _ k => XS.iloadN X0.here X0.ex rfl (hb hby d_method_3_42) rfl (XS.bipush X0.here X0.ex rfl (hb hby d_method_3_43) k)) ?_
        show Goes _ _ _ _ T0 (mkF m 45 #[.val (.int n)] [(.int (22 : Int32)), (.int n)])
        refine Goes.icmp (pc' := 57) X0.here X0.ex (hb hby d_method_3_45) (by decide) (by decide) (fun hc45 => ?_) (fun hc45 => ?_)
        · have hc45 : ¬ (n < (22 : Int32)) := hc45
          show Goes _ _ _ _ T0 (mkF m 57 #[.val (.int n)] [])
          refine Goes.go (fun _ k => XS.iloadN X0.here X0.ex rfl (hb hby d_method_3_57) rfl (XS.bipush X0.here X0.ex rfl (hb hby d_method_3_58) k)) ?_
          show Goes _ _ _ _ T0 (mkF m 60 #[.val (.int n)] [(.int (27 : Int32)), (.int n)])
          refine Goes.icmp (pc' := 72) X0.here X0.ex (hb hby d_method_3_60) (by decide) (by decide) (fun hc60 => ?_) (fun hc60 => ?_)
          · have hc60 : ¬ (n < (27 : Int32)) := hc60
            show Goes _ _ _ _ T0 (mkF m 72 #[.val (.int n)] [])
            refine Goes.go (fun _ k => XS.bipush X0.here X0.ex rfl (hb hby d_method_3_72) (XS.iloadN X0.here X0.ex rfl (hb hby d_method_3_74) rfl (XS.bipush X0.here X0.ex rfl (hb hby d_method_3_75) (XS.isub X0.here X0.ex rfl (hb hby d_method_3_77) rfl (XS.iadd X0.here X0.ex rfl (hb hby d_method_3_78) rfl (XS.i2c X0.here X0.ex rfl (hb hby d_method_3_79) rfl k)))))) ?_
            show Goes _ _ _ _ T0 (mkF m 80 #[.val (.int n)] [(.int (((86 : Int32) + (n - (27 : Int32))).toUInt32.toUInt16.toUInt32.toInt32))])
            refine Goes.outN X0 (fun q => by rw [hret] at q; cases q) hlk (X0.rB hret (by simp) (hb hby d_method_3_80)) ?_ (by decide) (by decide)
            exact ⟨Ext.oKeepOf X0.ext [], by unfold own_symj; simp only [hc3, hc15, hc30, hc45, hc60, own_n10, own_n20, own_n21, own_n30, own_n31, own_n32, if_true, if_false, ↓reduceIte]⟩
          · have hc60 : n < (27 : Int32) := Classical.not_not.mp hc60
            show Goes _ _ _ _ T0 (mkF m 63 #[.val (.int n)] [])
            refine Goes.go (fun _ k => XS.bipush X0.here X0.ex rfl (hb hby d_method_3_63) (XS.iloadN X0.here X0.ex rfl (hb hby d_method_3_65) rfl (XS.bipush X0.here X0.ex rfl (hb hby d_method_3_66) (XS.isub X0.here X0.ex rfl (hb hby d_method_3_68) rfl (XS.iadd X0.here X0.ex rfl (hb hby d_method_3_69) rfl (XS.i2c X0.here X0.ex rfl (hb hby d_method_3_70) rfl k)))))) ?_
            show Goes _ _ _ _ T0 (mkF m 71 #[.val (.int n)] [(.int (((80 : Int32) + (n - (22 : Int32))).toUInt32.toUInt16.toUInt32.toInt32))])
            refine Goes.outN X0 (fun q => by rw [hret] at q; cases q) hlk (X0.rB hret (by simp) (hb hby d_method_3_71)) ?_ (by decide) (by decide)
            exact ⟨Ext.oKeepOf X0.ext [], by unfold own_symj; simp only [hc3, hc15, hc30, hc45, hc60, own_n10, own_n20, own_n21, own_n30, own_n31, own_n32, if_true, if_false, ↓reduceIte]⟩
        · have hc45 : n < (22 : Int32) := Classical.not_not.mp hc45
          show Goes _ _ _ _ T0 (mkF m 48 #[.val (.int n)] [])
          refine Goes.go (fun _ k => XS.bipush X0.here X0.ex rfl (hb hby d_method_3_48) (XS.iloadN X0.here X0.ex rfl (hb hby d_method_3_50) rfl (XS.bipush X0.here X0.ex rfl (hb hby d_method_3_51) (XS.isub X0.here X0.ex rfl (hb hby d_method_3_53) rfl (XS.iadd X0.here X0.ex rfl (hb hby d_method_3_54) rfl (XS.i2c X0.here X0.ex rfl (hb hby d_method_3_55) rfl k)))))) ?_
          show Goes _ _ _ _ T0 (mkF m 56 #[.val (.int n)] [(.int (((77 : Int32) + (n - (20 : Int32))).toUInt32.toUInt16.toUInt32.toInt32))])
          refine Goes.outN X0 (fun q => by rw [hret] at q; cases q) hlk (X0.rB hret (by simp) (hb hby d_method_3_56)) ?_ (by decide) (by decide)
          exact ⟨Ext.oKeepOf X0.ext [], by unfold own_symj; simp only [hc3, hc15, hc30, hc45, own_n10, own_n20, own_n21, own_n30, own_n31, own_n32, if_true, if_false, ↓reduceIte]⟩
      · have hc30 : n < (20 : Int32) := Classical.not_not.mp hc30
        show Goes _ _ _ _ T0 (mkF m 33 #[.val (.int n)] [])
        refine Goes.go (fun _ k => XS.bipush X0.here X0.ex rfl (hb hby d_method_3_33) (XS.iloadN X0.here X0.ex rfl (hb hby d_method_3_35) rfl (XS.bipush X0.here X0.ex rfl (hb hby d_method_3_36) (XS.isub X0.here X0.ex rfl (hb hby d_method_3_38) rfl (XS.iadd X0.here X0.ex rfl (hb hby d_method_3_39) rfl (XS.i2c X0.here X0.ex rfl (hb hby d_method_3_40) rfl k)))))) ?_
        show Goes _ _ _ _ T0 (mkF m 41 #[.val (.int n)] [(.int (((74 : Int32) + (n - (18 : Int32))).toUInt32.toUInt16.toUInt32.toInt32))])
        refine Goes.outN X0 (fun q => by rw [hret] at q; cases q) hlk (X0.rB hret (by simp) (hb hby d_method_3_41)) ?_ (by decide) (by decide)
        exact ⟨Ext.oKeepOf X0.ext [], by unfold own_symj; simp only [hc3, hc15, hc30, own_n10, own_n20, own_n21, own_n30, own_n31, own_n32, if_true, if_false, ↓reduceIte]⟩
    · have hc15 : n < (18 : Int32) := Classical.not_not.mp hc15
      show Goes _ _ _ _ T0 (mkF m 18 #[.val (.int n)] [])
      refine Goes.go (fun _ k => XS.bipush X0.here X0.ex rfl (hb hby d_method_3_18) (XS.iloadN X0.here X0.ex rfl (hb hby d_method_3_20) rfl (XS.bipush X0.here X0.ex rfl (hb hby d_method_3_21) (XS.isub X0.here X0.ex rfl (hb hby d_method_3_23) rfl (XS.iadd X0.here X0.ex rfl (hb hby d_method_3_24) rfl (XS.i2c X0.here X0.ex rfl (hb hby d_method_3_25) rfl k)))))) ?_
      show Goes _ _ _ _ T0 (mkF m 26 #[.val (.int n)] [(.int (((65 : Int32) + (n - (10 : Int32))).toUInt32.toUInt16.toUInt32.toInt32))])
      refine Goes.outN X0 (fun q => by rw [hret] at q; cases q) hlk (X0.rB hret (by simp) (hb hby d_method_3_26)) ?_ (by decide) (by decide)
      exact ⟨Ext.oKeepOf X0.ext [], by unfold own_symj; simp only [hc3, hc15, own_n10, own_n20, own_n21, own_n30, own_n31, own_n32, if_true, if_false, ↓reduceIte]⟩
  · have hc3 : n < (10 : Int32) := Classical.not_not.mp hc3
    show Goes _ _ _ _ T0 (mkF m 6 #[.val (.int n)] [])
    refine Goes.go (fun _ k => XS.bipush X0.here X0.ex rfl (hb hby d_method_3_6) (XS.iloadN X0.here X0.ex rfl (hb hby d_method_3_8) rfl (XS.iadd X0.here X0.ex rfl (hb hby d_method_3_9) rfl (XS.i2c X0.here X0.ex rfl (hb hby d_method_3_10) rfl k)))) ?_
    show Goes _ _ _ _ T0 (mkF m 11 #[.val (.int n)] [(.int (((48 : Int32) + n).toUInt32.toUInt16.toUInt32.toInt32))])
    refine Goes.outN X0 (fun q => by rw [hret] at q; cases q) hlk (X0.rB hret (by simp) (hb hby d_method_3_11)) ?_ (by decide) (by decide)
    exact ⟨Ext.oKeepOf X0.ext [], by unfold own_symj; simp only [hc3, own_n10, own_n20, own_n21, own_n30, own_n31, own_n32, if_true, if_false, ↓reduceIte]⟩
set_option maxRecDepth 65536 in
set_option maxHeartbeats 40000000 in
theorem own_law (l : Launch) (Z : State) (a0 : Array Value) (hw : ∀ d ∈ tables_1, d.before a0 Z = true) (h0 : Heap) (hO : Ext Z.heap h0) (t : Int64) (hi : Int64) (lo : Int64) (i3 : Int32) (G1 : Int32) (G3 : Value) (al : Addr) (kA : ClassId) (O2 : Sta Z Z.heap "java/lang/String" "COMPACT_STRINGS" "Z" (.int G1)) (P5 : ¬ (G1 = (0 : Int32))) (OA : Sta Z Z.heap "com/example/relaywright/relaywright/outbox/EventIds" "ALPHABET" "[C" (.ref al)) (VA : Arv Z Z.heap al kA .char (32 : Int32) own_al (.int (0 : Int32))) (O4 : Sta Z Z.heap "jdk/internal/util/Preconditions" "SIOOBE_FORMATTER" "Ljava/util/function/BiFunction;" G3) (rG3 : G3.isRef = true) :
    CtrN l Z x code maxLocals ret room_1 #[(.long t), (.long hi), (.long lo), (.int i3)] h0 (fun v h' => v = some (.int (1 : Int32))) := by
  refine CtrN.of (plainFor_of_name pn_1) hO ?_
  intro p e s m below meth c T0 X0 hsh hby hml hret hlk hnm
  refine Goes.cast (ef_own_law m t hi lo i3) ?_
  show Goes _ _ _ _ T0 (mkF m 0 #[.val (.long t), .second, .val (.long hi), .second, .val (.long lo), .second, .val (.int i3), .unset, .unset, .unset, .unset, .unset] [])
  refine Goes.go (fun _ k => XS.lloadN X0.here X0.ex rfl (hb hby at_0) rfl (XS.lloadN X0.here X0.ex rfl (hb hby at_1) rfl (XS.lload X0.here X0.ex rfl (hb hby at_2) rfl k))) ?_
  show Goes _ _ _ _ T0 (mkF m 4 #[.val (.long t), .second, .val (.long hi), .second, .val (.long lo), .second, .val (.int i3), .unset, .unset, .unset, .unset, .unset] [(.long lo), (.long hi), (.long t)])
  refine Wk.static (hm' := fun _ => h0) (y := (⟨"com/example/relaywright/relaywright/outbox/EventIds", "encode", "(JJJ)Ljava/lang/String;"⟩ : MethodName)) (W := 0) (kc := 3) (ks := 56) (argsL := [(.long t), (.long hi), (.long lo)]) (rest := []) (as' := #[(.long t), (.long hi), (.long lo)]) (ws := []) X0 (w_0 hw) (w_1 hw) (w_2 hw) (w_3 hw) (by decide) (CtrN.pays (own_encode l Z a0 hw h0 X0.old t hi lo G1 al kA O2 P5 OA VA) (w_3 hw) (w_2 hw) (by decide) (by decide)) (fun v h' L q => ⟨q.2, q.1.1⟩) all0 (fun _ => Mark.stay all0) rfl (by rw [hml]; rfl) (lenOf pd_1 rfl) rfl rfl (by show 2 * 0 + _ ≤ _; exact Nat.le_of_eq rfl) (hb hby at_4) (by decide) (by decide) ?_
  intro T58 h58 v58 L58 X58 q58 K58
  obtain ⟨⟨-, a58, rfl, S58⟩, -⟩ := q58
  show Goes _ _ _ _ T58 (mkF m 7 #[.val (.long t), .second, .val (.long hi), .second, .val (.long lo), .second, .val (.int i3), .unset, .unset, .unset, .unset, .unset] [(.ref a58)])
  refine Goes.go (fun _ k => XS.astore X58.here X58.ex rfl (hb hby at_7) rfl rfl (l' := #[.val (.long t), .second, .val (.long hi), .second, .val (.long lo), .second, .val (.int i3), .val (.ref a58), .unset, .unset, .unset, .unset]) rfl (XS.aload X58.here X58.ex rfl (hb hby at_9) rfl rfl k)) ?_
  show Goes _ _ _ _ T58 (mkF m 11 #[.val (.long t), .second, .val (.long hi), .second, .val (.long lo), .second, .val (.int i3), .val (.ref a58), .unset, .unset, .unset, .unset] [(.ref a58)])
  refine Wk.virtual (hm' := fun _ => h0) (C := "java/lang/String") (y := (⟨"java/lang/String", "length", "()I"⟩ : MethodName)) (z := (⟨"java/lang/String", "length", "()I"⟩ : MethodName)) (W := 0) (kc := 0) (ks := 0) (argsL := []) (rest := []) (as' := #[(.ref a58)]) (ws := []) X58 (w_38 hw) (w_39 hw) (w_41 hw) (w_40 hw) (by decide) S58.1 (nf_sel (w_41 hw)) (own_lenP (own_wsLen hw) (kI := 4) (w_10 hw) S58 O2 P5 X58.old (by decide) (by decide)) (fun v h' L q => ⟨by rw [q.2.1]; exact Fr.nil _, by rw [q.2.2]; exact Keep.refl _ _⟩) all0 (fun _ => Mark.stay all0) rfl (by rw [hml]; rfl) (lenOf pd_2 rfl) rfl rfl (by show 2 * 0 + _ ≤ _; exact Nat.le_of_eq rfl) (hb hby at_11) (by decide) (by decide) ?_
  intro T59 h59 v59 L59 X59 q59 K59
  obtain ⟨rfl, -, -⟩ := q59
  replace S58 := S58.ext K59.oExt
  show Goes _ _ _ _ T59 (mkF m 14 #[.val (.long t), .second, .val (.long hi), .second, .val (.long lo), .second, .val (.int i3), .val (.ref a58), .unset, .unset, .unset, .unset] [(.int (26 : Int32))])
  refine Goes.go (fun _ k => XS.bipush X59.here X59.ex rfl (hb hby at_14) (XS.icmpYes X59.here X59.ex rfl (pc0 := 16) (pc' := 21) rfl (hb hby at_16) rfl (cd_t (cd := .eq) (x := (26 : Int32)) (y := (26 : Int32)) (by decide)) (by decide) (by decide) (XS.iload X59.here X59.ex rfl (hb hby at_21) rfl k))) ?_
  show Goes _ _ _ _ T59 (mkF m 23 #[.val (.long t), .second, .val (.long hi), .second, .val (.long lo), .second, .val (.int i3), .val (.ref a58), .unset, .unset, .unset, .unset] [(.int i3)])
  refine Goes.go (X59.ldcI (w_48 hw) rfl (hb hby at_23)) ?_
  show Goes _ _ _ _ T59 (mkF m 25 #[.val (.long t), .second, .val (.long hi), .second, .val (.long lo), .second, .val (.int i3), .val (.ref a58), .unset, .unset, .unset, .unset] [(.int (2147483647 : Int32)), (.int i3)])
  refine Goes.go (fun _ k => XS.iand X59.here X59.ex rfl (hb hby at_25) rfl (XS.bipush X59.here X59.ex rfl (hb hby at_26) (XS.irem X59.here X59.ex rfl (hb hby at_28) rfl (by decide) (XS.istore X59.here X59.ex rfl (hb hby at_29) rfl (l' := #[.val (.long t), .second, .val (.long hi), .second, .val (.long lo), .second, .val (.int i3), .val (.ref a58), .val (.int ((i3 &&& (2147483647 : Int32)) - ((i3 &&& (2147483647 : Int32)) / (26 : Int32)) * (26 : Int32))), .unset, .unset, .unset]) rfl k)))) ?_
  show Goes _ _ _ _ T59 (mkF m 31 #[.val (.long t), .second, .val (.long hi), .second, .val (.long lo), .second, .val (.int i3), .val (.ref a58), .val (.int ((i3 &&& (2147483647 : Int32)) - ((i3 &&& (2147483647 : Int32)) / (26 : Int32)) * (26 : Int32))), .unset, .unset, .unset] [])
  obtain ⟨ps, hps⟩ : ∃ z : Int32, z = ((i3 &&& (2147483647 : Int32)) - ((i3 &&& (2147483647 : Int32)) / (26 : Int32)) * (26 : Int32)) := ⟨_, rfl⟩
  refine Goes.cast (show (mkF m 31 #[.val (.long t), .second, .val (.long hi), .second, .val (.long lo), .second, .val (.int i3), .val (.ref a58), .val (.int ((i3 &&& (2147483647 : Int32)) - ((i3 &&& (2147483647 : Int32)) / (26 : Int32)) * (26 : Int32))), .unset, .unset, .unset] []) = (mkF m 31 #[.val (.long t), .second, .val (.long hi), .second, .val (.long lo), .second, .val (.int i3), .val (.ref a58), .val (.int ps), .unset, .unset, .unset] []) from by rw [hps]) ?_
  show Goes _ _ _ _ T59 (mkF m 31 #[.val (.long t), .second, .val (.long hi), .second, .val (.long lo), .second, .val (.int i3), .val (.ref a58), .val (.int ps), .unset, .unset, .unset] [])
  have hr := own_rem i3 (2147483647 : Int32) (26 : Int32) (by decide) (by decide)
  rw [← hps] at hr
  obtain ⟨n, hn26, hpn⟩ := own_n26 hr
  refine Goes.go (fun _ k => XS.iconst X59.here X59.ex rfl (hb hby at_31) (XS.bipush X59.here X59.ex rfl (hb hby at_32) (XS.iload X59.here X59.ex rfl (hb hby at_34) rfl (XS.isub X59.here X59.ex rfl (hb hby at_36) rfl (XS.imul X59.here X59.ex rfl (hb hby at_37) rfl (XS.istore X59.here X59.ex rfl (hb hby at_38) rfl (l' := #[.val (.long t), .second, .val (.long hi), .second, .val (.long lo), .second, .val (.int i3), .val (.ref a58), .val (.int ps), .val (.int ((5 : Int32) * ((25 : Int32) - ps))), .unset, .unset]) rfl k)))))) ?_
  show Goes _ _ _ _ T59 (mkF m 40 #[.val (.long t), .second, .val (.long hi), .second, .val (.long lo), .second, .val (.int i3), .val (.ref a58), .val (.int ps), .val (.int ((5 : Int32) * ((25 : Int32) - ps))), .unset, .unset] [])
  obtain ⟨kk, hkk⟩ : ∃ z : Int32, z = ((5 : Int32) * ((25 : Int32) - ps)) := ⟨_, rfl⟩
  refine Goes.cast (show (mkF m 40 #[.val (.long t), .second, .val (.long hi), .second, .val (.long lo), .second, .val (.int i3), .val (.ref a58), .val (.int ps), .val (.int ((5 : Int32) * ((25 : Int32) - ps))), .unset, .unset] []) = (mkF m 40 #[.val (.long t), .second, .val (.long hi), .second, .val (.long lo), .second, .val (.int i3), .val (.ref a58), .val (.int ps), .val (.int kk), .unset, .unset] []) from by rw [hkk]) ?_
  show Goes _ _ _ _ T59 (mkF m 40 #[.val (.long t), .second, .val (.long hi), .second, .val (.long lo), .second, .val (.int i3), .val (.ref a58), .val (.int ps), .val (.int kk), .unset, .unset] [])
  refine Goes.go (fun _ k => XS.lloadN X59.here X59.ex rfl (hb hby at_40) rfl (XS.lloadN X59.here X59.ex rfl (hb hby at_41) rfl (XS.lload X59.here X59.ex rfl (hb hby at_42) rfl (XS.iload X59.here X59.ex rfl (hb hby at_44) rfl k)))) ?_
  show Goes _ _ _ _ T59 (mkF m 46 #[.val (.long t), .second, .val (.long hi), .second, .val (.long lo), .second, .val (.int i3), .val (.ref a58), .val (.int ps), .val (.int kk), .unset, .unset] [(.int kk), (.long lo), (.long hi), (.long t)])
  refine Wk.static (hm' := fun _ => h0) (y := (⟨"com/example/relaywright/relaywright/outbox/EventIdsEncodePinLaw", "bit", "(JJJI)J"⟩ : MethodName)) (W := 0) (kc := 0) (ks := 0) (argsL := [(.long t), (.long hi), (.long lo), (.int kk)]) (rest := []) (as' := #[(.long t), (.long hi), (.long lo), (.int kk)]) (ws := []) X59 (w_49 hw) (w_50 hw) (w_51 hw) (w_52 hw) (by decide) (CtrN.pays (own_bitc l Z a0 hw h59 X59.old t hi lo kk) (w_52 hw) (w_51 hw) (by decide) (by decide)) (fun v h' L q => ⟨q.2, q.1.1⟩) all0 (fun _ => Mark.stay all0) rfl (by rw [hml]; rfl) (lenOf pd_3 rfl) rfl rfl (by show 2 * 0 + _ ≤ _; exact Nat.le_of_eq rfl) (hb hby at_46) (by decide) (by decide) ?_
  intro T60 h60 v60 L60 X60 q60 K60
  obtain ⟨⟨-, rfl⟩, -⟩ := q60
  replace S58 := S58.ext K60.oExt
  show Goes _ _ _ _ T60 (mkF m 49 #[.val (.long t), .second, .val (.long hi), .second, .val (.long lo), .second, .val (.int i3), .val (.ref a58), .val (.int ps), .val (.int kk), .unset, .unset] [(.long (own_bit t hi lo kk))])
  refine Goes.go (fun _ k => XS.lloadN X60.here X60.ex rfl (hb hby at_49) rfl (XS.lloadN X60.here X60.ex rfl (hb hby at_50) rfl (XS.lload X60.here X60.ex rfl (hb hby at_51) rfl (XS.iload X60.here X60.ex rfl (hb hby at_53) rfl (XS.iconst X60.here X60.ex rfl (hb hby at_55) (XS.iadd X60.here X60.ex rfl (hb hby at_56) rfl k)))))) ?_
  show Goes _ _ _ _ T60 (mkF m 57 #[.val (.long t), .second, .val (.long hi), .second, .val (.long lo), .second, .val (.int i3), .val (.ref a58), .val (.int ps), .val (.int kk), .unset, .unset] [(.int (kk + (1 : Int32))), (.long lo), (.long hi), (.long t), (.long (own_bit t hi lo kk))])
  refine Wk.static (hm' := fun _ => h0) (y := (⟨"com/example/relaywright/relaywright/outbox/EventIdsEncodePinLaw", "bit", "(JJJI)J"⟩ : MethodName)) (W := 2) (kc := 0) (ks := 0) (argsL := [(.long t), (.long hi), (.long lo), (.int (kk + (1 : Int32)))]) (rest := [(.long (own_bit t hi lo kk))]) (as' := #[(.long t), (.long hi), (.long lo), (.int (kk + (1 : Int32)))]) (ws := []) X60 (w_49 hw) (w_50 hw) (w_51 hw) (w_52 hw) (by decide) (CtrN.pays (own_bitc l Z a0 hw h60 X60.old t hi lo (kk + (1 : Int32))) (w_52 hw) (w_51 hw) (by decide) (by decide)) (fun v h' L q => ⟨q.2, q.1.1⟩) all0 (fun _ => Mark.stay all0) rfl (by rw [hml]; rfl) (lenOf pd_3 rfl) rfl rfl (by show 2 * 0 + _ ≤ _; exact Nat.le_of_eq rfl) (hb hby at_57) (by decide) (by decide) ?_
  intro T61 h61 v61 L61 X61 q61 K61
  obtain ⟨⟨-, rfl⟩, -⟩ := q61
  replace S58 := S58.ext K61.oExt
  show Goes _ _ _ _ T61 (mkF m 60 #[.val (.long t), .second, .val (.long hi), .second, .val (.long lo), .second, .val (.int i3), .val (.ref a58), .val (.int ps), .val (.int kk), .unset, .unset] [(.long (own_bit t hi lo (kk + (1 : Int32)))), (.long (own_bit t hi lo kk))])
  refine Goes.go (fun _ k => XS.iconst X61.here X61.ex rfl (hb hby at_60) (XS.lshl X61.here X61.ex rfl (hb hby at_61) rfl (XS.lor X61.here X61.ex rfl (hb hby at_62) rfl (XS.lloadN X61.here X61.ex rfl (hb hby at_63) rfl (XS.lloadN X61.here X61.ex rfl (hb hby at_64) rfl (XS.lload X61.here X61.ex rfl (hb hby at_65) rfl k)))))) ?_
  show Goes _ _ _ _ T61 (mkF m 67 #[.val (.long t), .second, .val (.long hi), .second, .val (.long lo), .second, .val (.int i3), .val (.ref a58), .val (.int ps), .val (.int kk), .unset, .unset] [(.long lo), (.long hi), (.long t), (.long ((own_bit t hi lo kk) ||| ((own_bit t hi lo (kk + (1 : Int32))) <<< ((1 : Int32) &&& 0x3f).toInt64)))])
  refine Goes.go (fun _ k => XS.iload X61.here X61.ex rfl (hb hby at_67) rfl (XS.iconst X61.here X61.ex rfl (hb hby at_69) (XS.iadd X61.here X61.ex rfl (hb hby at_70) rfl k))) ?_
  show Goes _ _ _ _ T61 (mkF m 71 #[.val (.long t), .second, .val (.long hi), .second, .val (.long lo), .second, .val (.int i3), .val (.ref a58), .val (.int ps), .val (.int kk), .unset, .unset] [(.int (kk + (2 : Int32))), (.long lo), (.long hi), (.long t), (.long ((own_bit t hi lo kk) ||| ((own_bit t hi lo (kk + (1 : Int32))) <<< ((1 : Int32) &&& 0x3f).toInt64)))])
  refine Wk.static (hm' := fun _ => h0) (y := (⟨"com/example/relaywright/relaywright/outbox/EventIdsEncodePinLaw", "bit", "(JJJI)J"⟩ : MethodName)) (W := 2) (kc := 0) (ks := 0) (argsL := [(.long t), (.long hi), (.long lo), (.int (kk + (2 : Int32)))]) (rest := [(.long ((own_bit t hi lo kk) ||| ((own_bit t hi lo (kk + (1 : Int32))) <<< ((1 : Int32) &&& 0x3f).toInt64)))]) (as' := #[(.long t), (.long hi), (.long lo), (.int (kk + (2 : Int32)))]) (ws := []) X61 (w_49 hw) (w_50 hw) (w_51 hw) (w_52 hw) (by decide) (CtrN.pays (own_bitc l Z a0 hw h61 X61.old t hi lo (kk + (2 : Int32))) (w_52 hw) (w_51 hw) (by decide) (by decide)) (fun v h' L q => ⟨q.2, q.1.1⟩) all0 (fun _ => Mark.stay all0) rfl (by rw [hml]; rfl) (lenOf pd_3 rfl) rfl rfl (by show 2 * 0 + _ ≤ _; exact Nat.le_of_eq rfl) (hb hby at_71) (by decide) (by decide) ?_
  intro T62 h62 v62 L62 X62 q62 K62
  obtain ⟨⟨-, rfl⟩, -⟩ := q62
  replace S58 := S58.ext K62.oExt
  show Goes _ _ _ _ T62 (mkF m 74 #[.val (.long t), .second, .val (.long hi), .second, .val (.long lo), .second, .val (.int i3), .val (.ref a58), .val (.int ps), .val (.int kk), .unset, .unset] [(.long (own_bit t hi lo (kk + (2 : Int32)))), (.long ((own_bit t hi lo kk) ||| ((own_bit t hi lo (kk + (1 : Int32))) <<< ((1 : Int32) &&& 0x3f).toInt64)))])
  refine Goes.go (fun _ k => XS.iconst X62.here X62.ex rfl (hb hby at_74) (XS.lshl X62.here X62.ex rfl (hb hby at_75) rfl (XS.lor X62.here X62.ex rfl (hb hby at_76) rfl (XS.lloadN X62.here X62.ex rfl (hb hby at_77) rfl (XS.lloadN X62.here X62.ex rfl (hb hby at_78) rfl (XS.lload X62.here X62.ex rfl (hb hby at_79) rfl k)))))) ?_
  show Goes _ _ _ _ T62 (mkF m 81 #[.val (.long t), .second, .val (.long hi), .second, .val (.long lo), .second, .val (.int i3), .val (.ref a58), .val (.int ps), .val (.int kk), .unset, .unset] [(.long lo), (.long hi), (.long t), (.long (((own_bit t hi lo kk) ||| ((own_bit t hi lo (kk + (1 : Int32))) <<< ((1 : Int32) &&& 0x3f).toInt64)) ||| ((own_bit t hi lo (kk + (2 : Int32))) <<< ((2 : Int32) &&& 0x3f).toInt64)))])
  refine Goes.go (fun _ k => XS.iload X62.here X62.ex rfl (hb hby at_81) rfl (XS.iconst X62.here X62.ex rfl (hb hby at_83) (XS.iadd X62.here X62.ex rfl (hb hby at_84) rfl k))) ?_
  show Goes _ _ _ _ T62 (mkF m 85 #[.val (.long t), .second, .val (.long hi), .second, .val (.long lo), .second, .val (.int i3), .val (.ref a58), .val (.int ps), .val (.int kk), .unset, .unset] [(.int (kk + (3 : Int32))), (.long lo), (.long hi), (.long t), (.long (((own_bit t hi lo kk) ||| ((own_bit t hi lo (kk + (1 : Int32))) <<< ((1 : Int32) &&& 0x3f).toInt64)) ||| ((own_bit t hi lo (kk + (2 : Int32))) <<< ((2 : Int32) &&& 0x3f).toInt64)))])
  refine Wk.static (hm' := fun _ => h0) (y := (⟨"com/example/relaywright/relaywright/outbox/EventIdsEncodePinLaw", "bit", "(JJJI)J"⟩ : MethodName)) (W := 2) (kc := 0) (ks := 0) (argsL := [(.long t), (.long hi), (.long lo), (.int (kk + (3 : Int32)))]) (rest := [(.long (((own_bit t hi lo kk) ||| ((own_bit t hi lo (kk + (1 : Int32))) <<< ((1 : Int32) &&& 0x3f).toInt64)) ||| ((own_bit t hi lo (kk + (2 : Int32))) <<< ((2 : Int32) &&& 0x3f).toInt64)))]) (as' := #[(.long t), (.long hi), (.long lo), (.int (kk + (3 : Int32)))]) (ws := []) X62 (w_49 hw) (w_50 hw) (w_51 hw) (w_52 hw) (by decide) (CtrN.pays (own_bitc l Z a0 hw h62 X62.old t hi lo (kk + (3 : Int32))) (w_52 hw) (w_51 hw) (by decide) (by decide)) (fun v h' L q => ⟨q.2, q.1.1⟩) all0 (fun _ => Mark.stay all0) rfl (by rw [hml]; rfl) (lenOf pd_3 rfl) rfl rfl (by show 2 * 0 + _ ≤ _; exact Nat.le_of_eq rfl) (hb hby at_85) (by decide) (by decide) ?_
  intro T63 h63 v63 L63 X63 q63 K63
  obtain ⟨⟨-, rfl⟩, -⟩ := q63
  replace S58 := S58.ext K63.oExt
  show Goes _ _ _ _ T63 (mkF m 88 #[.val (.long t), .second, .val (.long hi), .second, .val (.long lo), .second, .val (.int i3), .val (.ref a58), .val (.int ps), .val (.int kk), .unset, .unset] [(.long (own_bit t hi lo (kk + (3 : Int32)))), (.long (((own_bit t hi lo kk) ||| ((own_bit t hi lo (kk + (1 : Int32))) <<< ((1 : Int32) &&& 0x3f).toInt64)) ||| ((own_bit t hi lo (kk + (2 : Int32))) <<< ((2 : Int32) &&& 0x3f).toInt64)))])
  refine Goes.go (fun _ k => XS.iconst X63.here X63.ex rfl (hb hby at_88) (XS.lshl X63.here X63.ex rfl (hb hby at_89) rfl (XS.lor X63.here X63.ex rfl (hb hby at_90) rfl (XS.lloadN X63.here X63.ex rfl (hb hby at_91) rfl (XS.lloadN X63.here X63.ex rfl (hb hby at_92) rfl (XS.lload X63.here X63.ex rfl (hb hby at_93) rfl k)))))) ?_
  show Goes _ _ _ _ T63 (mkF m 95 #[.val (.long t), .second, .val (.long hi), .second, .val (.long lo), .second, .val (.int i3), .val (.ref a58), .val (.int ps), .val (.int kk), .unset, .unset] [(.long lo), (.long hi), (.long t), (.long ((((own_bit t hi lo kk) ||| ((own_bit t hi lo (kk + (1 : Int32))) <<< ((1 : Int32) &&& 0x3f).toInt64)) ||| ((own_bit t hi lo (kk + (2 : Int32))) <<< ((2 : Int32) &&& 0x3f).toInt64)) ||| ((own_bit t hi lo (kk + (3 : Int32))) <<< ((3 : Int32) &&& 0x3f).toInt64)))])
  refine Goes.go (fun _ k => XS.iload X63.here X63.ex rfl (hb hby at_95) rfl (XS.iconst X63.here X63.ex rfl (hb hby at_97) (XS.iadd X63.here X63.ex rfl (hb hby at_98) rfl k))) ?_
  show Goes _ _ _ _ T63 (mkF m 99 #[.val (.long t), .second, .val (.long hi), .second, .val (.long lo), .second, .val (.int i3), .val (.ref a58), .val (.int ps), .val (.int kk), .unset, .unset] [(.int (kk + (4 : Int32))), (.long lo), (.long hi), (.long t), (.long ((((own_bit t hi lo kk) ||| ((own_bit t hi lo (kk + (1 : Int32))) <<< ((1 : Int32) &&& 0x3f).toInt64)) ||| ((own_bit t hi lo (kk + (2 : Int32))) <<< ((2 : Int32) &&& 0x3f).toInt64)) ||| ((own_bit t hi lo (kk + (3 : Int32))) <<< ((3 : Int32) &&& 0x3f).toInt64)))])
  refine Wk.static (hm' := fun _ => h0) (y := (⟨"com/example/relaywright/relaywright/outbox/EventIdsEncodePinLaw", "bit", "(JJJI)J"⟩ : MethodName)) (W := 2) (kc := 0) (ks := 0) (argsL := [(.long t), (.long hi), (.long lo), (.int (kk + (4 : Int32)))]) (rest := [(.long ((((own_bit t hi lo kk) ||| ((own_bit t hi lo (kk + (1 : Int32))) <<< ((1 : Int32) &&& 0x3f).toInt64)) ||| ((own_bit t hi lo (kk + (2 : Int32))) <<< ((2 : Int32) &&& 0x3f).toInt64)) ||| ((own_bit t hi lo (kk + (3 : Int32))) <<< ((3 : Int32) &&& 0x3f).toInt64)))]) (as' := #[(.long t), (.long hi), (.long lo), (.int (kk + (4 : Int32)))]) (ws := []) X63 (w_49 hw) (w_50 hw) (w_51 hw) (w_52 hw) (by decide) (CtrN.pays (own_bitc l Z a0 hw h63 X63.old t hi lo (kk + (4 : Int32))) (w_52 hw) (w_51 hw) (by decide) (by decide)) (fun v h' L q => ⟨q.2, q.1.1⟩) all0 (fun _ => Mark.stay all0) rfl (by rw [hml]; rfl) (lenOf pd_3 rfl) rfl rfl (by show 2 * 0 + _ ≤ _; exact Nat.le_of_eq rfl) (hb hby at_99) (by decide) (by decide) ?_
  intro T64 h64 v64 L64 X64 q64 K64
  obtain ⟨⟨-, rfl⟩, -⟩ := q64
  replace S58 := S58.ext K64.oExt
  show Goes _ _ _ _ T64 (mkF m 102 #[.val (.long t), .second, .val (.long hi), .second, .val (.long lo), .second, .val (.int i3), .val (.ref a58), .val (.int ps), .val (.int kk), .unset, .unset] [(.long (own_bit t hi lo (kk + (4 : Int32)))), (.long ((((own_bit t hi lo kk) ||| ((own_bit t hi lo (kk + (1 : Int32))) <<< ((1 : Int32) &&& 0x3f).toInt64)) ||| ((own_bit t hi lo (kk + (2 : Int32))) <<< ((2 : Int32) &&& 0x3f).toInt64)) ||| ((own_bit t hi lo (kk + (3 : Int32))) <<< ((3 : Int32) &&& 0x3f).toInt64)))])
  refine Goes.go (fun _ k => XS.iconst X64.here X64.ex rfl (hb hby at_102) (XS.lshl X64.here X64.ex rfl (hb hby at_103) rfl (XS.lor X64.here X64.ex rfl (hb hby at_104) rfl (XS.lstore X64.here X64.ex rfl (hb hby at_105) rfl (l' := #[.val (.long t), .second, .val (.long hi), .second, .val (.long lo), .second, .val (.int i3), .val (.ref a58), .val (.int ps), .val (.int kk), .val (.long (((((own_bit t hi lo kk) ||| ((own_bit t hi lo (kk + (1 : Int32))) <<< ((1 : Int32) &&& 0x3f).toInt64)) ||| ((own_bit t hi lo (kk + (2 : Int32))) <<< ((2 : Int32) &&& 0x3f).toInt64)) ||| ((own_bit t hi lo (kk + (3 : Int32))) <<< ((3 : Int32) &&& 0x3f).toInt64)) ||| ((own_bit t hi lo (kk + (4 : Int32))) <<< ((4 : Int32) &&& 0x3f).toInt64))), .second]) rfl (XS.aload X64.here X64.ex rfl (hb hby at_107) rfl rfl (XS.iload X64.here X64.ex rfl (hb hby at_109) rfl k)))))) ?_
  show Goes _ _ _ _ T64 (mkF m 111 #[.val (.long t), .second, .val (.long hi), .second, .val (.long lo), .second, .val (.int i3), .val (.ref a58), .val (.int ps), .val (.int kk), .val (.long (((((own_bit t hi lo kk) ||| ((own_bit t hi lo (kk + (1 : Int32))) <<< ((1 : Int32) &&& 0x3f).toInt64)) ||| ((own_bit t hi lo (kk + (2 : Int32))) <<< ((2 : Int32) &&& 0x3f).toInt64)) ||| ((own_bit t hi lo (kk + (3 : Int32))) <<< ((3 : Int32) &&& 0x3f).toInt64)) ||| ((own_bit t hi lo (kk + (4 : Int32))) <<< ((4 : Int32) &&& 0x3f).toInt64))), .second] [(.int ps), (.ref a58)])
  refine Wk.virtual (hm' := fun _ => h0) (C := "java/lang/String") (y := (⟨"java/lang/String", "charAt", "(I)C"⟩ : MethodName)) (z := (⟨"java/lang/String", "charAt", "(I)C"⟩ : MethodName)) (W := 0) (kc := 0) (ks := 0) (argsL := [(.int ps)]) (rest := []) (as' := #[(.ref a58), (.int ps)]) (ws := []) X64 (w_53 hw) (w_54 hw) (w_56 hw) (w_55 hw) (by decide) S58.1 (nf_sel (w_56 hw)) (own_chP (own_wsCh hw) (kI := 4) (w_10 hw) S58 O2 P5 X64.old O4 rG3 (i := n) (show n < (own_enc t hi lo).length from hn26) hpn (by decide) (by decide)) (fun v h' L q => ⟨by rw [q.2.1]; exact Fr.nil _, by rw [q.2.2]; exact Keep.refl _ _⟩) all0 (fun _ => Mark.stay all0) rfl (by rw [hml]; rfl) (lenOf pd_4 rfl) rfl rfl (by show 2 * 0 + _ ≤ _; exact Nat.le_of_eq rfl) (hb hby at_111) (by decide) (by decide) ?_
  intro T65 h65 v65 L65 X65 q65 K65
  obtain ⟨rfl, -, -⟩ := q65
  replace S58 := S58.ext K65.oExt
  show Goes _ _ _ _ T65 (mkF m 114 #[.val (.long t), .second, .val (.long hi), .second, .val (.long lo), .second, .val (.int i3), .val (.ref a58), .val (.int ps), .val (.int kk), .val (.long (((((own_bit t hi lo kk) ||| ((own_bit t hi lo (kk + (1 : Int32))) <<< ((1 : Int32) &&& 0x3f).toInt64)) ||| ((own_bit t hi lo (kk + (2 : Int32))) <<< ((2 : Int32) &&& 0x3f).toInt64)) ||| ((own_bit t hi lo (kk + (3 : Int32))) <<< ((3 : Int32) &&& 0x3f).toInt64)) ||| ((own_bit t hi lo (kk + (4 : Int32))) <<< ((4 : Int32) &&& 0x3f).toInt64))), .second] [(.int ((own_enc t hi lo).getD n 0))])
  refine Goes.go (fun _ k => XS.lload X65.here X65.ex rfl (hb hby at_114) rfl (XS.l2i X65.here X65.ex rfl (hb hby at_116) rfl k)) ?_
  show Goes _ _ _ _ T65 (mkF m 117 #[.val (.long t), .second, .val (.long hi), .second, .val (.long lo), .second, .val (.int i3), .val (.ref a58), .val (.int ps), .val (.int kk), .val (.long (((((own_bit t hi lo kk) ||| ((own_bit t hi lo (kk + (1 : Int32))) <<< ((1 : Int32) &&& 0x3f).toInt64)) ||| ((own_bit t hi lo (kk + (2 : Int32))) <<< ((2 : Int32) &&& 0x3f).toInt64)) ||| ((own_bit t hi lo (kk + (3 : Int32))) <<< ((3 : Int32) &&& 0x3f).toInt64)) ||| ((own_bit t hi lo (kk + (4 : Int32))) <<< ((4 : Int32) &&& 0x3f).toInt64))), .second] [(.int ((((((own_bit t hi lo kk) ||| ((own_bit t hi lo (kk + (1 : Int32))) <<< ((1 : Int32) &&& 0x3f).toInt64)) ||| ((own_bit t hi lo (kk + (2 : Int32))) <<< ((2 : Int32) &&& 0x3f).toInt64)) ||| ((own_bit t hi lo (kk + (3 : Int32))) <<< ((3 : Int32) &&& 0x3f).toInt64)) ||| ((own_bit t hi lo (kk + (4 : Int32))) <<< ((4 : Int32) &&& 0x3f).toInt64)).toInt32)), (.int ((own_enc t hi lo).getD n 0))])
  refine Wk.static (hm' := fun _ => h0) (y := (⟨"com/example/relaywright/relaywright/outbox/EventIdsEncodePinLaw", "sym", "(I)C"⟩ : MethodName)) (W := 1) (kc := 0) (ks := 0) (argsL := [(.int ((((((own_bit t hi lo kk) ||| ((own_bit t hi lo (kk + (1 : Int32))) <<< ((1 : Int32) &&& 0x3f).toInt64)) ||| ((own_bit t hi lo (kk + (2 : Int32))) <<< ((2 : Int32) &&& 0x3f).toInt64)) ||| ((own_bit t hi lo (kk + (3 : Int32))) <<< ((3 : Int32) &&& 0x3f).toInt64)) ||| ((own_bit t hi lo (kk + (4 : Int32))) <<< ((4 : Int32) &&& 0x3f).toInt64)).toInt32))]) (rest := [(.int ((own_enc t hi lo).getD n 0))]) (as' := #[(.int ((((((own_bit t hi lo kk) ||| ((own_bit t hi lo (kk + (1 : Int32))) <<< ((1 : Int32) &&& 0x3f).toInt64)) ||| ((own_bit t hi lo (kk + (2 : Int32))) <<< ((2 : Int32) &&& 0x3f).toInt64)) ||| ((own_bit t hi lo (kk + (3 : Int32))) <<< ((3 : Int32) &&& 0x3f).toInt64)) ||| ((own_bit t hi lo (kk + (4 : Int32))) <<< ((4 : Int32) &&& 0x3f).toInt64)).toInt32))]) (ws := []) X65 (w_75 hw) (w_76 hw) (w_51 hw) (w_77 hw) (by decide) (CtrN.pays (own_symc l Z a0 hw h65 X65.old ((((((own_bit t hi lo kk) ||| ((own_bit t hi lo (kk + (1 : Int32))) <<< ((1 : Int32) &&& 0x3f).toInt64)) ||| ((own_bit t hi lo (kk + (2 : Int32))) <<< ((2 : Int32) &&& 0x3f).toInt64)) ||| ((own_bit t hi lo (kk + (3 : Int32))) <<< ((3 : Int32) &&& 0x3f).toInt64)) ||| ((own_bit t hi lo (kk + (4 : Int32))) <<< ((4 : Int32) &&& 0x3f).toInt64)).toInt32)) (w_77 hw) (w_51 hw) (by decide) (by decide)) (fun v h' L q => ⟨q.2, q.1.1⟩) all0 (fun _ => Mark.stay all0) rfl (by rw [hml]; rfl) (lenOf pd_4 rfl) rfl rfl (by show 2 * 0 + _ ≤ _; exact Nat.le_of_eq rfl) (hb hby at_117) (by decide) (by decide) ?_
  intro T66 h66 v66 L66 X66 q66 K66
  obtain ⟨⟨-, rfl⟩, -⟩ := q66
  show Goes _ _ _ _ T66 (mkF m 120 #[.val (.long t), .second, .val (.long hi), .second, .val (.long lo), .second, .val (.int i3), .val (.ref a58), .val (.int ps), .val (.int kk), .val (.long (((((own_bit t hi lo kk) ||| ((own_bit t hi lo (kk + (1 : Int32))) <<< ((1 : Int32) &&& 0x3f).toInt64)) ||| ((own_bit t hi lo (kk + (2 : Int32))) <<< ((2 : Int32) &&& 0x3f).toInt64)) ||| ((own_bit t hi lo (kk + (3 : Int32))) <<< ((3 : Int32) &&& 0x3f).toInt64)) ||| ((own_bit t hi lo (kk + (4 : Int32))) <<< ((4 : Int32) &&& 0x3f).toInt64))), .second] [(.int (nar .char (own_symj ((((((own_bit t hi lo kk) ||| ((own_bit t hi lo (kk + (1 : Int32))) <<< ((1 : Int32) &&& 0x3f).toInt64)) ||| ((own_bit t hi lo (kk + (2 : Int32))) <<< ((2 : Int32) &&& 0x3f).toInt64)) ||| ((own_bit t hi lo (kk + (3 : Int32))) <<< ((3 : Int32) &&& 0x3f).toInt64)) ||| ((own_bit t hi lo (kk + (4 : Int32))) <<< ((4 : Int32) &&& 0x3f).toInt64)).toInt32)))), (.int ((own_enc t hi lo).getD n 0))])
  have hF : ((own_enc t hi lo).getD n 0) = (nar .char (own_symj ((((((own_bit t hi lo kk) ||| ((own_bit t hi lo (kk + (1 : Int32))) <<< ((1 : Int32) &&& 0x3f).toInt64)) ||| ((own_bit t hi lo (kk + (2 : Int32))) <<< ((2 : Int32) &&& 0x3f).toInt64)) ||| ((own_bit t hi lo (kk + (3 : Int32))) <<< ((3 : Int32) &&& 0x3f).toInt64)) ||| ((own_bit t hi lo (kk + (4 : Int32))) <<< ((4 : Int32) &&& 0x3f).toInt64)).toInt32))) := own_final t hi lo n hn26 (kk := kk) (by rw [hkk, hpn])
  refine Goes.go (fun _ k => XS.icmpNo X66.here X66.ex rfl (hb hby at_120) rfl (cd_f (cd := .ne) (x := ((own_enc t hi lo).getD n 0)) (y := (nar .char (own_symj ((((((own_bit t hi lo kk) ||| ((own_bit t hi lo (kk + (1 : Int32))) <<< ((1 : Int32) &&& 0x3f).toInt64)) ||| ((own_bit t hi lo (kk + (2 : Int32))) <<< ((2 : Int32) &&& 0x3f).toInt64)) ||| ((own_bit t hi lo (kk + (3 : Int32))) <<< ((3 : Int32) &&& 0x3f).toInt64)) ||| ((own_bit t hi lo (kk + (4 : Int32))) <<< ((4 : Int32) &&& 0x3f).toInt64)).toInt32)))) ((fun q => absurd (hF) q))) k) ?_
  show Goes _ _ _ _ T66 (mkF m 123 #[.val (.long t), .second, .val (.long hi), .second, .val (.long lo), .second, .val (.int i3), .val (.ref a58), .val (.int ps), .val (.int kk), .val (.long (((((own_bit t hi lo kk) ||| ((own_bit t hi lo (kk + (1 : Int32))) <<< ((1 : Int32) &&& 0x3f).toInt64)) ||| ((own_bit t hi lo (kk + (2 : Int32))) <<< ((2 : Int32) &&& 0x3f).toInt64)) ||| ((own_bit t hi lo (kk + (3 : Int32))) <<< ((3 : Int32) &&& 0x3f).toInt64)) ||| ((own_bit t hi lo (kk + (4 : Int32))) <<< ((4 : Int32) &&& 0x3f).toInt64))), .second] [])
  refine Goes.go (fun _ k => XS.iconst X66.here X66.ex rfl (hb hby at_123) (XS.goto X66.here X66.ex rfl (pc0 := 124) (pc' := 128) rfl (hb hby at_124) (by decide) (by decide) k)) ?_
  show Goes _ _ _ _ T66 (mkF m 128 #[.val (.long t), .second, .val (.long hi), .second, .val (.long lo), .second, .val (.int i3), .val (.ref a58), .val (.int ps), .val (.int kk), .val (.long (((((own_bit t hi lo kk) ||| ((own_bit t hi lo (kk + (1 : Int32))) <<< ((1 : Int32) &&& 0x3f).toInt64)) ||| ((own_bit t hi lo (kk + (2 : Int32))) <<< ((2 : Int32) &&& 0x3f).toInt64)) ||| ((own_bit t hi lo (kk + (3 : Int32))) <<< ((3 : Int32) &&& 0x3f).toInt64)) ||| ((own_bit t hi lo (kk + (4 : Int32))) <<< ((4 : Int32) &&& 0x3f).toInt64))), .second] [(.int (1 : Int32))])
  refine Goes.outN X66 (fun q => by rw [hret] at q; cases q) hlk (X66.rB hret (by simp) (hb hby at_128)) ?_ (by decide) (by decide)
  exact rfl
set_option maxRecDepth 65536 in
set_option maxHeartbeats 40000000 in
theorem comes_1 {Post : Tables → Env → Array Value → State → Outcome → State → Prop} (hpost : ∀ tb e args s v u, (limb_1_1.after args s (.returned v) u = true ∧ limb_1_2.after args s (.returned v) u = true ∧ True) → Framed s (.returned v) u (Jvm.fieldLocs frame_1_writes args s ++ Jvm.arrayLocs frame_1_arrays args s ++ Jvm.staticLocs frame_1_statics s) 16 192 → Post tb e args s (.returned v) u) :
    ArmFor flags0 classFile x code maxLocals ret World_1 tables_1 room_1 Calls_1 rest_1 Pre_1 Post := by
  intro l hfl _ _ p e ha hc hk s m args below hf hA hF happ hP
  obtain ⟨hcalls, hrest, hpre⟩ := hP
  obtain ⟨-, -, -, hnamed, -, -, -, hat⟩ := (Spec.applies_iff hf).mp happ
  obtain ⟨hg, hn⟩ := and_e (Cond.before_iff.mp (show (Jvm.Cond.and given_1 narrow_1).before args s = true from hpre))
  obtain ⟨h1, r0⟩ := and_e hg
  obtain ⟨w0, w1, w2, w3, rfl⟩ : ∃ w0 w1 w2 w3 : Value, args = #[w0, w1, w2, w3] := by
    have hs : args.size = 4 := by simpa [Cond.value, given_1] using h1
    obtain ⟨L⟩ := args
    match L, hs with
    | [w0, w1, w2, w3], _ => exact ⟨w0, w1, w2, w3, rfl⟩
  have hw := fun d (hd : d ∈ tables_1) => atoms_spec (ws := Jvm.Cond.code x code maxLocals ret :: tables_1) hat d (List.mem_cons_of_mem _ hd)
  obtain ⟨hsets, hown0⟩ := atoms_of _ (rest_1_c_eq ▸ (show rest_1_c.before _ s = true from hrest))
  have hfit : Fit s := fun {y c} hc i hi => by
    obtain ⟨ha, rfl⟩ := Array.getElem?_eq_some_iff.mp hc
    have q := List.all_eq_true.mp ((Array.all_eq_true_iff_forall_mem.mp hF) _ (Array.getElem_mem ha)) i (List.mem_range.mpr hi)
    simpa [Array.getElem?_eq_getElem hi] using q
  obtain ⟨q0, r1⟩ := and_e r0
  obtain ⟨i0, e0⟩ := isL_v q0
  obtain rfl : w0 = (.long i0) := Option.some.inj e0
  obtain ⟨q1, r2⟩ := and_e r1
  obtain ⟨i1, e1⟩ := isL_v q1
  obtain rfl : w1 = (.long i1) := Option.some.inj e1
  obtain ⟨q2, r3⟩ := and_e r2
  obtain ⟨i2, e2⟩ := isL_v q2
  obtain rfl : w2 = (.long i2) := Option.some.inj e2
  obtain ⟨i3, e3⟩ := is_v r3
  obtain rfl : w3 = (.int i3) := Option.some.inj e3
  have n3 := not_v (Cond.before_iff.mp (hsets _ (List.mem_of_getElem? (i := 2) rfl)))
  obtain ⟨G1, eG1⟩ := is_v (Cond.before_iff.mp (hsets _ (List.mem_of_getElem? (i := 1) rfl)))
  have O2 : Sta s s.heap "java/lang/String" "COMPACT_STRINGS" "Z" (.int G1) := Sta.start eG1 (Or.inl (hsets _ (List.mem_of_getElem? (i := 0) rfl)))
  have P5 : ¬ (G1 = (0 : Int32)) := gotF (Cond.eq_ints eG1 (Term.int_eval (0))) n3
  obtain ⟨G3, eG3, rG3⟩ := isR_v (Cond.before_iff.mp (hsets _ (List.mem_of_getElem? (i := 8) rfl)))
  have O4 : Sta s s.heap "jdk/internal/util/Preconditions" "SIOOBE_FORMATTER" "Ljava/util/function/BiFunction;" G3 := Sta.start eG3 (Or.inl (hsets _ (List.mem_of_getElem? (i := 7) rfl)))
  obtain ⟨al, eAl⟩ := arr_v (and_e hn).1
  have OA : Sta s s.heap "com/example/relaywright/relaywright/outbox/EventIds" "ALPHABET" "[C" (.ref al) := Sta.start eAl (Or.inr ⟨(w_2 hw), (w_7 hw)⟩)
  obtain ⟨kA, VA⟩ := own_alph hfit eAl hn
  obtain ⟨n, o, h1, h2, h3, _, L, rfl, ⟨rfl, N⟩, hq⟩ := own_law l s _ hw s.heap (Ext.oRefl _) i0 i1 i2 i3 G1 G3 al kA O2 P5 OA VA O4 rG3 tables_1 p e ha hc hk s m _ below hf ((Spec.applies_iff_loose hf).mp happ).1 ⟨rfl, State.Warmed39.refl s, rfl⟩ trivial
  exact ⟨n, _, h1, h2, h3, hpost _ _ _ _ _ _ ⟨Cond.after_iff.mpr rfl, Cond.after_iff.mpr (eq_i res_at (Term.int_eval (1)) rfl), trivial⟩ ⟨hq.1, hq.2.1, (hq.2.2.sift fun y hy => Or.inr (N y hy)).mono (by decide) (by decide)⟩⟩
theorem main_1_1 : Claimed_1_1 := comes_1 fun _ _ _ _ _ _ h hF => ⟨h.1, hF⟩
theorem main_1_2 : Claimed_1_2 := comes_1 fun _ _ _ _ _ _ h hF => ⟨h.2.1, hF⟩
end Jvm.Pilot.@@N@@
namespace Jvm.Pilot.@@N@@
open Jvm Jvm.ClassFile Sem Op Lib Jvm.Free Jvm.Stand Jvm.Pilot.@@N@@.Jvm.D
/-! MADE BY PROGRAM (witnessworld.py) out of the Statement's table words and the real class files: 20 classes; the members and pool entries that the words name. The judged class is class 1, her method 3. -/
namespace start1
open Jvm.ClassFile
def u (s : String) : CpInfo := .utf8 (stringToUtf16 s)
/-- a pool by its gaps: so many unusable entries, then the entry; so many at the end -/
def gap : Nat → List CpInfo → List CpInfo
  | 0, r => r
  | n + 1, r => .unusable :: gap n r
def poolList (es : List (Nat × CpInfo)) (last : Nat) : List CpInfo := es.foldr (fun e r => gap e.1 (e.2 :: r)) (gap last [])
def pool (es : List (Nat × CpInfo)) (last : Nat) : Array CpInfo := ⟨poolList es last⟩
def fileOf (pool : Array CpInfo) (this : Nat) (attrs : Array Attribute := #[]) (ms : Array MethodInfo := #[]) (fl : Nat := 33) (sup : Nat := 0) (ifs : Array Nat := #[]) (fds : Array FieldInfo := #[]) : ClassFile where
  minorVersion := 0
  majorVersion := 65
  constantPool := pool
  accessFlags := fl
  thisClass := this
  superClass := sup
  interfaces := ifs
  fields := fds
  methods := ms
  attributes := attrs
def plain (name : String) (sup : Option ClassId) : Class where
  name := name
  kind := .ordinary
  loader := none
  accessFlags := 33
  super := sup
  interfaces := #[]
  cf := none
  fields := #[]
  methods := #[]
  instanceTypes := #[]
  staticTypes := #[]
  resolved := #[]
  callSites := []
  init := .initialized
  statics := none
  mirror := none

def pool0 : Array CpInfo := pool [(5, u "<init>"), (0, u "()V"), (1, .class_ 10), (1, u "java/lang/Object")] 113

def k0c0 : Code := { maxStack := 0, maxLocals := 1, code := object_method_1_code, exceptionTable := #[], attributes := #[] }
def k0m0 : Method := { name := "<init>", desc := "()V", sig := { parameters := [], returnType := none }, accessFlags := 1, code := some k0c0 }
/-- java/lang/Object -/
def k0 : Class := { plain "java/lang/Object" none with
  accessFlags := 33
  interfaces := #[]
  cf := some (fileOf pool0 8 #[] #[{ accessFlags := 1, nameIndex := 5, descriptorIndex := 6, attributes := #[] }] 33 0 #[] #[])
  fields := #[]
  methods := #[k0m0]
  instanceTypes := #[]
  staticTypes := #[]
  resolved := Array.replicate 124 none
  statics := none }

def pool1 : Array CpInfo := pool [(2, .class_ 4), (1, u "java/lang/Object"), (0, u "<init>"), (0, u "()V"), (0, .methodref 8 9), (0, .class_ 10), (0, .nameAndType 11 12), (0, u "com/example/relaywright/relaywright/outbox/EventIds"), (0, u "encode"), (0, u "(JJJ)Ljava/lang/String;"), (0, .methodref 14 15), (0, .class_ 16), (0, .nameAndType 17 18), (0, u "java/lang/String"), (0, u "length"), (0, u "()I"), (0, .integer 2147483647), (0, .methodref 21 22), (0, .class_ 23), (0, .nameAndType 24 25), (0, u "com/example/relaywright/relaywright/outbox/EventIdsEncodePinLaw"), (0, u "bit"), (0, u "(JJJI)J"), (0, .methodref 14 27), (0, .nameAndType 28 29), (0, u "charAt"), (0, u "(I)C"), (0, .methodref 21 31), (0, .nameAndType 32 29), (0, u "sym"), (3, u "law"), (0, u "(JJJI)Z")] 2

def k1m0 : Method := { name := "<init>", desc := "()V", sig := { parameters := [], returnType := none }, accessFlags := 2, code := none }
def k1c1 : Code := { maxStack := 4, maxLocals := 7, code := method_2_code, exceptionTable := #[], attributes := #[] }
def k1m1 : Method := { name := "bit", desc := "(JJJI)J", sig := { parameters := [.long, .long, .long, .int], returnType := some .long }, accessFlags := 10, code := some k1c1 }
def k1c2 : Code := { maxStack := 3, maxLocals := 1, code := method_3_code, exceptionTable := #[], attributes := #[] }
def k1m2 : Method := { name := "sym", desc := "(I)C", sig := { parameters := [.int], returnType := some .char }, accessFlags := 10, code := some k1c2 }
def k1c3 : Code := { maxStack := 10, maxLocals := 12, code := code, exceptionTable := #[], attributes := #[] }
def k1m3 : Method := { name := "law", desc := "(JJJI)Z", sig := { parameters := [.long, .long, .long, .int], returnType := some .boolean }, accessFlags := 9, code := some k1c3 }
/-- com/example/relaywright/relaywright/outbox/EventIdsEncodePinLaw -/
def k1 : Class := { plain "com/example/relaywright/relaywright/outbox/EventIdsEncodePinLaw" (some 0) with
  accessFlags := 49
  interfaces := #[]
  cf := some (fileOf pool1 21 #[] #[{ accessFlags := 2, nameIndex := 5, descriptorIndex := 6, attributes := #[] }, { accessFlags := 10, nameIndex := 24, descriptorIndex := 25, attributes := #[] }, { accessFlags := 10, nameIndex := 32, descriptorIndex := 29, attributes := #[] }, { accessFlags := 9, nameIndex := 36, descriptorIndex := 37, attributes := #[] }] 49 2 #[] #[])
  fields := #[]
  methods := #[k1m0, k1m1, k1m2, k1m3]
  instanceTypes := #[]
  staticTypes := #[]
  resolved := Array.replicate 40 none
  statics := none }

def pool2 : Array CpInfo := pool [(2, .class_ 4), (1, u "java/lang/Object"), (0, u "<init>"), (0, u "()V"), (4, .class_ 13), (1, u "com/example/relaywright/relaywright/outbox/EventIds"), (0, u "random"), (0, u "Ljava/security/SecureRandom;"), (4, u "lastTime"), (0, u "J"), (14, .long 65535), (3, u "randomHigh"), (5, u "randomLow"), (2, u "encode"), (0, u "(JJJ)Ljava/lang/String;"), (0, .long 281474976710655), (1, .fieldref 11 54), (0, .nameAndType 55 56), (0, u "ALPHABET"), (0, u "[C"), (0, .class_ 58), (0, u "java/lang/String"), (0, .methodref 57 60), (0, .nameAndType 5 61), (0, u "([C)V"), (6, u "LENGTH"), (0, u "I"), (2, u "TIME_CHARS"), (1, u "MASK_16"), (0, u "MASK_48")] 8

def k2m0 : Method := { name := "<init>", desc := "()V", sig := { parameters := [], returnType := none }, accessFlags := 0, code := none }
def k2c1 : Code := { maxStack := 6, maxLocals := 15, code := prog_16_method_4_code, exceptionTable := #[], attributes := #[] }
def k2m1 : Method := { name := "encode", desc := "(JJJ)Ljava/lang/String;", sig := { parameters := [.long, .long, .long], returnType := some (.object "java/lang/String") }, accessFlags := 8, code := some k2c1 }
/-- com/example/relaywright/relaywright/outbox/EventIds -/
def k2 : Class := { plain "com/example/relaywright/relaywright/outbox/EventIds" (some 0) with
  accessFlags := 48
  interfaces := #[]
  cf := some (fileOf pool2 11 #[] #[{ accessFlags := 0, nameIndex := 5, descriptorIndex := 6, attributes := #[] }, { accessFlags := 8, nameIndex := 49, descriptorIndex := 50, attributes := #[] }] 48 2 #[] #[{ accessFlags := 26, nameIndex := 55, descriptorIndex := 56, attributes := #[] }, { accessFlags := 26, nameIndex := 68, descriptorIndex := 69, attributes := #[] }, { accessFlags := 26, nameIndex := 72, descriptorIndex := 69, attributes := #[] }, { accessFlags := 26, nameIndex := 74, descriptorIndex := 21, attributes := #[] }, { accessFlags := 26, nameIndex := 75, descriptorIndex := 21, attributes := #[] }, { accessFlags := 18, nameIndex := 14, descriptorIndex := 15, attributes := #[] }, { accessFlags := 2, nameIndex := 20, descriptorIndex := 21, attributes := #[] }, { accessFlags := 2, nameIndex := 40, descriptorIndex := 21, attributes := #[] }, { accessFlags := 2, nameIndex := 46, descriptorIndex := 21, attributes := #[] }])
  fields := #[{ name := "ALPHABET", type := (.array .char), accessFlags := 26, slot := 0, constantValue := 0 }, { name := "LENGTH", type := .int, accessFlags := 26, slot := 1, constantValue := 0 }, { name := "TIME_CHARS", type := .int, accessFlags := 26, slot := 2, constantValue := 0 }, { name := "MASK_16", type := .long, accessFlags := 26, slot := 3, constantValue := 0 }, { name := "MASK_48", type := .long, accessFlags := 26, slot := 4, constantValue := 0 }, { name := "random", type := (.object "java/security/SecureRandom"), accessFlags := 18, slot := 0, constantValue := 0 }, { name := "lastTime", type := .long, accessFlags := 2, slot := 1, constantValue := 0 }, { name := "randomHigh", type := .long, accessFlags := 2, slot := 2, constantValue := 0 }, { name := "randomLow", type := .long, accessFlags := 2, slot := 3, constantValue := 0 }]
  methods := #[k2m0, k2m1]
  instanceTypes := #[(.object "java/security/SecureRandom"), .long, .long, .long]
  staticTypes := #[(.array .char), .int, .int, .long, .long]
  resolved := Array.replicate 84 none
  statics := some 0 }

def pool3 : Array CpInfo := pool [(1, .class_ 2), (0, u "java/io/Serializable"), (0, .class_ 4), (0, u "java/lang/Object")] 2

/-- java/io/Serializable -/
def k3 : Class := { plain "java/io/Serializable" (some 0) with
  accessFlags := 1537
  interfaces := #[]
  cf := some (fileOf pool3 1 #[] #[] 1537 3 #[] #[])
  fields := #[]
  methods := #[]
  instanceTypes := #[]
  staticTypes := #[]
  resolved := Array.replicate 7 none
  statics := none }

def pool4 : Array CpInfo := pool [(1, .class_ 2), (0, u "java/lang/Comparable"), (0, .class_ 4), (0, u "java/lang/Object")] 7

/-- java/lang/Comparable -/
def k4 : Class := { plain "java/lang/Comparable" (some 0) with
  accessFlags := 1537
  interfaces := #[]
  cf := some (fileOf pool4 1 #[] #[] 1537 3 #[] #[])
  fields := #[]
  methods := #[]
  instanceTypes := #[]
  staticTypes := #[]
  resolved := Array.replicate 12 none
  statics := none }

def pool5 : Array CpInfo := pool [(2, .class_ 4), (1, u "java/lang/CharSequence"), (42, .class_ 48), (0, u "java/lang/CharSequence$1CodePointIterator"), (10, .class_ 60), (0, u "java/lang/CharSequence$1CharIterator"), (5, .class_ 67), (0, u "java/lang/Object")] 63

/-- java/lang/CharSequence -/
def k5 : Class := { plain "java/lang/CharSequence" (some 0) with
  accessFlags := 1537
  interfaces := #[]
  cf := some (fileOf pool5 2 #[.nestMembers #[47, 59]] #[] 1537 66 #[] #[])
  fields := #[]
  methods := #[]
  instanceTypes := #[]
  staticTypes := #[]
  resolved := Array.replicate 131 none
  statics := none }

def pool6 : Array CpInfo := pool [(1, .class_ 2), (0, u "java/lang/constant/Constable"), (0, .class_ 4), (0, u "java/lang/Object")] 6

/-- java/lang/constant/Constable -/
def k6 : Class := { plain "java/lang/constant/Constable" (some 0) with
  accessFlags := 1537
  interfaces := #[]
  cf := some (fileOf pool6 1 #[] #[] 1537 3 #[] #[])
  fields := #[]
  methods := #[]
  instanceTypes := #[]
  staticTypes := #[]
  resolved := Array.replicate 11 none
  statics := none }

def pool7 : Array CpInfo := pool [(1, .class_ 2), (0, u "java/lang/constant/ConstantDesc"), (0, .class_ 4), (0, u "java/lang/Object")] 32

/-- java/lang/constant/ConstantDesc -/
def k7 : Class := { plain "java/lang/constant/ConstantDesc" (some 0) with
  accessFlags := 1537
  interfaces := #[]
  cf := some (fileOf pool7 1 #[] #[] 1537 3 #[] #[])
  fields := #[]
  methods := #[]
  instanceTypes := #[]
  staticTypes := #[]
  resolved := Array.replicate 37 none
  statics := none }

def pool8 : Array CpInfo := pool [(1, .methodref 2 3), (0, .class_ 4), (0, .nameAndType 5 6), (0, u "java/lang/Object"), (0, u "<init>"), (0, u "()V"), (2, .fieldref 10 11), (0, .class_ 12), (0, .nameAndType 13 14), (0, u "java/lang/String"), (0, u "value"), (0, u "[B"), (0, .fieldref 10 16), (0, .nameAndType 17 18), (0, u "coder"), (0, u "B"), (2, u "hash"), (0, u "I"), (2, u "hashIsZero"), (0, u "Z"), (0, .methodref 10 28), (0, .nameAndType 5 29), (0, u "([CIILjava/lang/Void;)V"), (8, .fieldref 10 39), (0, .nameAndType 40 26), (0, u "COMPACT_STRINGS"), (1, .class_ 44), (1, u "java/lang/StringUTF16"), (0, u "compress"), (1, .methodref 42 48), (0, .nameAndType 49 50), (0, u "coderFromArrayLen"), (0, u "([BI)B"), (56, .class_ 109), (1, u "java/lang/StringLatin1"), (32, u "()Z"), (34, .methodref 42 178), (0, .nameAndType 45 179), (0, u "([CII)[B"), (154, u "()I"), (0, .methodref 10 336), (0, .nameAndType 17 337), (0, u "()B"), (25, u "([BI)C"), (27, u "(II)V"), (35, u "(I)C"), (64, .methodref 10 493), (0, .nameAndType 494 142), (0, u "isLatin1"), (0, .methodref 107 496), (0, .nameAndType 497 363), (0, u "charAt"), (3, u "checkIndex"), (5, u "length"), (67, .class_ 576), (0, u "java/lang/CharSequence"), (22, u "CASE_INSENSITIVE_ORDER"), (0, u "Ljava/util/Comparator;"), (409, u "([C)V"), (42, .fieldref 1054 1055), (0, .class_ 1056), (0, .nameAndType 1057 1058), (0, u "jdk/internal/util/Preconditions"), (0, u "SIOOBE_FORMATTER"), (0, u "Ljava/util/function/BiFunction;"), (0, .methodref 1054 1060), (0, .nameAndType 501 1061), (0, u "(IILjava/util/function/BiFunction;)I"), (39, u "serialPersistentFields"), (0, u "[Ljava/io/ObjectStreamField;"), (0, .class_ 1104), (0, u "java/lang/String$CaseInsensitiveComparator"), (1, .class_ 1107), (0, u "java/io/Serializable"), (0, .class_ 1109), (0, u "java/lang/Comparable"), (0, .class_ 1111), (0, u "java/lang/constant/Constable"), (0, .class_ 1113), (0, u "java/lang/constant/ConstantDesc"), (2, u "serialVersionUID"), (0, u "J"), (3, u "REPL"), (0, u "C"), (2, u "LATIN1"), (1, u "UTF16")] 323

def k8m0 : Method := { name := "<init>", desc := "()V", sig := { parameters := [], returnType := none }, accessFlags := 1, code := none }
def k8c1 : Code := { maxStack := 5, maxLocals := 2, code := jdk_42_method_3_code, exceptionTable := #[], attributes := #[] }
def k8m1 : Method := { name := "<init>", desc := "([C)V", sig := { parameters := [(.array .char)], returnType := none }, accessFlags := 1, code := some k8c1 }
def k8c2 : Code := { maxStack := 2, maxLocals := 1, code := jdk_42_method_54_code, exceptionTable := #[], attributes := #[] }
def k8m2 : Method := { name := "length", desc := "()I", sig := { parameters := [], returnType := some .int }, accessFlags := 1, code := some k8c2 }
def k8c3 : Code := { maxStack := 2, maxLocals := 2, code := jdk_42_method_56_code, exceptionTable := #[], attributes := #[] }
def k8m3 : Method := { name := "charAt", desc := "(I)C", sig := { parameters := [.int], returnType := some .char }, accessFlags := 1, code := some k8c3 }
def k8c4 : Code := { maxStack := 4, maxLocals := 6, code := jdk_42_method_149_code, exceptionTable := #[], attributes := #[] }
def k8m4 : Method := { name := "<init>", desc := "([CIILjava/lang/Void;)V", sig := { parameters := [(.array .char), .int, .int, (.object "java/lang/Void")], returnType := none }, accessFlags := 2, code := some k8c4 }
def k8c5 : Code := { maxStack := 1, maxLocals := 1, code := jdk_42_method_152_code, exceptionTable := #[], attributes := #[] }
def k8m5 : Method := { name := "coder", desc := "()B", sig := { parameters := [], returnType := some .byte }, accessFlags := 0, code := some k8c5 }
def k8c6 : Code := { maxStack := 1, maxLocals := 1, code := jdk_42_method_154_code, exceptionTable := #[], attributes := #[] }
def k8m6 : Method := { name := "isLatin1", desc := "()Z", sig := { parameters := [], returnType := some .boolean }, accessFlags := 0, code := some k8c6 }
def k8c7 : Code := { maxStack := 3, maxLocals := 2, code := jdk_42_method_155_code, exceptionTable := #[], attributes := #[] }
def k8m7 : Method := { name := "checkIndex", desc := "(II)V", sig := { parameters := [.int, .int], returnType := none }, accessFlags := 8, code := some k8c7 }
/-- java/lang/String -/
def k8 : Class := { plain "java/lang/String" (some 0) with
  accessFlags := 49
  interfaces := #[3, 4, 5, 6, 7]
  cf := some (fileOf pool8 10 #[.nestMembers #[1103]] #[{ accessFlags := 1, nameIndex := 5, descriptorIndex := 6, attributes := #[] }, { accessFlags := 1, nameIndex := 5, descriptorIndex := 1010, attributes := #[] }, { accessFlags := 1, nameIndex := 507, descriptorIndex := 334, attributes := #[] }, { accessFlags := 1, nameIndex := 497, descriptorIndex := 427, attributes := #[] }, { accessFlags := 2, nameIndex := 5, descriptorIndex := 29, attributes := #[] }, { accessFlags := 0, nameIndex := 17, descriptorIndex := 337, attributes := #[] }, { accessFlags := 0, nameIndex := 494, descriptorIndex := 142, attributes := #[] }, { accessFlags := 8, nameIndex := 501, descriptorIndex := 391, attributes := #[] }] 49 2 #[1106, 1108, 575, 1110, 1112] #[{ accessFlags := 18, nameIndex := 13, descriptorIndex := 14, attributes := #[] }, { accessFlags := 18, nameIndex := 17, descriptorIndex := 18, attributes := #[] }, { accessFlags := 2, nameIndex := 21, descriptorIndex := 22, attributes := #[] }, { accessFlags := 2, nameIndex := 25, descriptorIndex := 26, attributes := #[] }, { accessFlags := 26, nameIndex := 1116, descriptorIndex := 1117, attributes := #[] }, { accessFlags := 24, nameIndex := 40, descriptorIndex := 26, attributes := #[] }, { accessFlags := 26, nameIndex := 1101, descriptorIndex := 1102, attributes := #[] }, { accessFlags := 26, nameIndex := 1121, descriptorIndex := 1122, attributes := #[] }, { accessFlags := 25, nameIndex := 599, descriptorIndex := 600, attributes := #[] }, { accessFlags := 24, nameIndex := 1125, descriptorIndex := 18, attributes := #[] }, { accessFlags := 24, nameIndex := 1127, descriptorIndex := 18, attributes := #[] }])
  fields := #[{ name := "value", type := (.array .byte), accessFlags := 18, slot := 0, constantValue := 0 }, { name := "coder", type := .byte, accessFlags := 18, slot := 1, constantValue := 0 }, { name := "hash", type := .int, accessFlags := 2, slot := 2, constantValue := 0 }, { name := "hashIsZero", type := .boolean, accessFlags := 2, slot := 3, constantValue := 0 }, { name := "serialVersionUID", type := .long, accessFlags := 26, slot := 0, constantValue := 0 }, { name := "COMPACT_STRINGS", type := .boolean, accessFlags := 24, slot := 1, constantValue := 0 }, { name := "serialPersistentFields", type := (.array (.object "java/io/ObjectStreamField")), accessFlags := 26, slot := 2, constantValue := 0 }, { name := "REPL", type := .char, accessFlags := 26, slot := 3, constantValue := 0 }, { name := "CASE_INSENSITIVE_ORDER", type := (.object "java/util/Comparator"), accessFlags := 25, slot := 4, constantValue := 0 }, { name := "LATIN1", type := .byte, accessFlags := 24, slot := 5, constantValue := 0 }, { name := "UTF16", type := .byte, accessFlags := 24, slot := 6, constantValue := 0 }]
  methods := #[k8m0, k8m1, k8m2, k8m3, k8m4, k8m5, k8m6, k8m7]
  instanceTypes := #[(.array .byte), .byte, .int, .boolean]
  staticTypes := #[.long, .boolean, (.array (.object "java/io/ObjectStreamField")), .char, (.object "java/util/Comparator"), .byte, .byte]
  resolved := Array.replicate 1451 none
  statics := some 1 }

def pool9 : Array CpInfo := pool [(6, .class_ 8), (1, u "java/lang/Object"), (0, u "<init>"), (0, u "()V"), (1, .class_ 14), (1, u "java/lang/StringUTF16"), (31, u "$assertionsDisabled"), (0, u "Z"), (13, u "HI_BYTE_SHIFT"), (0, u "I"), (2, u "LO_BYTE_SHIFT"), (49, .methodref 12 116), (0, .nameAndType 117 118), (0, u "compress"), (0, u "([CI[BII)I"), (3, u "([CII)[B"), (138, u "coderFromArrayLen"), (0, u "([BI)B"), (106, .class_ 371), (1, u "java/lang/StringUTF16$LinesSpliterator"), (58, u "MAX_LENGTH"), (196, .class_ 628), (0, u "java/lang/StringUTF16$CodePointsSpliterator"), (0, .class_ 630), (0, u "java/lang/StringUTF16$CharsSpliterator")] 4

def k9m0 : Method := { name := "<init>", desc := "()V", sig := { parameters := [], returnType := none }, accessFlags := 0, code := none }
def k9c1 : Code := { maxStack := 2, maxLocals := 2, code := jdk_52_method_15_code, exceptionTable := #[], attributes := #[] }
def k9m1 : Method := { name := "coderFromArrayLen", desc := "([BI)B", sig := { parameters := [(.array .byte), .int], returnType := some .byte }, accessFlags := 8, code := some k9c1 }
def k9c2 : Code := { maxStack := 5, maxLocals := 6, code := jdk_52_method_16_code, exceptionTable := #[], attributes := #[] }
def k9m2 : Method := { name := "compress", desc := "([CII)[B", sig := { parameters := [(.array .char), .int, .int], returnType := some (.array .byte) }, accessFlags := 9, code := some k9c2 }
def k9c3 : Code := { maxStack := 3, maxLocals := 7, code := jdk_52_method_21_code, exceptionTable := #[], attributes := #[] }
def k9m3 : Method := { name := "compress", desc := "([CI[BII)I", sig := { parameters := [(.array .char), .int, (.array .byte), .int, .int], returnType := some .int }, accessFlags := 9, code := some k9c3 }
/-- java/lang/StringUTF16 -/
def k9 : Class := { plain "java/lang/StringUTF16" (some 0) with
  accessFlags := 48
  interfaces := #[]
  cf := some (fileOf pool9 12 #[.nestMembers #[627, 629, 369]] #[{ accessFlags := 0, nameIndex := 9, descriptorIndex := 10, attributes := #[] }, { accessFlags := 8, nameIndex := 261, descriptorIndex := 262, attributes := #[] }, { accessFlags := 9, nameIndex := 117, descriptorIndex := 122, attributes := #[] }, { accessFlags := 9, nameIndex := 117, descriptorIndex := 118, attributes := #[] }] 48 6 #[] #[{ accessFlags := 26, nameIndex := 61, descriptorIndex := 62, attributes := #[] }, { accessFlags := 26, nameIndex := 65, descriptorIndex := 62, attributes := #[] }, { accessFlags := 24, nameIndex := 430, descriptorIndex := 62, attributes := #[] }, { accessFlags := 4120, nameIndex := 46, descriptorIndex := 47, attributes := #[] }])
  fields := #[{ name := "HI_BYTE_SHIFT", type := .int, accessFlags := 26, slot := 0, constantValue := 0 }, { name := "LO_BYTE_SHIFT", type := .int, accessFlags := 26, slot := 1, constantValue := 0 }, { name := "MAX_LENGTH", type := .int, accessFlags := 24, slot := 2, constantValue := 0 }, { name := "$assertionsDisabled", type := .boolean, accessFlags := 4120, slot := 3, constantValue := 0 }]
  methods := #[k9m0, k9m1, k9m2, k9m3]
  instanceTypes := #[]
  staticTypes := #[.int, .int, .int, .boolean]
  resolved := Array.replicate 635 none
  statics := none }

def pool10 : Array CpInfo := pool [(1, .class_ 2), (0, u "java/lang/String"), (1, .class_ 6), (1, u "java/lang/Object"), (0, u "<init>"), (0, u "()V"), (0, .methodref 1 10), (0, .nameAndType 11 12), (0, u "checkIndex"), (0, u "(II)V"), (1, .class_ 16), (1, u "java/lang/StringLatin1"), (36, u "([BI)C"), (67, u "$assertionsDisabled"), (0, u "Z"), (98, .class_ 223), (1, u "java/lang/StringLatin1$LinesSpliterator"), (28, u "charAt"), (137, .class_ 391), (0, u "java/lang/StringLatin1$CharsSpliterator")] 3

def k10m0 : Method := { name := "<init>", desc := "()V", sig := { parameters := [], returnType := none }, accessFlags := 0, code := none }
def k10c1 : Code := { maxStack := 2, maxLocals := 2, code := jdk_43_method_2_code, exceptionTable := #[], attributes := #[] }
def k10m1 : Method := { name := "charAt", desc := "([BI)C", sig := { parameters := [(.array .byte), .int], returnType := some .char }, accessFlags := 9, code := some k10c1 }
/-- java/lang/StringLatin1 -/
def k10 : Class := { plain "java/lang/StringLatin1" (some 0) with
  accessFlags := 48
  interfaces := #[]
  cf := some (fileOf pool10 14 #[.nestMembers #[390, 221]] #[{ accessFlags := 0, nameIndex := 7, descriptorIndex := 8, attributes := #[] }, { accessFlags := 9, nameIndex := 252, descriptorIndex := 53, attributes := #[] }] 48 4 #[] #[{ accessFlags := 4120, nameIndex := 121, descriptorIndex := 122, attributes := #[] }])
  fields := #[{ name := "$assertionsDisabled", type := .boolean, accessFlags := 4120, slot := 0, constantValue := 0 }]
  methods := #[k10m0, k10m1]
  instanceTypes := #[]
  staticTypes := #[.boolean]
  resolved := Array.replicate 395 none
  statics := none }

def pool11 : Array CpInfo := pool [(2, .class_ 4), (1, u "java/lang/Object"), (0, u "<init>"), (0, u "()V"), (17, .class_ 26), (1, u "jdk/internal/util/Preconditions"), (6, u "checkIndex"), (21, .class_ 56), (0, u "jdk/internal/util/Preconditions$4"), (57, .class_ 115), (0, u "jdk/internal/util/Preconditions$1"), (7, u "SIOOBE_FORMATTER"), (0, u "Ljava/util/function/BiFunction;"), (0, .class_ 126), (0, u "jdk/internal/util/Preconditions$2"), (3, u "AIOOBE_FORMATTER"), (0, .class_ 132), (0, u "jdk/internal/util/Preconditions$3"), (3, u "IOOBE_FORMATTER"), (41, u "(IILjava/util/function/BiFunction;)I")] 15

def k11m0 : Method := { name := "<init>", desc := "()V", sig := { parameters := [], returnType := none }, accessFlags := 1, code := none }
def k11c1 : Code := { maxStack := 3, maxLocals := 3, code := jdk_41_method_11_code, exceptionTable := #[], attributes := #[] }
def k11m1 : Method := { name := "checkIndex", desc := "(IILjava/util/function/BiFunction;)I", sig := { parameters := [.int, .int, (.object "java/util/function/BiFunction")], returnType := some .int }, accessFlags := 9, code := some k11c1 }
/-- jdk/internal/util/Preconditions -/
def k11 : Class := { plain "jdk/internal/util/Preconditions" (some 0) with
  accessFlags := 33
  interfaces := #[]
  cf := some (fileOf pool11 24 #[.nestMembers #[55, 131, 125, 114]] #[{ accessFlags := 1, nameIndex := 5, descriptorIndex := 6, attributes := #[] }, { accessFlags := 9, nameIndex := 33, descriptorIndex := 178, attributes := #[] }] 33 2 #[] #[{ accessFlags := 25, nameIndex := 123, descriptorIndex := 124, attributes := #[] }, { accessFlags := 25, nameIndex := 130, descriptorIndex := 124, attributes := #[] }, { accessFlags := 25, nameIndex := 136, descriptorIndex := 124, attributes := #[] }])
  fields := #[{ name := "SIOOBE_FORMATTER", type := (.object "java/util/function/BiFunction"), accessFlags := 25, slot := 0, constantValue := 0 }, { name := "AIOOBE_FORMATTER", type := (.object "java/util/function/BiFunction"), accessFlags := 25, slot := 1, constantValue := 0 }, { name := "IOOBE_FORMATTER", type := (.object "java/util/function/BiFunction"), accessFlags := 25, slot := 2, constantValue := 0 }]
  methods := #[k11m0, k11m1]
  instanceTypes := #[]
  staticTypes := #[(.object "java/util/function/BiFunction"), (.object "java/util/function/BiFunction"), (.object "java/util/function/BiFunction")]
  resolved := Array.replicate 194 none
  statics := some 2 }

def pool12 : Array CpInfo := pool [(9, u "<init>"), (6, .class_ 18), (1, u "java/lang/Object"), (0, u "()V"), (1, .class_ 23), (1, u "jdk/internal/util/ArraysSupport"), (0, u "LOG2_ARRAY_LONG_INDEX_SCALE"), (0, u "I"), (2, u "U"), (0, u "Ljdk/internal/misc/Unsafe;"), (8, u "BIG_ENDIAN"), (0, u "Z"), (8, u "LOG2_BYTE_BIT_SIZE"), (4, u "LOG2_ARRAY_INT_INDEX_SCALE"), (54, u "JLA"), (0, u "Ljdk/internal/access/JavaLangAccess;"), (11, u "LOG2_ARRAY_BOOLEAN_INDEX_SCALE"), (9, u "LOG2_ARRAY_BYTE_INDEX_SCALE"), (5, u "LOG2_ARRAY_CHAR_INDEX_SCALE"), (5, u "LOG2_ARRAY_SHORT_INDEX_SCALE"), (18, u "LOG2_ARRAY_FLOAT_INDEX_SCALE"), (24, u "LOG2_ARRAY_DOUBLE_INDEX_SCALE"), (89, u "T_BOOLEAN"), (2, u "T_CHAR"), (1, u "T_FLOAT"), (1, u "T_DOUBLE"), (1, u "T_BYTE"), (1, u "T_SHORT"), (1, u "T_INT"), (1, u "T_LONG"), (1, u "SOFT_MAX_ARRAY_LENGTH")] 83

def k12m0 : Method := { name := "<init>", desc := "()V", sig := { parameters := [], returnType := none }, accessFlags := 2, code := none }
/-- jdk/internal/util/ArraysSupport -/
def k12 : Class := { plain "jdk/internal/util/ArraysSupport" (some 0) with
  accessFlags := 33
  interfaces := #[]
  cf := some (fileOf pool12 21 #[] #[{ accessFlags := 2, nameIndex := 9, descriptorIndex := 19, attributes := #[] }] 33 16 #[] #[{ accessFlags := 24, nameIndex := 28, descriptorIndex := 29, attributes := #[] }, { accessFlags := 26, nameIndex := 38, descriptorIndex := 39, attributes := #[] }, { accessFlags := 25, nameIndex := 121, descriptorIndex := 25, attributes := #[] }, { accessFlags := 25, nameIndex := 131, descriptorIndex := 25, attributes := #[] }, { accessFlags := 25, nameIndex := 137, descriptorIndex := 25, attributes := #[] }, { accessFlags := 25, nameIndex := 143, descriptorIndex := 25, attributes := #[] }, { accessFlags := 25, nameIndex := 53, descriptorIndex := 25, attributes := #[] }, { accessFlags := 25, nameIndex := 24, descriptorIndex := 25, attributes := #[] }, { accessFlags := 25, nameIndex := 162, descriptorIndex := 25, attributes := #[] }, { accessFlags := 25, nameIndex := 187, descriptorIndex := 25, attributes := #[] }, { accessFlags := 26, nameIndex := 48, descriptorIndex := 25, attributes := #[] }, { accessFlags := 25, nameIndex := 277, descriptorIndex := 25, attributes := #[] }, { accessFlags := 25, nameIndex := 280, descriptorIndex := 25, attributes := #[] }, { accessFlags := 25, nameIndex := 282, descriptorIndex := 25, attributes := #[] }, { accessFlags := 25, nameIndex := 284, descriptorIndex := 25, attributes := #[] }, { accessFlags := 25, nameIndex := 286, descriptorIndex := 25, attributes := #[] }, { accessFlags := 25, nameIndex := 288, descriptorIndex := 25, attributes := #[] }, { accessFlags := 25, nameIndex := 290, descriptorIndex := 25, attributes := #[] }, { accessFlags := 25, nameIndex := 292, descriptorIndex := 25, attributes := #[] }, { accessFlags := 26, nameIndex := 108, descriptorIndex := 109, attributes := #[] }, { accessFlags := 25, nameIndex := 294, descriptorIndex := 25, attributes := #[] }])
  fields := #[{ name := "U", type := (.object "jdk/internal/misc/Unsafe"), accessFlags := 24, slot := 0, constantValue := 0 }, { name := "BIG_ENDIAN", type := .boolean, accessFlags := 26, slot := 1, constantValue := 0 }, { name := "LOG2_ARRAY_BOOLEAN_INDEX_SCALE", type := .int, accessFlags := 25, slot := 2, constantValue := 0 }, { name := "LOG2_ARRAY_BYTE_INDEX_SCALE", type := .int, accessFlags := 25, slot := 3, constantValue := 0 }, { name := "LOG2_ARRAY_CHAR_INDEX_SCALE", type := .int, accessFlags := 25, slot := 4, constantValue := 0 }, { name := "LOG2_ARRAY_SHORT_INDEX_SCALE", type := .int, accessFlags := 25, slot := 5, constantValue := 0 }, { name := "LOG2_ARRAY_INT_INDEX_SCALE", type := .int, accessFlags := 25, slot := 6, constantValue := 0 }, { name := "LOG2_ARRAY_LONG_INDEX_SCALE", type := .int, accessFlags := 25, slot := 7, constantValue := 0 }, { name := "LOG2_ARRAY_FLOAT_INDEX_SCALE", type := .int, accessFlags := 25, slot := 8, constantValue := 0 }, { name := "LOG2_ARRAY_DOUBLE_INDEX_SCALE", type := .int, accessFlags := 25, slot := 9, constantValue := 0 }, { name := "LOG2_BYTE_BIT_SIZE", type := .int, accessFlags := 26, slot := 10, constantValue := 0 }, { name := "T_BOOLEAN", type := .int, accessFlags := 25, slot := 11, constantValue := 0 }, { name := "T_CHAR", type := .int, accessFlags := 25, slot := 12, constantValue := 0 }, { name := "T_FLOAT", type := .int, accessFlags := 25, slot := 13, constantValue := 0 }, { name := "T_DOUBLE", type := .int, accessFlags := 25, slot := 14, constantValue := 0 }, { name := "T_BYTE", type := .int, accessFlags := 25, slot := 15, constantValue := 0 }, { name := "T_SHORT", type := .int, accessFlags := 25, slot := 16, constantValue := 0 }, { name := "T_INT", type := .int, accessFlags := 25, slot := 17, constantValue := 0 }, { name := "T_LONG", type := .int, accessFlags := 25, slot := 18, constantValue := 0 }, { name := "JLA", type := (.object "jdk/internal/access/JavaLangAccess"), accessFlags := 26, slot := 19, constantValue := 0 }, { name := "SOFT_MAX_ARRAY_LENGTH", type := .int, accessFlags := 25, slot := 20, constantValue := 0 }]
  methods := #[k12m0]
  instanceTypes := #[]
  staticTypes := #[(.object "jdk/internal/misc/Unsafe"), .boolean, .int, .int, .int, .int, .int, .int, .int, .int, .int, .int, .int, .int, .int, .int, .int, .int, .int, (.object "jdk/internal/access/JavaLangAccess"), .int]
  resolved := Array.replicate 378 none
  statics := none }

def pool13 : Array CpInfo := pool [(1, u "java/lang/Cloneable"), (0, .class_ 1), (0, u "java/lang/Object"), (0, .class_ 3)] 3

/-- java/lang/Cloneable -/
def k13 : Class := { plain "java/lang/Cloneable" (some 0) with
  accessFlags := 1537
  interfaces := #[]
  cf := some (fileOf pool13 2 #[] #[] 1537 4 #[] #[])
  fields := #[]
  methods := #[]
  instanceTypes := #[]
  staticTypes := #[]
  resolved := Array.replicate 8 none
  statics := none }

/-- the primitive byte -/
def k14 : Class := { plain "byte" none with kind := .primitive 'B', accessFlags := 0x411 }
/-- [B -/
def k15 : Class := { plain "[B" (some 0) with kind := .array 14 .byte, interfaces := #[13, 3], accessFlags := 1041 }

/-- the primitive char -/
def k16 : Class := { plain "char" none with kind := .primitive 'C', accessFlags := 0x411 }
/-- [C -/
def k17 : Class := { plain "[C" (some 0) with kind := .array 16 .char, interfaces := #[13, 3], accessFlags := 1041 }

/-- the primitive int -/
def k18 : Class := { plain "int" none with kind := .primitive 'I', accessFlags := 0x411 }
/-- [I -/
def k19 : Class := { plain "[I" (some 0) with kind := .array 18 .int, interfaces := #[13, 3], accessFlags := 1041 }

def heap : Heap := #[{ cls := 2, slots := #[.ref 3, .int 0, .int 0, .long 0, .long 0], vm := .statics 2 },
  { cls := 8, slots := #[.long 0, .int 1, .null, .int 0, .null, .int 0, .int 0], vm := .statics 8 },
  { cls := 11, slots := #[.null, .null, .null], vm := .statics 11 },
  { cls := 17, slots := #[.int 48, .int 49, .int 50, .int 51, .int 52, .int 53, .int 54, .int 55, .int 56, .int 57, .int 65, .int 66, .int 67, .int 68, .int 69, .int 70, .int 71, .int 72, .int 74, .int 75, .int 77, .int 78, .int 80, .int 81, .int 82, .int 83, .int 84, .int 86, .int 87, .int 88, .int 89, .int 90], vm := .none }]
def classes : Array Class := #[k0, k1, k2, k3, k4, k5, k6, k7, k8, k9, k10, k11, k12, k13, k14, k15, k16, k17, k18, k19]
def interned : List (Array UInt16 × Addr) := []
def slotsUsed : Nat := 47
def theMethod : MethodId := ⟨1, 3⟩
def args0 : Array Value := #[.long 5, .long 5, .long 5, .int 5]
def aboutOver (below : List Frame) : State where
  vm := { classes := classes, interned := interned.toArray }
  heap := heap
  slotsUsed := slotsUsed
  threads := #[{ frames := .invoking theMethod args0 :: below }]
def below0 : List Frame := [.native { method := ⟨0, 0⟩, args := #[] }]
def about1 : State := aboutOver below0
def p0 : Program := .bare "" "" ""
def e0 : Env := launch0.env 0 0 0
theorem w_frames : about1.frames = Frame.invoking theMethod args0 :: below0 := rfl
set_option maxRecDepth 65536 in
theorem w_args : argsFit about1.vm theMethod args0 = true := by decide +kernel
set_option maxRecDepth 65536 in
theorem w_heap : heapFits about1 = true := by decide +kernel
set_option maxRecDepth 65536 in
theorem w_runnable : about1.curStatus? = some .runnable := by decide +kernel
set_option maxRecDepth 65536 in
theorem w_alone : about1.alone = true := by decide +kernel
set_option maxRecDepth 65536 in
theorem w_named : about1.methodNamed? x = some theMethod := by decide +kernel
set_option maxRecDepth 65536 in
theorem w_hears : about1.hears theMethod below0 = true := by decide +kernel
set_option maxRecDepth 65536 in
theorem w_ripe : about1.ripe theMethod args0 below0 = true := by decide +kernel
theorem w_running : about1.status = .running := rfl
set_option maxRecDepth 65536 in
theorem w_room : about1.hasRoom e0.platform room_1 = true :=
  launch0.hasRoom_least _ room_1 (by decide +kernel) (by decide +kernel) (by decide +kernel) (by decide +kernel) (by decide +kernel) (by decide +kernel)
theorem allAtoms_all (ts : List Jvm.Cond) (a : Array Jvm.Value) (st : Jvm.State) : (allAtoms ts).before a st = ts.all (fun c => c.before a st) := by
  induction ts with
  | nil => rfl
  | cons c t ih =>
    show (Jvm.Cond.and c (allAtoms t)).before a st = _
    rw [Jvm.Cond.before_and, ih, List.all_cons]
def words1 : List Jvm.Cond := Jvm.Cond.code x code maxLocals ret :: tables_1
/-- a 'code' word, met by the world's own term for the bytes: nothing is compared byte by byte -/
theorem code_word {y : MethodName} {bytes : ByteArray} {mx : Nat} {rt : Option FieldType} {a : Array Value} {s : State} {m : MethodId} {meth : Method} {c : Code} (h1 : s.methodNamed? y = some m) (h2 : s.vm.method? m = some meth) (h3 : meth.code = some c) (h4 : c.code = bytes)
    (h5 : (c.maxLocals == mx && c.exceptionTable.isEmpty && decide (c.maxStack ≤ mostOperands) && decide (meth.sig.returnType = rt) && !meth.locks && decide (parseMethodDescriptor y.desc = some meth.sig)) = true) : (Jvm.Cond.code y bytes mx rt).before a s = true := by
  simp only [Bool.and_eq_true, beq_iff_eq, Bool.not_eq_true', decide_eq_true_eq] at h5
  obtain ⟨⟨⟨⟨⟨g1, g2⟩, g3⟩, g4⟩, g5⟩, g6⟩ := h5
  simp [Cond.before, Cond.holds, Cond.value, h1, h2, h3, h4, g1, g2, g3, g4, g5, g6]
def isCode : Jvm.Cond → Bool
  | .code _ _ _ _ => true
  | _ => false
theorem all_split {L : List Jvm.Cond} {P : Jvm.Cond → Bool} (h1 : L.all (fun c => isCode c || P c) = true) (h2 : ∀ c ∈ L.filter isCode, P c = true) : L.all P = true := by
  refine List.all_eq_true.mpr fun c hc => ?_
  have h := List.all_eq_true.mp h1 c hc
  rcases Bool.eq_false_or_eq_true (isCode c) with hi | hi
  · exact h2 c (List.mem_filter.mpr ⟨hc, hi⟩)
  · simpa [hi] using h
set_option maxRecDepth 65536 in
theorem w_c0 : (Jvm.Cond.code x code maxLocals ret).before args0 about1 = true := code_word (m := ⟨1, 3⟩) (meth := k1m3) (c := k1c3) (by decide +kernel) rfl rfl rfl (by decide +kernel)
set_option maxRecDepth 65536 in
theorem w_c1 : (Jvm.Cond.code ({ cls := "com/example/relaywright/relaywright/outbox/EventIds", name := "encode", desc := "(JJJ)Ljava/lang/String;" } : Jvm.MethodName) prog_16_method_4_code (15 : Nat) (Option.some (Jvm.ClassFile.FieldType.object "java/lang/String"))).before args0 about1 = true := code_word (m := ⟨2, 1⟩) (meth := k2m1) (c := k2c1) (by decide +kernel) rfl rfl rfl (by decide +kernel)
set_option maxRecDepth 65536 in
theorem w_c2 : (Jvm.Cond.code ({ cls := "java/lang/String", name := "<init>", desc := "([C)V" } : Jvm.MethodName) jdk_42_method_3_code (2 : Nat) (Option.none : Option Jvm.ClassFile.FieldType)).before args0 about1 = true := code_word (m := ⟨8, 1⟩) (meth := k8m1) (c := k8c1) (by decide +kernel) rfl rfl rfl (by decide +kernel)
set_option maxRecDepth 65536 in
theorem w_c3 : (Jvm.Cond.code ({ cls := "java/lang/String", name := "<init>", desc := "([CIILjava/lang/Void;)V" } : Jvm.MethodName) jdk_42_method_149_code (6 : Nat) (Option.none : Option Jvm.ClassFile.FieldType)).before args0 about1 = true := code_word (m := ⟨8, 4⟩) (meth := k8m4) (c := k8c4) (by decide +kernel) rfl rfl rfl (by decide +kernel)
set_option maxRecDepth 65536 in
theorem w_c4 : (Jvm.Cond.code ({ cls := "java/lang/Object", name := "<init>", desc := "()V" } : Jvm.MethodName) object_method_1_code (1 : Nat) (Option.none : Option Jvm.ClassFile.FieldType)).before args0 about1 = true := code_word (m := ⟨0, 0⟩) (meth := k0m0) (c := k0c0) (by decide +kernel) rfl rfl rfl (by decide +kernel)
set_option maxRecDepth 65536 in
theorem w_c5 : (Jvm.Cond.code ({ cls := "java/lang/StringUTF16", name := "compress", desc := "([CII)[B" } : Jvm.MethodName) jdk_52_method_16_code (6 : Nat) (Option.some (Jvm.ClassFile.FieldType.array Jvm.ClassFile.FieldType.byte))).before args0 about1 = true := code_word (m := ⟨9, 2⟩) (meth := k9m2) (c := k9c2) (by decide +kernel) rfl rfl rfl (by decide +kernel)
set_option maxRecDepth 65536 in
theorem w_c6 : (Jvm.Cond.code ({ cls := "java/lang/StringUTF16", name := "compress", desc := "([CI[BII)I" } : Jvm.MethodName) jdk_52_method_21_code (7 : Nat) (Option.some Jvm.ClassFile.FieldType.int)).before args0 about1 = true := code_word (m := ⟨9, 3⟩) (meth := k9m3) (c := k9c3) (by decide +kernel) rfl rfl rfl (by decide +kernel)
set_option maxRecDepth 65536 in
theorem w_c7 : (Jvm.Cond.code ({ cls := "java/lang/StringUTF16", name := "coderFromArrayLen", desc := "([BI)B" } : Jvm.MethodName) jdk_52_method_15_code (2 : Nat) (Option.some Jvm.ClassFile.FieldType.byte)).before args0 about1 = true := code_word (m := ⟨9, 1⟩) (meth := k9m1) (c := k9c1) (by decide +kernel) rfl rfl rfl (by decide +kernel)
set_option maxRecDepth 65536 in
theorem w_c8 : (Jvm.Cond.code ({ cls := "java/lang/String", name := "length", desc := "()I" } : Jvm.MethodName) jdk_42_method_54_code (1 : Nat) (Option.some Jvm.ClassFile.FieldType.int)).before args0 about1 = true := code_word (m := ⟨8, 2⟩) (meth := k8m2) (c := k8c2) (by decide +kernel) rfl rfl rfl (by decide +kernel)
set_option maxRecDepth 65536 in
theorem w_c9 : (Jvm.Cond.code ({ cls := "java/lang/String", name := "coder", desc := "()B" } : Jvm.MethodName) jdk_42_method_152_code (1 : Nat) (Option.some Jvm.ClassFile.FieldType.byte)).before args0 about1 = true := code_word (m := ⟨8, 5⟩) (meth := k8m5) (c := k8c5) (by decide +kernel) rfl rfl rfl (by decide +kernel)
set_option maxRecDepth 65536 in
theorem w_c10 : (Jvm.Cond.code ({ cls := "com/example/relaywright/relaywright/outbox/EventIdsEncodePinLaw", name := "bit", desc := "(JJJI)J" } : Jvm.MethodName) method_2_code (7 : Nat) (Option.some Jvm.ClassFile.FieldType.long)).before args0 about1 = true := code_word (m := ⟨1, 1⟩) (meth := k1m1) (c := k1c1) (by decide +kernel) rfl rfl rfl (by decide +kernel)
set_option maxRecDepth 65536 in
theorem w_c11 : (Jvm.Cond.code ({ cls := "java/lang/String", name := "charAt", desc := "(I)C" } : Jvm.MethodName) jdk_42_method_56_code (2 : Nat) (Option.some Jvm.ClassFile.FieldType.char)).before args0 about1 = true := code_word (m := ⟨8, 3⟩) (meth := k8m3) (c := k8c3) (by decide +kernel) rfl rfl rfl (by decide +kernel)
set_option maxRecDepth 65536 in
theorem w_c12 : (Jvm.Cond.code ({ cls := "java/lang/String", name := "isLatin1", desc := "()Z" } : Jvm.MethodName) jdk_42_method_154_code (1 : Nat) (Option.some Jvm.ClassFile.FieldType.boolean)).before args0 about1 = true := code_word (m := ⟨8, 6⟩) (meth := k8m6) (c := k8c6) (by decide +kernel) rfl rfl rfl (by decide +kernel)
set_option maxRecDepth 65536 in
theorem w_c13 : (Jvm.Cond.code ({ cls := "java/lang/StringLatin1", name := "charAt", desc := "([BI)C" } : Jvm.MethodName) jdk_43_method_2_code (2 : Nat) (Option.some Jvm.ClassFile.FieldType.char)).before args0 about1 = true := code_word (m := ⟨10, 1⟩) (meth := k10m1) (c := k10c1) (by decide +kernel) rfl rfl rfl (by decide +kernel)
set_option maxRecDepth 65536 in
theorem w_c14 : (Jvm.Cond.code ({ cls := "java/lang/String", name := "checkIndex", desc := "(II)V" } : Jvm.MethodName) jdk_42_method_155_code (2 : Nat) (Option.none : Option Jvm.ClassFile.FieldType)).before args0 about1 = true := code_word (m := ⟨8, 7⟩) (meth := k8m7) (c := k8c7) (by decide +kernel) rfl rfl rfl (by decide +kernel)
set_option maxRecDepth 65536 in
theorem w_c15 : (Jvm.Cond.code ({ cls := "jdk/internal/util/Preconditions", name := "checkIndex", desc := "(IILjava/util/function/BiFunction;)I" } : Jvm.MethodName) jdk_41_method_11_code (3 : Nat) (Option.some Jvm.ClassFile.FieldType.int)).before args0 about1 = true := code_word (m := ⟨11, 1⟩) (meth := k11m1) (c := k11c1) (by decide +kernel) rfl rfl rfl (by decide +kernel)
set_option maxRecDepth 65536 in
theorem w_c16 : (Jvm.Cond.code ({ cls := "com/example/relaywright/relaywright/outbox/EventIdsEncodePinLaw", name := "sym", desc := "(I)C" } : Jvm.MethodName) method_3_code (1 : Nat) (Option.some Jvm.ClassFile.FieldType.char)).before args0 about1 = true := code_word (m := ⟨1, 2⟩) (meth := k1m2) (c := k1c2) (by decide +kernel) rfl rfl rfl (by decide +kernel)
def codes1 : List Jvm.Cond := [Jvm.Cond.code x code maxLocals ret, Jvm.Cond.code ({ cls := "com/example/relaywright/relaywright/outbox/EventIds", name := "encode", desc := "(JJJ)Ljava/lang/String;" } : Jvm.MethodName) prog_16_method_4_code (15 : Nat) (Option.some (Jvm.ClassFile.FieldType.object "java/lang/String")), Jvm.Cond.code ({ cls := "java/lang/String", name := "<init>", desc := "([C)V" } : Jvm.MethodName) jdk_42_method_3_code (2 : Nat) (Option.none : Option Jvm.ClassFile.FieldType), Jvm.Cond.code ({ cls := "java/lang/String", name := "<init>", desc := "([CIILjava/lang/Void;)V" } : Jvm.MethodName) jdk_42_method_149_code (6 : Nat) (Option.none : Option Jvm.ClassFile.FieldType), Jvm.Cond.code ({ cls := "java/lang/Object", name := "<init>", desc := "()V" } : Jvm.MethodName) object_method_1_code (1 : Nat) (Option.none : Option Jvm.ClassFile.FieldType), Jvm.Cond.code ({ cls := "java/lang/StringUTF16", name := "compress", desc := "([CII)[B" } : Jvm.MethodName) jdk_52_method_16_code (6 : Nat) (Option.some (Jvm.ClassFile.FieldType.array Jvm.ClassFile.FieldType.byte)), Jvm.Cond.code ({ cls := "java/lang/StringUTF16", name := "compress", desc := "([CI[BII)I" } : Jvm.MethodName) jdk_52_method_21_code (7 : Nat) (Option.some Jvm.ClassFile.FieldType.int), Jvm.Cond.code ({ cls := "java/lang/StringUTF16", name := "coderFromArrayLen", desc := "([BI)B" } : Jvm.MethodName) jdk_52_method_15_code (2 : Nat) (Option.some Jvm.ClassFile.FieldType.byte), Jvm.Cond.code ({ cls := "java/lang/String", name := "length", desc := "()I" } : Jvm.MethodName) jdk_42_method_54_code (1 : Nat) (Option.some Jvm.ClassFile.FieldType.int), Jvm.Cond.code ({ cls := "java/lang/String", name := "coder", desc := "()B" } : Jvm.MethodName) jdk_42_method_152_code (1 : Nat) (Option.some Jvm.ClassFile.FieldType.byte), Jvm.Cond.code ({ cls := "com/example/relaywright/relaywright/outbox/EventIdsEncodePinLaw", name := "bit", desc := "(JJJI)J" } : Jvm.MethodName) method_2_code (7 : Nat) (Option.some Jvm.ClassFile.FieldType.long), Jvm.Cond.code ({ cls := "java/lang/String", name := "charAt", desc := "(I)C" } : Jvm.MethodName) jdk_42_method_56_code (2 : Nat) (Option.some Jvm.ClassFile.FieldType.char), Jvm.Cond.code ({ cls := "java/lang/String", name := "isLatin1", desc := "()Z" } : Jvm.MethodName) jdk_42_method_154_code (1 : Nat) (Option.some Jvm.ClassFile.FieldType.boolean), Jvm.Cond.code ({ cls := "java/lang/StringLatin1", name := "charAt", desc := "([BI)C" } : Jvm.MethodName) jdk_43_method_2_code (2 : Nat) (Option.some Jvm.ClassFile.FieldType.char), Jvm.Cond.code ({ cls := "java/lang/String", name := "checkIndex", desc := "(II)V" } : Jvm.MethodName) jdk_42_method_155_code (2 : Nat) (Option.none : Option Jvm.ClassFile.FieldType), Jvm.Cond.code ({ cls := "jdk/internal/util/Preconditions", name := "checkIndex", desc := "(IILjava/util/function/BiFunction;)I" } : Jvm.MethodName) jdk_41_method_11_code (3 : Nat) (Option.some Jvm.ClassFile.FieldType.int), Jvm.Cond.code ({ cls := "com/example/relaywright/relaywright/outbox/EventIdsEncodePinLaw", name := "sym", desc := "(I)C" } : Jvm.MethodName) method_3_code (1 : Nat) (Option.some Jvm.ClassFile.FieldType.char)]
set_option maxRecDepth 65536 in
theorem codes_eq : words1.filter isCode = codes1 := rfl
theorem w_codes : ∀ c ∈ words1.filter isCode, c.before args0 about1 = true := by
  rw [codes_eq]
  intro c hc
  simp only [codes1, List.mem_cons, List.not_mem_nil, or_false] at hc
  rcases hc with rfl | rfl | rfl | rfl | rfl | rfl | rfl | rfl | rfl | rfl | rfl | rfl | rfl | rfl | rfl | rfl | rfl
  · exact w_c0
  · exact w_c1
  · exact w_c2
  · exact w_c3
  · exact w_c4
  · exact w_c5
  · exact w_c6
  · exact w_c7
  · exact w_c8
  · exact w_c9
  · exact w_c10
  · exact w_c11
  · exact w_c12
  · exact w_c13
  · exact w_c14
  · exact w_c15
  · exact w_c16
set_option maxRecDepth 65536 in
theorem w_t1 : (words1.take 24).all (fun c => isCode c || c.before args0 about1) = true := by decide +kernel
set_option maxRecDepth 65536 in
theorem w_t2 : ((words1.drop 24).take 24).all (fun c => isCode c || c.before args0 about1) = true := by decide +kernel
set_option maxRecDepth 65536 in
theorem w_t3 : (((words1.drop 24).drop 24).take 24).all (fun c => isCode c || c.before args0 about1) = true := by decide +kernel
set_option maxRecDepth 65536 in
theorem w_t4 : (((words1.drop 24).drop 24).drop 24).all (fun c => isCode c || c.before args0 about1) = true := by decide +kernel
theorem w_tables : (allAtoms (Jvm.Cond.code x code maxLocals ret :: tables_1)).before args0 about1 = true := by
  rw [allAtoms_all]
  show words1.all (fun c => c.before args0 about1) = true
  refine all_split ?_ w_codes
  rw [← List.take_append_drop 24 words1, List.all_append, w_t1, ← List.take_append_drop 24 (words1.drop 24), List.all_append, w_t2, ← List.take_append_drop 24 ((words1.drop 24).drop 24), List.all_append, w_t3, w_t4]
  rfl
set_option maxRecDepth 65536 in
theorem w_rest : rest_1_c.before args0 about1 = true := by decide +kernel
set_option maxRecDepth 65536 in
theorem w_case : (Jvm.Cond.and given_1 narrow_1).before args0 about1 = true := by decide +kernel
theorem w_applies : (headSpec (Jvm.Cond.code x code maxLocals ret :: tables_1) room_1).applies x e0.platform about1 = true :=
  (Spec.applies_iff w_frames).mpr ⟨w_running, w_runnable, w_alone, w_named, w_hears, w_ripe, w_room, w_tables⟩
theorem atStart : AtStart classFile x code maxLocals ret World_1 tables_1 room_1 Calls_1 rest_1 Pre_1 launch0 p0 e0 about1 theMethod args0 below0 :=
  ⟨lists_1, trivial, launch0.admits_env _ _ _, launch0.least_env, fairChoices_fair.cas, fairChoices_fair.clock, w_frames, w_args, w_heap, w_applies, trivial, w_rest, w_case⟩
end start1
theorem witness_1 : WitnessClaimed_1 := ⟨start1.p0, start1.e0, start1.about1, start1.theMethod, start1.args0, start1.below0, start1.atStart⟩
end Jvm.Pilot.@@N@@
