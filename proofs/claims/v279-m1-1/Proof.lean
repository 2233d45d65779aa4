import JvmDerived
import JvmDerived.Pilot.@@N@@Statement
import JvmDerived.Pilot.@@N@@Code
set_option linter.unusedVariables false
set_option linter.unusedSimpArgs false
namespace Jvm.RoadKit
section OwnHeaps
variable {h h' h2 hm : Heap} {ws : List Addr}
theorem Ext.oRefl (h : Heap) : Ext h h := ⟨Nat.le_refl _, fun _ _ q => q⟩
theorem Ext.oTrans (A : Ext h h') (B : Ext h' h2) : Ext h h2 := ⟨Nat.le_trans A.1 B.1, fun x c q => B.2 x c (A.2 x c q)⟩
theorem Keep.oExt (K : Keep h h' []) : Ext h h' := ⟨K.1, fun x c q => K.2.1 x c q (fun z => nomatch z)⟩
theorem Ext.oKeepOf (E : Ext h h') (ws : List Addr) : Keep h h' ws := (Keep.refl h ws).ext E
theorem Ext.oKeep (A : Ext hm h) (K : Keep h h' ws) (q : ∀ x ∈ ws, hm.size ≤ x) : Ext hm h' :=
  ⟨Nat.le_trans A.1 K.1, fun x c hx => K.2.1 x c (A.2 x c hx) fun z => absurd (Array.getElem?_eq_some_iff.mp hx).1 (Nat.not_lt.mpr (q x z))⟩
end OwnHeaps
end Jvm.RoadKit
namespace Jvm.OwnKit
open Sem ClassFile Op Lib Jvm.Stand Jvm.Free Jvm.LawKit Jvm.RoadKit Bundle
/-! the author's own layer: a walk as a chain of goals 'from this frame the body ends right' -/
/-- from this frame on the body comes to an end of which Q holds -/
def Goes (tb : Tables) (e : Env) (below : List Frame) (Q : Outcome → State → Prop) (T : State) (g : JFrame) : Prop :=
  ∃ s₂ o, Steps tb e below (T.setTop g) s₂ ∧ s₂.status = .running ∧ Ended s₂ below o ∧ Q o s₂
section Core
variable {tb : Tables} {e : Env} {below : List Frame} {Q : Outcome → State → Prop} {T T' : State} {g g' : JFrame}
theorem Goes.go (st : ∀ t, Steps tb e below (T'.setTop g') t → Steps tb e below (T.setTop g) t) (k : Goes tb e below Q T' g') : Goes tb e below Q T g := by
  obtain ⟨s₂, o, h1, h2⟩ := k
  exact ⟨s₂, o, st _ h1, h2⟩
theorem Goes.via (st : Steps tb e below (T.setTop g) (T'.setTop g')) (k : Goes tb e below Q T' g') : Goes tb e below Q T g := Goes.go (fun _ h => st.trans h) k
theorem Goes.cast {g1 : JFrame} (q : g = g1) (k : Goes tb e below Q T g1) : Goes tb e below Q T g := q ▸ k
end Core
/-! heaps -/
section Heaps
variable {Z : State} {EL : List (String × Nat)} {vm vm0 : Vm} {h h' h0 h2 hm : Heap} {ws : List Addr} {a b : Addr}
/-- safe under whatever alike tables -/
def SafeA (Z : State) (EL : List (String × Nat)) (h : Heap) (x : Addr) : Prop := ∀ vm : Vm, Z.vm.Alike vm → Safe Z EL vm h x
theorem SafeA.exa {C : String} (E : Exa Z h a C) (h1 : C ≠ "java/lang/String") (h2 : C ≠ "[B") : SafeA Z EL h a := fun _ hal => Safe.exa hal E h1 h2
theorem SafeA.arv {k : ClassId} {ty : FieldType} {z : Int32} {vs : List Value} {dv : Value} (A : Arv Z h a k ty z vs dv) (ht : ty ≠ .byte) : SafeA Z EL h a := fun _ hal => Safe.arv hal A ht
theorem SafeA.nil : SafeA Z [] h a := fun _ _ B => by obtain ⟨p, hp, -⟩ := B; cases hp
/-- how the mark goes on: it stays where only younger cells were written; or it is set anew, where what was written is younger or safe -/
def Mark (Z : State) (EL : List (String × Nat)) (hm h : Heap) (ws : List Addr) (h' hm' : Heap) : Prop :=
  (hm' = hm ∧ ∀ x ∈ ws, hm.size ≤ x) ∨ (hm' = h' ∧ ∀ x ∈ ws, hm.size ≤ x ∨ SafeA Z EL h x)
theorem Mark.stay (q : ∀ x ∈ ws, hm.size ≤ x) : Mark Z EL hm h ws h' hm := Or.inl ⟨rfl, q⟩
theorem Mark.anew (q : ∀ x ∈ ws, hm.size ≤ x ∨ SafeA Z EL h x) : Mark Z EL hm h ws h' h' := Or.inr ⟨rfl, q⟩
theorem mark_go {vs : Vm} {hs hm' : Heap} (hal : Z.vm.Alike vm0) (C : CHr Z EL vs hs vm0 hm) (E : Ext hm h) (K : Keep h h' ws) (M : Mark Z EL hm h ws h' hm') : CHr Z EL vs hs vm0 hm' ∧ Ext hm' h' := by
  rcases M with ⟨rfl, q⟩ | ⟨rfl, q⟩
  · exact ⟨C, E.oKeep K q⟩
  · have C1 := C.trans (CHr.ext E C.1)
    exact ⟨C1.trans (CHr.keep K (fun x hx => (q x hx).elim (fun y => Safe.ext E C.1 (Safe.new y)) (fun y => y _ hal)) C1.1), Ext.oRefl _⟩
end Heaps
/-! the walk -/
/-- where a walk stands: N: it may not have interned; hm: the mark (literals that the tables book lie in it); h: the heap -/
def Wk (N : Prop) (p : Program) (l : Launch) (e : Env) (R : Room) (s : State) (m : MethodId) (args : Array Value) (below : List Frame) (meth : Method) (c : Code) (Z : State) (own : String) (EL : List (String × Nat)) (hm : Heap) (T : State) (h : Heap) (cells slots : Nat) : Prop :=
  ∃ (vm0 : Vm) (locs : List Loc) (k0 : Nat), (N → vm0 = s.vm) ∧ Stand p l e R (s.setVm vm0) m args below meth c T locs cells slots ∧ T.heap = h ∧ p.tables.exec = Jvm.exec ∧ Z.Warmed39 vm0 ∧ vm0.findClass own = some m.cls ∧ Fr Z.heap.size locs ∧ s.Since vm0 k0 ∧ k0 ≤ h.size ∧ CHr Z EL s.vm s.heap vm0 hm ∧ Ext hm h ∧ Ext Z.heap h
/-- the two kinds of end -/
def EndN (Z s : State) (C S : Nat) (Qv : Option Value → Heap → Prop) (o : Outcome) (U : State) : Prop := ∃ v L, o = .returned v ∧ (Qv v U.heap ∧ Fr Z.heap.size L) ∧ FrameEnd s o U L C S
def EndS (Z s : State) (EL : List (String × Nat)) (C S : Nat) (Qv : Option Value → Heap → Prop) (o : Outcome) (U : State) : Prop := ∃ v L, o = .returned v ∧ (Qv v U.heap ∧ Fr Z.heap.size L) ∧ CHr Z EL s.vm s.heap U.vm U.heap ∧ ReturnedEndW s o U L C S
/-- a callee's contract: it interns nothing -/
def CtrN (l : Launch) (Z : State) (y : MethodName) (bytes : ByteArray) (maxL : Nat) (ret : Option FieldType) (rm : Room) (as' : Array Value) (h0 : Heap) (Qv : Option Value → Heap → Prop) : Prop :=
  ∀ ws, MetFree l y (head1 (Cond.code y bytes maxL ret :: ws) rm) (fun a U => a = as' ∧ Z.Warmed39 U.vm ∧ U.heap = h0) (fun _ _ _ _ _ => True) (fun _ U o U' => EndN Z U rm.cells rm.slots Qv o U')
/-- a callee's contract: it may intern -/
def CtrS (l : Launch) (Z : State) (EL : List (String × Nat)) (y : MethodName) (bytes : ByteArray) (maxL : Nat) (ret : Option FieldType) (rm : Room) (as' : Array Value) (h0 : Heap) (Qv : Option Value → Heap → Prop) : Prop :=
  ∀ ws, MetFree l y (head1 (Cond.code y bytes maxL ret :: ws) rm) (fun a U => a = as' ∧ Z.Warmed39 U.vm ∧ U.heap = h0 ∧ CHv Z EL U.vm h0) (fun _ _ _ _ _ => True) (fun _ U o U' => EndS Z U EL rm.cells rm.slots Qv o U')
section Walk
variable {N : Prop} {p : Program} {l : Launch} {e : Env} {R : Room} {s : State} {m : MethodId} {args : Array Value} {below : List Frame} {meth : Method} {c : Code} {Z : State} {a0 : Array Value} {own : String} {EL : List (String × Nat)} {hm : Heap} {T : State} {h : Heap} {cells slots : Nat} {Q : Outcome → State → Prop} {g : JFrame}
theorem Wk.here (X : Wk N p l e R s m args below meth c Z own EL hm T h cells slots) : At T m c below := by obtain ⟨_, _, _, _, X, _⟩ := X; exact X.here
theorem Wk.ex (X : Wk N p l e R s m args below meth c Z own EL hm T h cells slots) : p.tables.exec = Jvm.exec := by obtain ⟨_, _, _, _, _, _, q, _⟩ := X; exact q
theorem Wk.ext (X : Wk N p l e R s m args below meth c Z own EL hm T h cells slots) : Ext hm h := by obtain ⟨_, _, _, _, _, _, _, _, _, _, _, _, _, q, _⟩ := X; exact q
theorem Wk.old (X : Wk N p l e R s m args below meth c Z own EL hm T h cells slots) : Ext Z.heap h := by obtain ⟨_, _, _, _, _, _, _, _, _, _, _, _, _, _, q⟩ := X; exact q
theorem Wk.free (X : Wk N p l e R s m args below meth c Z own EL hm T h cells slots) : Wk False p l e R s m args below meth c Z own EL hm T h cells slots := by
  obtain ⟨vm0, locs, k0, _, r⟩ := X; exact ⟨vm0, locs, k0, fun q => q.elim, r⟩
/-- the mark may be set anew at any time -/
theorem Wk.mark (X : Wk N p l e R s m args below meth c Z own EL hm T h cells slots) : Wk N p l e R s m args below meth c Z own EL h T h cells slots := by
  obtain ⟨vm0, locs, k0, h1, h2, h3, h4, h5, h6, h7, h8, h9, h10, h11, h12⟩ := X
  exact ⟨vm0, locs, k0, h1, h2, h3, h4, h5, h6, h7, h8, h9, h10.trans (CHr.ext h11 h10.1), Ext.oRefl _, h12⟩
theorem Wk.mono {c' n' : Nat} (X : Wk N p l e R s m args below meth c Z own EL hm T h cells slots) (hc : cells ≤ c') (hn : slots ≤ n') : Wk N p l e R s m args below meth c Z own EL hm T h c' n' := by
  obtain ⟨vm0, locs, k0, h1, h2, r⟩ := X
  exact ⟨vm0, locs, k0, h1, h2.mono hc hn, r⟩
theorem Wk.start {s₁ : State} {h0 : Heap} (X : Stand p l e R s m args below meth c s₁ [] 0 0) (e0 : s₁.heap = h0) (es : s.heap = h0) (hx : p.tables.exec = Jvm.exec) (hZ : Z.Warmed39 s.vm) (hown : s.vm.findClass own = some m.cls) (H : CHv Z EL s.vm h0) (hO : Ext Z.heap h0) :
    Wk N p l e R s m args below meth c Z own EL h0 s₁ h0 0 0 :=
  ⟨s.vm, [], s.heap.size, fun _ => rfl, X, e0, hx, hZ, hown, Fr.nil _, (State.WarmedH.refl s).since _, by rw [es]; exact Nat.le_refl _, by rw [es]; exact CHr.refl H, Ext.oRefl _, hO⟩
/-! leaving -/
theorem Goes.outN {C S : Nat} {Qv : Option Value → Heap → Prop} (X : Wk True p l e R s m args below meth c Z own EL hm T h cells slots) {v : Option Value} (hv : meth.sig.returnType = none → v = none) (hlk : meth.locks = false)
    (st : ∀ fs, (∀ (f : JFrame) (acts : List Action), f.method = m → f.locked = none → f.entered = [] → (doReturn e (T.setTop f) acts v).1 = T.setFrames fs) → Steps p.tables e below (T.setTop g) (T.setFrames fs))
    (hq : Qv v h) (hc : cells ≤ C) (hs : slots ≤ S) : Goes p.tables e below (EndN Z s C S Qv) T g := by
  obtain ⟨vm0, locs, k0, h1, X, h3, h4, h5, h6, h7, h8, h9, h10, h11, h12⟩ := X
  obtain rfl := h1 trivial
  obtain ⟨fs, hr, hrun, hended, hW, hsame⟩ := X.leave (v := v) hv hlk
  exact ⟨_, _, st fs hr, hrun, hended, v, locs, rfl, ⟨by rw [← h3] at hq; exact hq, h7⟩, ⟨v, rfl⟩, hW, hsame.mono hc hs⟩
theorem Goes.outS {C S : Nat} {Qv : Option Value → Heap → Prop} (X : Wk N p l e R s m args below meth c Z own EL hm T h cells slots) (hEL : EW Z a0 EL) {v : Option Value} (hv : meth.sig.returnType = none → v = none) (hlk : meth.locks = false)
    (st : ∀ fs, (∀ (f : JFrame) (acts : List Action), f.method = m → f.locked = none → f.entered = [] → (doReturn e (T.setTop f) acts v).1 = T.setFrames fs) → Steps p.tables e below (T.setTop g) (T.setFrames fs))
    (hq : Qv v h) (hc : cells ≤ C) (hs : slots ≤ S) : Goes p.tables e below (EndS Z s EL C S Qv) T g := by
  obtain ⟨vm0, locs, k0, h1, X, h3, h4, h5, h6, h7, h8, h9, h10, h11, h12⟩ := X
  have h9' : k0 ≤ T.heap.size := by rw [h3]; exact h9
  obtain ⟨fs, hr, hrun, hended, r1, r2, r3, r4⟩ := X.leaveW h8 h9' (v := v) hv hlk
  have C1 := h10.trans (CHr.ext h11 h10.1)
  have C2 : CHr Z EL vm0 h T.vm h := CHv.at X h5 hEL C1.1
  refine ⟨_, _, st fs hr, hrun, hended, v, locs, rfl, ⟨by rw [← h3] at hq; exact hq, h7⟩, ?_, r1, r2, r3, r4.mono hc hs⟩
  have C3 := C1.trans C2
  rw [← h3] at C3
  exact C3
/-- the six returns; t: what is owed at the end (EndN or EndS) by outN, outS -/
theorem st_int {vm0 : Vm} {locs : List Loc} (X : Stand p l e R (s.setVm vm0) m args below meth c T locs cells slots) (hx : p.tables.exec = Jvm.exec) {pc : Nat} {Ls : Array Slot} {z : Int32} {rest : List Value} (hret : meth.sig.returnType = some .int) (hd : decode c.code pc = .ok (.ireturn, 1)) :
    ∀ fs, (∀ (f : JFrame) (acts : List Action), f.method = m → f.locked = none → f.entered = [] → (doReturn e (T.setTop f) acts (some (.int z))).1 = T.setFrames fs) → Steps p.tables e below (T.setTop (mkF m pc Ls (.int z :: rest))) (T.setFrames fs) :=
  fun fs hl => retOut X hx hret rfl (Or.inl ⟨rfl, Or.inl rfl, z, rfl⟩) hd hl
theorem Wk.rI (X : Wk N p l e R s m args below meth c Z own EL hm T h cells slots) {pc : Nat} {Ls : Array Slot} {z : Int32} {rest : List Value} (hret : meth.sig.returnType = some .int) (hd : decode c.code pc = .ok (.ireturn, 1)) :
    ∀ fs, (∀ (f : JFrame) (acts : List Action), f.method = m → f.locked = none → f.entered = [] → (doReturn e (T.setTop f) acts (some (.int z))).1 = T.setFrames fs) → Steps p.tables e below (T.setTop (mkF m pc Ls (.int z :: rest))) (T.setFrames fs) := by
  obtain ⟨vm0, locs, k0, h1, X', h3, h4, r⟩ := X
  exact fun fs hl => retOut X' h4 hret rfl (Or.inl ⟨rfl, Or.inl rfl, z, rfl⟩) hd hl
theorem Wk.rB (X : Wk N p l e R s m args below meth c Z own EL hm T h cells slots) {t : FieldType} {pc : Nat} {Ls : Array Slot} {z : Int32} {rest : List Value} (hret : meth.sig.returnType = some t) (ht : t = .boolean ∨ t = .byte ∨ t = .char ∨ t = .short) (hd : decode c.code pc = .ok (.ireturn, 1)) :
    ∀ fs, (∀ (f : JFrame) (acts : List Action), f.method = m → f.locked = none → f.entered = [] → (doReturn e (T.setTop f) acts (some (.int (nar t z)))).1 = T.setFrames fs) → Steps p.tables e below (T.setTop (mkF m pc Ls (.int z :: rest))) (T.setFrames fs) := by
  obtain ⟨vm0, locs, k0, h1, X', h3, h4, r⟩ := X
  exact fun fs hl => retN X' h4 hret ht hd hl
theorem Wk.rJ (X : Wk N p l e R s m args below meth c Z own EL hm T h cells slots) {pc : Nat} {Ls : Array Slot} {z : Int64} {rest : List Value} (hret : meth.sig.returnType = some .long) (hd : decode c.code pc = .ok (.lreturn, 1)) :
    ∀ fs, (∀ (f : JFrame) (acts : List Action), f.method = m → f.locked = none → f.entered = [] → (doReturn e (T.setTop f) acts (some (.long z))).1 = T.setFrames fs) → Steps p.tables e below (T.setTop (mkF m pc Ls (.long z :: rest))) (T.setFrames fs) := by
  obtain ⟨vm0, locs, k0, h1, X', h3, h4, r⟩ := X
  exact fun fs hl => retOut X' h4 hret rfl (Or.inr (Or.inl ⟨rfl, rfl, z, rfl⟩)) hd hl
theorem Wk.rA (X : Wk N p l e R s m args below meth c Z own EL hm T h cells slots) {t : FieldType} {pc : Nat} {Ls : Array Slot} {w : Value} {rest : List Value} (hret : meth.sig.returnType = some t) (ht : t.isReference = true) (hw : w.isRef = true) (hd : decode c.code pc = .ok (.areturn, 1)) :
    ∀ fs, (∀ (f : JFrame) (acts : List Action), f.method = m → f.locked = none → f.entered = [] → (doReturn e (T.setTop f) acts (some w)).1 = T.setFrames fs) → Steps p.tables e below (T.setTop (mkF m pc Ls (w :: rest))) (T.setFrames fs) := by
  obtain ⟨vm0, locs, k0, h1, X', h3, h4, r⟩ := X
  have hn : narrow t w = w := by
    rcases ref_cases hw with rfl | ⟨_, rfl⟩ <;> cases t <;> first | rfl | exact absurd ht (by decide)
  exact fun fs hl => retOut X' h4 hret hn (Or.inr (Or.inr (Or.inr (Or.inr ⟨rfl, ht, hw⟩)))) hd hl
theorem Wk.rV (X : Wk N p l e R s m args below meth c Z own EL hm T h cells slots) {pc : Nat} {Ls : Array Slot} (hret : meth.sig.returnType = none) (hd : decode c.code pc = .ok (.return_, 1)) :
    ∀ fs, (∀ (f : JFrame) (acts : List Action), f.method = m → f.locked = none → f.entered = [] → (doReturn e (T.setTop f) acts none).1 = T.setFrames fs) → Steps p.tables e below (T.setTop (mkF m pc Ls [])) (T.setFrames fs) := by
  obtain ⟨vm0, locs, k0, h1, X', h3, h4, r⟩ := X
  exact fun fs hl => X'.returnOut h4 hret hd hl
/-! steps that move the tables or the heap -/
theorem Wk.getF (X : Wk N p l e R s m args below meth c Z own EL hm T h cells slots) {R0 O n d host : String} {index : Nat} (w : (Cond.fieldLink own index R0 n d).before a0 Z = true ∨ (Cond.fieldLinkNest own index R0 n d host).before a0 Z = true) (via : Via Z R0 O n d) {a : Addr} {v : Value} (F : Fld Z h a O n d v)
    {g : JFrame} (hg : g.method = m) {rest : List Value} (hs : g.stack = .ref a :: rest) (hd : decode c.code g.pc = .ok (.getfield index, 3))
    (k : ∀ T', Wk N p l e R s m args below meth c Z own EL hm T' h cells slots → Goes p.tables e below Q T' { g with pc := g.pc + 3, stack := v :: rest }) : Goes p.tables e below Q T g := by
  obtain ⟨vm0, locs, k0, h1, X', h3, h4, h5, h6, r⟩ := X
  obtain ⟨T', X2, e2, st⟩ := RoadKit.getF (s := s.setVm vm0) X' h4 h5 h6 w via h3 F hg hs hd
  exact Goes.go st (k T' ⟨vm0, locs, k0, h1, X2, e2, h4, h5, h6, r⟩)
theorem Wk.getS (X : Wk N p l e R s m args below meth c Z own EL hm T h cells slots) {R0 O n d host : String} {index : Nat} (w : (Cond.fieldLink own index R0 n d).before a0 Z = true ∨ (Cond.fieldLinkNest own index R0 n d host).before a0 Z = true) (via : Via Z R0 O n d) {v : Value} (F : Sta Z Z.heap O n d v)
    {g : JFrame} (hg : g.method = m) (hd : decode c.code g.pc = .ok (.getstatic index, 3))
    (k : ∀ T', Wk N p l e R s m args below meth c Z own EL hm T' h cells slots → Goes p.tables e below Q T' { g with pc := g.pc + 3, stack := v :: g.stack }) : Goes p.tables e below Q T g := by
  have hOld := X.old
  obtain ⟨vm0, locs, k0, h1, X', h3, h4, h5, h6, r⟩ := X
  obtain ⟨T', X2, e2, st⟩ := getS2 (s := s.setVm vm0) X' h4 h5 h6 w via h3 (F.ext hOld) hg hd
  exact Goes.go st (k T' ⟨vm0, locs, k0, h1, X2, e2, h4, h5, h6, r⟩)
theorem Wk.new (X : Wk N p l e R s m args below meth c Z own EL hm T h cells slots) {C : String} {index n : Nat} (w : (Cond.classLink own index C).before a0 Z = true) (wi : (Cond.instantiable C n).before a0 Z = true) (wz : (Cond.initialized C).before a0 Z = true)
    {g : JFrame} (hg : g.method = m) (hd : decode c.code g.pc = .ok (.new index, 3)) (hc : cells + 1 ≤ R.cells) (hl : slots + n ≤ R.slots)
    (k : ∀ (T' : State) (h' : Heap) (a : Addr), a = h.size → Wk N p l e R s m args below meth c Z own EL hm T' h' (cells + 1) (slots + n) → Ext h h' → Exa Z h' a C → (∀ {O nm d : String} {ty : FieldType}, Laid Z a0 C O nm d → parseFieldDescriptor d = some ty → Fld Z h' a O nm d (defaultValue ty)) →
      Goes p.tables e below Q T' { g with pc := g.pc + 3, stack := .ref a :: g.stack }) : Goes p.tables e below Q T g := by
  obtain ⟨vm0, locs, k0, h1, X', h3, h4, h5, h6, h7, h8, h9, h10, h11, h12⟩ := X
  obtain ⟨T', h', X2, e2, E, A, D, -, st⟩ := newO (s := s.setVm vm0) X' h4 h5 h6 w wi wz h3 hg hd hc hl
  exact Goes.go st (k T' h' _ rfl ⟨vm0, locs, k0, h1, X2, e2, h4, h5, h6, h7, h8, Nat.le_trans h9 E.1, h10, h11.oTrans E, h12.oTrans E⟩ E A D)
theorem Wk.newA (X : Wk N p l e R s m args below meth c Z own EL hm T h cells slots) {aty : ArrayType} (w : (Cond.arrayClass (newarray.typeOf aty)).before a0 Z = true)
    {g : JFrame} (hg : g.method = m) (hd : decode c.code g.pc = .ok (.newarray aty, 2)) {n : Int32} {rest : List Value} (hs : g.stack = .int n :: rest) (hn : ¬ n < 0) {cap : Nat} (hcap : n.toNatClampNeg ≤ cap) (hb : cap * 8 ≤ 536870912) (hc : cells + 1 ≤ R.cells) (hl : slots + cap ≤ R.slots)
    (k : ∀ (T' : State) (h' : Heap) (a : Addr) (kA : ClassId), a = h.size → Wk N p l e R s m args below meth c Z own EL hm T' h' (cells + 1) (slots + cap) → Ext h h' → Arv Z h' a kA (newarray.typeOf aty) n [] (defaultValue (newarray.typeOf aty)) → Exa Z h' a ("[" ++ (newarray.typeOf aty).toString) →
      Goes p.tables e below Q T' { g with pc := g.pc + 2, stack := .ref a :: rest }) : Goes p.tables e below Q T g := by
  obtain ⟨vm0, locs, k0, h1, X', h3, h4, h5, h6, h7, h8, h9, h10, h11, h12⟩ := X
  obtain ⟨T', h', kA, X2, e2, E, A, B, st⟩ := newPE (s := s.setVm vm0) X' h4 h5 w h3 hg hd hs hn hcap hb hc hl rfl
  exact Goes.go st (k T' h' _ kA rfl ⟨vm0, locs, k0, h1, X2, e2, h4, h5, h6, h7, h8, Nat.le_trans h9 E.1, h10, h11.oTrans E, h12.oTrans E⟩ E (Arv.new A hn) B)
theorem own_fitC {a : Addr} {kA : ClassId} {ty : FieldType} {z : Int32} {vs : List Value} {dv : Value} {cl : Cell} (A : Arr Z h a cl ty) (Hh : Has cl vs dv) (G : ∀ i, i < cl.slots.size → fits ty (vs.getD i dv) = true) : FitC Z cl := by
  intro i v hv
  obtain ⟨-, kk, hk, comp, hkind⟩ := A.2.1
  have hi : i < cl.slots.size := (Array.getElem?_eq_some_iff.mp hv).1
  have e := Hh i hi
  rw [hv] at e
  cases e
  have e2 : Z.slotType? cl.cls .none i = some ty := by simp [State.slotType?, hk, hkind]
  simpa [State.fitsSlot, e2] using G i hi
theorem Wk.cloneV (X : Wk N p l e R s m args below meth c Z own EL hm T h cells slots) {ad : String} {index : Nat}
    (w1 : (Cond.methodLink own index ⟨ad, "clone", "()Ljava/lang/Object;"⟩).before a0 Z = true) (w2 : (Cond.sameMethod ad "java/lang/Object" "clone" "()Ljava/lang/Object;").before a0 Z = true) (w3 : (Cond.native ⟨"java/lang/Object", "clone", "()Ljava/lang/Object;"⟩).before a0 Z = true)
    (w4 : (Cond.instanceMethod ⟨"java/lang/Object", "clone", "()Ljava/lang/Object;"⟩).before a0 Z = true) (w5 : (Cond.selects ad ⟨ad, "clone", "()Ljava/lang/Object;"⟩ ⟨"java/lang/Object", "clone", "()Ljava/lang/Object;"⟩).before a0 Z = true) (w6 : (Cond.castable ad "java/lang/Cloneable").before a0 Z = true)
    {a : Addr} {kA : ClassId} {ty : FieldType} {z : Int32} {vs : List Value} {dv : Value} (A : Arv Z h a kA ty z vs dv) (E : Exa Z h a ad) {g : JFrame} (hg : g.method = m) (hsize : g.locals.size = c.maxLocals) {rest : List Value} (hs : g.stack = .ref a :: rest) (hd : decode c.code g.pc = .ok (.invokevirtual index, 3))
    (hf : 1 ≤ R.frames) {W cap : Nat} (hW : 2 * g.monitorRoom + (rest.map fun v => v.category).sum ≤ W) (hl : W + 14 ≤ R.locals) (hcap : z.toNatClampNeg ≤ cap) (hc : cells + 1 ≤ R.cells) (hsl : slots + cap ≤ R.slots)
    (k : ∀ (T' : State) (h' : Heap) (b : Addr), b = h.size → Wk N p l e R s m args below meth c Z own EL hm T' h' (cells + 1) (slots + cap) → Ext h h' → Arv Z h' b kA ty z vs dv → Exa Z h' b ad →
      Goes p.tables e below Q T' { g with pc := g.pc + 3, stack := .ref b :: rest }) : Goes p.tables e below Q T g := by
  obtain ⟨vm0, locs, k0, h1, X', h3, h4, h5, h6, h7, h8, h9, h10, h11, h12⟩ := X
  obtain ⟨cl, Ar, q, Sz, Nn, Hh, G⟩ := A
  obtain ⟨T', h', X2, e2, E2, A2, B2, st⟩ := cloneA (s := s.setVm vm0) X' h4 h5 h6 w1 w2 w3 w4 w5 w6 h3 Ar E (own_fitC (kA := kA) (z := z) Ar Hh G) hg hsize hs hd hf hW hl (cap := cap) (by rw [Sz]; exact hcap) hc hsl
  exact Goes.go st (k T' h' _ rfl ⟨vm0, locs, k0, h1, X2, e2, h4, h5, h6, h7, h8, Nat.le_trans h9 E2.1, h10, h11.oTrans E2, h12.oTrans E2⟩ E2 ⟨_, A2, q, Sz, Nn, Hh, G⟩ B2)
/-- the core of every write of one slot -/
theorem Wk.wrote {vm0 : Vm} {locs : List Loc} {k0 : Nat} {T' : State} {h' hm' : Heap} {a : Addr} {sl : Nat} {v : Value} (h1 : N → vm0 = s.vm) (h4 : p.tables.exec = Jvm.exec) (h5 : Z.Warmed39 vm0) (h6 : vm0.findClass own = some m.cls) (h7 : Fr Z.heap.size locs) (h8 : s.Since vm0 k0) (h9 : k0 ≤ h.size) (h10 : CHr Z EL s.vm s.heap vm0 hm) (h11 : Ext hm h) (h12 : Ext Z.heap h)
    (X2 : Stand p l e R (s.setVm vm0) m args below meth c T' (locs ++ [⟨a, sl⟩]) cells slots) (e2 : T'.heap = h') (W : Wr h h' a sl v) (ga : Z.heap.size ≤ a) (M : Mark Z EL hm h [a] h' hm') : Wk N p l e R s m args below meth c Z own EL hm' T' h' cells slots := by
  have K := Keep.of_wr W
  obtain ⟨C, E⟩ := mark_go h5.alike h10 h11 K M
  exact ⟨vm0, _, k0, h1, X2, e2, h4, h5, h6, Fr.snoc X2 h7 ga, h8, Nat.le_trans h9 K.1, C, E, h12.oKeep K (fun x hx => by cases List.mem_singleton.mp hx; exact ga)⟩
theorem Wk.putF {hm' : Heap → Heap} (X : Wk N p l e R s m args below meth c Z own EL hm T h cells slots) {R0 O n d host C : String} {index kk : Nat} {ty : FieldType} (w : (Cond.fieldLink own index R0 n d).before a0 Z = true ∨ (Cond.fieldLinkNest own index R0 n d host).before a0 Z = true) (via : Via Z R0 O n d)
    {a : Addr} {v old : Value} (F : Fld Z h a O n d old) (E : Exa Z h a C) (L : (Cond.lays C O n d).before a0 Z = true ∨ ((Cond.laysFinal C O n d).before a0 Z = true ∧ own = O ∧ meth.name = "<init>")) (wi : (Cond.instantiable C kk).before a0 Z = true)
    (hty : parseFieldDescriptor d = some ty) (hn : narrow ty v = v) (hf : fits ty v = true) (ga : Z.heap.size ≤ a) (M : ∀ h', Mark Z EL hm h [a] h' (hm' h')) {g : JFrame} (hg : g.method = m) {rest : List Value} (hs : g.stack = v :: .ref a :: rest) (hd : decode c.code g.pc = .ok (.putfield index, 3))
    (k : ∀ (T' : State) (h' : Heap), Wk N p l e R s m args below meth c Z own EL (hm' h') T' h' cells slots → Wr h h' a (Jvm.RoadKit.slotOf Z O n d) v → Goes p.tables e below Q T' { g with pc := g.pc + 3, stack := rest }) : Goes p.tables e below Q T g := by
  obtain ⟨vm0, locs, k0, h1, X', h3, h4, h5, h6, h7, h8, h9, h10, h11, h12⟩ := X
  obtain ⟨T', h', X2, e2, W, st⟩ := RoadKit.putF (s := s.setVm vm0) X' h4 h5 h6 w via h3 F E L wi hty hn hf hg hs hd
  exact Goes.go st (k T' h' (Wk.wrote h1 h4 h5 h6 h7 h8 h9 h10 h11 h12 X2 e2 W ga (M h')) W)
theorem Wk.putFN {hm' : Heap → Heap} (X : Wk N p l e R s m args below meth c Z own EL hm T h cells slots) {R0 O n d C : String} {index kk : Nat} {ty : FieldType} (w : (Cond.fieldLink own index R0 n d).before a0 Z = true) (via : Via Z R0 O n d)
    {a : Addr} {v v' old : Value} (F : Fld Z h a O n d old) (E : Exa Z h a C) (L : (Cond.lays C O n d).before a0 Z = true ∨ ((Cond.laysFinal C O n d).before a0 Z = true ∧ own = O ∧ meth.name = "<init>")) (wi : (Cond.instantiable C kk).before a0 Z = true)
    (hty : parseFieldDescriptor d = some ty) (hn : narrow ty v = v') (hf : fits ty v' = true) (ga : Z.heap.size ≤ a) (M : ∀ h', Mark Z EL hm h [a] h' (hm' h')) {g : JFrame} (hg : g.method = m) {rest : List Value} (hs : g.stack = v :: .ref a :: rest) (hd : decode c.code g.pc = .ok (.putfield index, 3))
    (k : ∀ (T' : State) (h' : Heap), Wk N p l e R s m args below meth c Z own EL (hm' h') T' h' cells slots → Wr h h' a (Jvm.RoadKit.slotOf Z O n d) v' → Goes p.tables e below Q T' { g with pc := g.pc + 3, stack := rest }) : Goes p.tables e below Q T g := by
  obtain ⟨vm0, locs, k0, h1, X', h3, h4, h5, h6, h7, h8, h9, h10, h11, h12⟩ := X
  obtain ⟨T', h', X2, e2, W, st⟩ := RoadKit.putFN (s := s.setVm vm0) X' h4 h5 h6 w via h3 F E L wi hty hn hf hg hs hd
  exact Goes.go st (k T' h' (Wk.wrote h1 h4 h5 h6 h7 h8 h9 h10 h11 h12 X2 e2 W ga (M h')) W)
theorem wr_same {O n d : String} {h' : Heap} {a : Addr} {v : Value} (W : Wr h h' a (Jvm.RoadKit.slotOf Z O n d) v) (F : Fld Z h a O n d v) : h' = h := by
  obtain ⟨cell, h1, -, hlt, rfl⟩ := W
  obtain ⟨c2, cf, k, i, f, g1, g2, -, -, -, -, g7⟩ := F
  cases h1.symm.trans g1
  have es : Jvm.RoadKit.slotOf Z O n d = f.slot := by simp [Jvm.RoadKit.slotOf, g2]
  have e1 : cell.setSlot f.slot v = cell := by
    have e2 : cell.slots.setIfInBounds f.slot v = cell.slots := by
      apply Array.ext_getElem?
      intro j
      by_cases q : f.slot = j
      · subst q
        rw [Array.getElem?_setIfInBounds_self_of_lt (Array.getElem?_eq_some_iff.mp g7).1, g7]
      · rw [Array.getElem?_setIfInBounds_ne q]
    show { cell with slots := cell.slots.setIfInBounds f.slot v } = cell
    rw [e2]
  rw [es, e1]
  apply Array.ext_getElem?
  intro j
  by_cases q : a = j
  · subst q
    rw [Array.getElem?_setIfInBounds_self_of_lt (Array.getElem?_eq_some_iff.mp h1).1, h1]
  · rw [Array.getElem?_setIfInBounds_ne q]
theorem Wk.putFNsame (X : Wk N p l e R s m args below meth c Z own EL hm T h cells slots) {R0 O n d C : String} {index kk : Nat} {ty : FieldType} (w : (Cond.fieldLink own index R0 n d).before a0 Z = true) (via : Via Z R0 O n d)
    {a : Addr} {v v' : Value} (F : Fld Z h a O n d v') (E : Exa Z h a C) (L : (Cond.lays C O n d).before a0 Z = true ∨ ((Cond.laysFinal C O n d).before a0 Z = true ∧ own = O ∧ meth.name = "<init>")) (wi : (Cond.instantiable C kk).before a0 Z = true)
    (hty : parseFieldDescriptor d = some ty) (hn : narrow ty v = v') (hf : fits ty v' = true) (ga : Z.heap.size ≤ a) {g : JFrame} (hg : g.method = m) {rest : List Value} (hs : g.stack = v :: .ref a :: rest) (hd : decode c.code g.pc = .ok (.putfield index, 3))
    (k : ∀ (T' : State), Wk N p l e R s m args below meth c Z own EL hm T' h cells slots → Goes p.tables e below Q T' { g with pc := g.pc + 3, stack := rest }) : Goes p.tables e below Q T g := by
  obtain ⟨vm0, locs, k0, h1, X', h3, h4, h5, h6, h7, h8, h9, h10, h11, h12⟩ := X
  obtain ⟨T', h', X2, e2, W, st⟩ := RoadKit.putFN (s := s.setVm vm0) X' h4 h5 h6 w via h3 F E L wi hty hn hf hg hs hd
  obtain rfl := wr_same W F
  exact Goes.go st (k T' ⟨vm0, _, k0, h1, X2, e2, h4, h5, h6, Fr.snoc X2 h7 ga, h8, h9, h10, h11, h12⟩)
theorem Wk.castore {hm' : Heap → Heap} (X : Wk N p l e R s m args below meth c Z own EL hm T h cells slots) {a : Addr} {kA : ClassId} {z j x : Int32} {vs : List Value} {dv : Value} (A : Arv Z h a kA .char z vs dv) (hj : ¬ j < 0 ∧ j < z) {i : Nat} (hi : j.toNatClampNeg = i) (hl : i < vs.length) (ga : Z.heap.size ≤ a) (M : ∀ h', Mark Z EL hm h [a] h' (hm' h'))
    {g : JFrame} (hg : g.method = m) {rest : List Value} (hs : g.stack = .int x :: .int j :: .ref a :: rest) (hd : decode c.code g.pc = .ok (.castore, 1))
    (k : ∀ (T' : State) (h' : Heap), Wk N p l e R s m args below meth c Z own EL (hm' h') T' h' cells slots → Wr h h' a j.toNatClampNeg (.int (nar .char x)) → Arv Z h' a kA .char z (vs.set i (.int (nar .char x))) dv → Goes p.tables e below Q T' { g with pc := g.pc + 1, stack := rest }) : Goes p.tables e below Q T g := by
  obtain ⟨vm0, locs, k0, h1, X', h3, h4, h5, h6, h7, h8, h9, h10, h11, h12⟩ := X
  obtain ⟨cl, Ar, q, Sz, Nn, Hh, G⟩ := A
  obtain ⟨T', h', X2, e2, W, st⟩ := stC (s := s.setVm vm0) X' h4 h5 h3 Ar (j := j) (inb_of Sz hj) hg hs hd
  exact Goes.go st (k T' h' (Wk.wrote h1 h4 h5 h6 h7 h8 h9 h10 h11 h12 X2 e2 W ga (M h')) W (Arv.set Ar q Sz Nn Hh G (fits_nar_char _) W i hi hl))
theorem Wk.lastore {hm' : Heap → Heap} (X : Wk N p l e R s m args below meth c Z own EL hm T h cells slots) {a : Addr} {kA : ClassId} {z j : Int32} {x : Int64} {vs : List Value} {dv : Value} (A : Arv Z h a kA .long z vs dv) (hj : ¬ j < 0 ∧ j < z) {i : Nat} (hi : j.toNatClampNeg = i) (hl : i < vs.length) (ga : Z.heap.size ≤ a) (M : ∀ h', Mark Z EL hm h [a] h' (hm' h'))
    {g : JFrame} (hg : g.method = m) {rest : List Value} (hs : g.stack = .long x :: .int j :: .ref a :: rest) (hd : decode c.code g.pc = .ok (.lastore, 1))
    (k : ∀ (T' : State) (h' : Heap), Wk N p l e R s m args below meth c Z own EL (hm' h') T' h' cells slots → Wr h h' a j.toNatClampNeg (.long x) → Arv Z h' a kA .long z (vs.set i (.long x)) dv → Goes p.tables e below Q T' { g with pc := g.pc + 1, stack := rest }) : Goes p.tables e below Q T g := by
  obtain ⟨vm0, locs, k0, h1, X', h3, h4, h5, h6, h7, h8, h9, h10, h11, h12⟩ := X
  obtain ⟨cl, Ar, q, Sz, Nn, Hh, G⟩ := A
  obtain ⟨T', h', X2, e2, W, st⟩ := stJ (s := s.setVm vm0) X' h4 h5 h3 Ar (j := j) (inb_of Sz hj) hg hs hd
  exact Goes.go st (k T' h' (Wk.wrote h1 h4 h5 h6 h7 h8 h9 h10 h11 h12 X2 e2 W ga (M h')) W (Arv.set Ar q Sz Nn Hh G rfl W i hi hl))
theorem Wk.bastore {hm' : Heap → Heap} (X : Wk N p l e R s m args below meth c Z own EL hm T h cells slots) {a : Addr} {kA : ClassId} {z j x : Int32} {vs : List Value} {dv : Value} (A : Arv Z h a kA .byte z vs dv) (hj : ¬ j < 0 ∧ j < z) {i : Nat} (hi : j.toNatClampNeg = i) (hl : i < vs.length) (ga : Z.heap.size ≤ a) (M : ∀ h', Mark Z EL hm h [a] h' (hm' h'))
    {g : JFrame} (hg : g.method = m) {rest : List Value} (hs : g.stack = .int x :: .int j :: .ref a :: rest) (hd : decode c.code g.pc = .ok (.bastore, 1))
    (k : ∀ (T' : State) (h' : Heap), Wk N p l e R s m args below meth c Z own EL (hm' h') T' h' cells slots → Wr h h' a j.toNatClampNeg (.int (nar .byte x)) → Arv Z h' a kA .byte z (vs.set i (.int (nar .byte x))) dv → Goes p.tables e below Q T' { g with pc := g.pc + 1, stack := rest }) : Goes p.tables e below Q T g := by
  obtain ⟨vm0, locs, k0, h1, X', h3, h4, h5, h6, h7, h8, h9, h10, h11, h12⟩ := X
  obtain ⟨cl, Ar, q, Sz, Nn, Hh, G⟩ := A
  obtain ⟨T', h', X2, e2, W, st⟩ := stB (s := s.setVm vm0) X' h4 h5 h3 Ar (j := j) (inb_of Sz hj) hg hs hd
  exact Goes.go st (k T' h' (Wk.wrote h1 h4 h5 h6 h7 h8 h9 h10 h11 h12 X2 e2 W ga (M h')) W (Arv.set Ar q Sz Nn Hh G (fits_nar_byte _) W i hi hl))
/-! loads out of arrays, lengths -/
theorem Wk.caload (X : Wk N p l e R s m args below meth c Z own EL hm T h cells slots) {a : Addr} {kA : ClassId} {z j : Int32} {vs : List Value} {dv v : Value} (A : Arv Z h a kA .char z vs dv) (hj : ¬ j < 0 ∧ j < z) (hv : vs.getD j.toNatClampNeg dv = v)
    {g : JFrame} (hg : g.method = m) {rest : List Value} (hs : g.stack = .int j :: .ref a :: rest) (hd : decode c.code g.pc = .ok (.caload, 1)) : ∀ t, Steps p.tables e below (T.setTop { g with pc := g.pc + 1, stack := v :: rest }) t → Steps p.tables e below (T.setTop g) t := by
  obtain ⟨vm0, locs, k0, h1, X', h3, h4, h5, r⟩ := X
  obtain ⟨cl, Ar, q, Sz, Nn, Hh, G⟩ := A
  intro t k
  exact X'.caload h4 (j := j) (v := v) (by rw [h3]; exact Ar.1) (State.isArrayOf_alike h5.alike Ar.2.1) Ar.2.2 (inb_of Sz hj) (Hh.at (inb_of Sz hj) hv) hg hs hd t k
theorem Wk.laload (X : Wk N p l e R s m args below meth c Z own EL hm T h cells slots) {a : Addr} {kA : ClassId} {z j : Int32} {vs : List Value} {dv v : Value} (A : Arv Z h a kA .long z vs dv) (hj : ¬ j < 0 ∧ j < z) (hv : vs.getD j.toNatClampNeg dv = v)
    {g : JFrame} (hg : g.method = m) {rest : List Value} (hs : g.stack = .int j :: .ref a :: rest) (hd : decode c.code g.pc = .ok (.laload, 1)) : ∀ t, Steps p.tables e below (T.setTop { g with pc := g.pc + 1, stack := v :: rest }) t → Steps p.tables e below (T.setTop g) t := by
  obtain ⟨vm0, locs, k0, h1, X', h3, h4, h5, r⟩ := X
  obtain ⟨cl, Ar, q, Sz, Nn, Hh, G⟩ := A
  intro t k
  exact X'.laload h4 (j := j) (v := v) (by rw [h3]; exact Ar.1) (State.isArrayOf_alike h5.alike Ar.2.1) Ar.2.2 (inb_of Sz hj) (Hh.at (inb_of Sz hj) hv) hg hs hd t k
theorem Wk.baload (X : Wk N p l e R s m args below meth c Z own EL hm T h cells slots) {a : Addr} {kA : ClassId} {z j : Int32} {vs : List Value} {dv v : Value} (A : Arv Z h a kA .byte z vs dv) (hj : ¬ j < 0 ∧ j < z) (hv : vs.getD j.toNatClampNeg dv = v)
    {g : JFrame} (hg : g.method = m) {rest : List Value} (hs : g.stack = .int j :: .ref a :: rest) (hd : decode c.code g.pc = .ok (.baload, 1)) : ∀ t, Steps p.tables e below (T.setTop { g with pc := g.pc + 1, stack := v :: rest }) t → Steps p.tables e below (T.setTop g) t := by
  obtain ⟨vm0, locs, k0, h1, X', h3, h4, h5, r⟩ := X
  obtain ⟨cl, Ar, q, Sz, Nn, Hh, G⟩ := A
  intro t k
  exact X'.baloadBytes h4 (j := j) (v := v) (by rw [h3]; exact Ar.1) (State.isArrayOf_alike h5.alike Ar.2.1) Ar.2.2 (inb_of Sz hj) (Hh.at (inb_of Sz hj) hv) hg hs hd t k
theorem Wk.alen (X : Wk N p l e R s m args below meth c Z own EL hm T h cells slots) {a : Addr} {kA : ClassId} {ty : FieldType} {z : Int32} {vs : List Value} {dv : Value} (A : Arv Z h a kA ty z vs dv)
    {g : JFrame} (hg : g.method = m) {rest : List Value} (hs : g.stack = .ref a :: rest) (hd : decode c.code g.pc = .ok (.arraylength, 1)) : ∀ t, Steps p.tables e below (T.setTop { g with pc := g.pc + 1, stack := .int z :: rest }) t → Steps p.tables e below (T.setTop g) t := by
  obtain ⟨vm0, locs, k0, h1, X', h3, h4, h5, r⟩ := X
  obtain ⟨cl, Ar, q, Sz, Nn, Hh, G⟩ := A
  intro t k
  rw [← len_of Sz Nn] at k
  exact X'.arraylength h4 (by rw [h3]; exact Ar.1) (State.isArrayOf_alike h5.alike Ar.2.1) hg hs hd t k
theorem Wk.acopy {hm' : Heap → Heap} (X : Wk N p l e R s m args below meth c Z own EL hm T h cells slots) {index : Nat}
    (w1 : (Cond.methodLink own index Jvm.Stand.acN).before a0 Z = true) (w2 : (Cond.native Jvm.Stand.acN).before a0 Z = true) (w3 : (Cond.static Jvm.Stand.acN).before a0 Z = true) (w4 : (Cond.initialized "java/lang/System").before a0 Z = true)
    {a b : Addr} {k' kA : ClassId} {ty ty' : FieldType} {z z' sp dp nn : Int32} {vs vd us : List Value} {dv dd : Value} (A : Arv Z h a kA ty z vs dv) (B : Arv Z h b k' ty' z' vd dd) (hty : ty = ty' ∧ refKind ty = false)
    (h1 : ¬ sp < 0) (h2 : ¬ dp < 0) (h3 : ¬ nn < 0) (h4 : sp.toNatClampNeg + nn.toNatClampNeg ≤ z.toNatClampNeg) (h5 : dp.toNatClampNeg + nn.toNatClampNeg ≤ z'.toNatClampNeg)
    (hus : us = (List.range nn.toNatClampNeg).map fun i => vs.getD (sp.toNatClampNeg + i) dv) (hl : dp.toNatClampNeg + nn.toNatClampNeg ≤ vd.length) (gb : Z.heap.size ≤ b) (M : ∀ h', Mark Z EL hm h [b] h' (hm' h'))
    {g : JFrame} (hg : g.method = m) (hsize : g.locals.size = c.maxLocals) {rest : List Value} (hs : g.stack = .int nn :: .int dp :: .ref b :: .int sp :: .ref a :: rest) (hd : decode c.code g.pc = .ok (.invokestatic index, 3))
    (hf : 1 ≤ R.frames) {W : Nat} (hW : 2 * g.monitorRoom + (rest.map fun v => v.category).sum ≤ W) (hlo : W + (nativeFrameWords "java/lang/System" "arraycopy" 5 + 11) ≤ R.locals)
    (k : ∀ (T' : State) (h' : Heap), Wk N p l e R s m args below meth c Z own EL (hm' h') T' h' cells slots → Keep h h' [b] → Arv Z h' b k' ty' z' (vd.take dp.toNatClampNeg ++ us ++ vd.drop (dp.toNatClampNeg + nn.toNatClampNeg)) dd → Goes p.tables e below Q T' { g with pc := g.pc + 3, stack := rest }) : Goes p.tables e below Q T g := by
  obtain ⟨vm0, locs, k0, x1, X', x3, x4, x5, x6, x7, x8, x9, x10, x11, x12⟩ := X
  obtain ⟨T', h', L, X2, e2, FL, K, A2, st⟩ := cpA (s := s.setVm vm0) X' x4 x5 x6 w1 w2 w3 w4 x3 A B (Or.inl hty) h1 h2 h3 h4 h5 hus hl x7 gb hg hsize hs hd hf hW hlo
  obtain ⟨C, E⟩ := mark_go x5.alike x10 x11 K (M h')
  exact Goes.go st (k T' h' ⟨vm0, L, k0, x1, X2, e2, x4, x5, x6, FL, x8, Nat.le_trans x9 K.1, C, E, x12.oKeep K (fun x hx => by cases List.mem_singleton.mp hx; exact gb)⟩ K A2)
theorem Wk.ldcI (X : Wk N p l e R s m args below meth c Z own EL hm T h cells slots) {index : Nat} {v : Int32} (w : (Cond.constant own index v).before a0 Z = true) {g : JFrame} (hg : g.method = m) (hd : decode c.code g.pc = .ok (.ldc index, 2)) : ∀ t, Steps p.tables e below (T.setTop { g with pc := g.pc + 2, stack := .int v :: g.stack }) t → Steps p.tables e below (T.setTop g) t := by
  obtain ⟨vm0, locs, k0, h1, X', h3, h4, h5, h6, r⟩ := X
  exact X'.ldcInt h4 h6 (mv (s := s.setVm vm0) h5 w) hg hd
theorem Wk.ldcL (X : Wk N p l e R s m args below meth c Z own EL hm T h cells slots) {index : Nat} {v : Int64} (w : (Cond.constantLong own index v).before a0 Z = true) {g : JFrame} (hg : g.method = m) (hd : decode c.code g.pc = .ok (.ldc2_w index, 3)) : ∀ t, Steps p.tables e below (T.setTop { g with pc := g.pc + 3, stack := .long v :: g.stack }) t → Steps p.tables e below (T.setTop g) t := by
  obtain ⟨vm0, locs, k0, h1, X', h3, h4, h5, h6, r⟩ := X
  exact X'.ldc2Long h4 h6 (mv (s := s.setVm vm0) h5 w) hg hd
theorem Wk.castY (X : Wk N p l e R s m args below meth c Z own EL hm T h cells slots) {K : String} {index : Nat} (w : (Cond.classLink own index K).before a0 Z = true) {a : Addr} (F : Ins Z h a K true) {g : JFrame} (hg : g.method = m) {rest : List Value} (hs : g.stack = .ref a :: rest) (hd : decode c.code g.pc = .ok (.checkcast index, 3))
    (k : ∀ T', Wk N p l e R s m args below meth c Z own EL hm T' h cells slots → Goes p.tables e below Q T' { g with pc := g.pc + 3 }) : Goes p.tables e below Q T g := by
  obtain ⟨vm0, locs, k0, h1, X', h3, h4, h5, h6, r⟩ := X
  obtain ⟨T', X2, e2, st⟩ := RoadKit.castY (s := s.setVm vm0) X' h4 h5 h6 w h3 F hg hs hd
  exact Goes.go st (k T' ⟨vm0, locs, k0, h1, X2, e2, h4, h5, h6, r⟩)
theorem Wk.instY (X : Wk N p l e R s m args below meth c Z own EL hm T h cells slots) {K : String} {index : Nat} (w : (Cond.classLink own index K).before a0 Z = true) {a : Addr} (F : Ins Z h a K true) {g : JFrame} (hg : g.method = m) {rest : List Value} (hs : g.stack = .ref a :: rest) (hd : decode c.code g.pc = .ok (.instanceof index, 3))
    (k : ∀ T', Wk N p l e R s m args below meth c Z own EL hm T' h cells slots → Goes p.tables e below Q T' { g with pc := g.pc + 3, stack := .int 1 :: rest }) : Goes p.tables e below Q T g := by
  obtain ⟨vm0, locs, k0, h1, X', h3, h4, h5, h6, r⟩ := X
  obtain ⟨T', X2, e2, st⟩ := RoadKit.instY (s := s.setVm vm0) X' h4 h5 h6 w h3 F hg hs hd
  exact Goes.go st (k T' ⟨vm0, locs, k0, h1, X2, e2, h4, h5, h6, r⟩)
theorem Wk.instNo (X : Wk N p l e R s m args below meth c Z own EL hm T h cells slots) {C K : String} {index : Nat} (w : (Cond.classLink own index K).before a0 Z = true) {a : Addr} (E : Exa Z h a C) (F : ∃ c t, Z.vm.findClass C = some c ∧ Z.vm.findClass K = some t ∧ Z.vm.assignable c t = false) {g : JFrame} (hg : g.method = m) {rest : List Value} (hs : g.stack = .ref a :: rest) (hd : decode c.code g.pc = .ok (.instanceof index, 3))
    (k : ∀ T', Wk N p l e R s m args below meth c Z own EL hm T' h cells slots → Goes p.tables e below Q T' { g with pc := g.pc + 3, stack := .int 0 :: rest }) : Goes p.tables e below Q T g := by
  obtain ⟨vm0, locs, k0, h1, X', h3, h4, h5, h6, r⟩ := X
  obtain ⟨T', X2, e2, st⟩ := RoadKit.instNo (s := s.setVm vm0) X' h4 h5 h6 w h3 E F hg hs hd
  exact Goes.go st (k T' ⟨vm0, locs, k0, h1, X2, e2, h4, h5, h6, r⟩)
theorem Wk.instNull (X : Wk N p l e R s m args below meth c Z own EL hm T h cells slots) {index : Nat} {g : JFrame} (hg : g.method = m) {rest : List Value} (hs : g.stack = .null :: rest) (hd : decode c.code g.pc = .ok (.instanceof index, 3)) : ∀ t, Steps p.tables e below (T.setTop { g with pc := g.pc + 3, stack := .int 0 :: rest }) t → Steps p.tables e below (T.setTop g) t := by
  obtain ⟨vm0, locs, k0, h1, X', h3, h4, r⟩ := X
  exact X'.instanceofNull h4 hg hs hd
theorem own_noinst {C S K : String} {n : Nat} (w : (Cond.superclass C S).before a0 Z = true) (wr : (Cond.noSuperclass S).before a0 Z = true) (wi : (Cond.instantiable K n).before a0 Z = true) (n1 : C ≠ K) (n2 : S ≠ K) : ∃ c t, Z.vm.findClass C = some c ∧ Z.vm.findClass K = some t ∧ Z.vm.assignable c t = false := by
  obtain ⟨cS, kS, s1, s2, s3, -, -⟩ := Cond.noSuperclass_spec wr
  obtain ⟨t, kt, t1, t2, t3, t4, -⟩ := Cond.instantiable_spec wi
  have ne2 := ids_ne s1 t1 n2
  have nS : NS Z S K := ⟨cS, t, s1, t1, fun fuel => by
    cases fuel with
    | zero => rfl
    | succ f => simp [Vm.isSubclassAux, ne2, s2, s3]⟩
  obtain ⟨c, t', h0, g0, n3⟩ := NS.step w nS n1
  cases g0.symm.trans t1
  obtain ⟨p', k, kp, h1, h2, h3, h4, h5, -, h7⟩ := Cond.superclass_spec h0 w
  have ne := ids_ne h0 g0 n1
  simp only [Bool.or_eq_false_iff] at t4
  refine ⟨c, _, h0, t1, ?_⟩
  show Z.vm.assignableAux (255 + 1) c _ = false
  simp [Vm.assignableAux, ne, h2, t2, h5, t3, t4.1, Vm.isSubclass, n3]
/-! Object.<init>, literals -/
theorem Wk.initO (X : Wk N p l e R s m args below meth c Z own EL hm T h cells slots) {idx : Nat} (w1 : (Cond.methodLink own idx Lib.objectInit).before a0 Z = true) (w2 : (Cond.instanceMethod Lib.objectInit).before a0 Z = true) (w3 : (Cond.code Lib.objectInit ⟨#[0xb1]⟩ 1 none).before a0 Z = true)
    {g : JFrame} (hg : g.method = m) (hsize : g.locals.size = c.maxLocals) {a : Addr} {rest : List Value} (hs : g.stack = .ref a :: rest) (hd : decode c.code g.pc = .ok (.invokespecial idx, 3)) (hf : 1 ≤ R.frames) {W : Nat} (hW : 2 * g.monitorRoom + (rest.map fun v => v.category).sum ≤ W) (hl : W + 12 ≤ R.locals)
    (k : ∀ T', Wk N p l e R s m args below meth c Z own EL hm T' h cells slots → Goes p.tables e below Q T' { g with pc := g.pc + 3, stack := rest }) : Goes p.tables e below Q T g := by
  obtain ⟨vm0, locs, k0, h1, X', h3, h4, h5, h6, r⟩ := X
  obtain ⟨T', X2, e2, st⟩ := RoadKit.initO (s := s.setVm vm0) X' h4 h5 h6 w1 w2 w3 h3 hg hsize hs hd hf hW hl
  exact Goes.go st (k T' ⟨vm0, locs, k0, h1, X2, e2, h4, h5, h6, r⟩)
theorem Wk.ldcR (X : Wk N p l e R s m args below meth c Z own EL hm T h cells slots) {text : String} {index : Nat} (w : (Cond.stringLink own index text).before a0 Z = true) (wS : ∀ a ∈ Bundle.stringAtoms, a.before a0 Z = true) (hEL : EW Z a0 EL) (hmem : (own, index) ∈ EL)
    {vs : List Value} {z : Int32} (ht : (∀ c ∈ text.toList, c.toNat < 256) ∧ text.toList.map (fun c => Value.int (Jvm.Lit.byteI c.toNat.toUInt16)) = vs) (hz : ¬ z < 0) (hl : z.toNatClampNeg = vs.length)
    {g : JFrame} (hg : g.method = m) (hd : decode c.code g.pc = .ok (.ldc index, 2)) {n : Nat} (hn : 4 * text.toList.length ≤ n) (hbig : n ≤ 536870912) (hc : cells + 2 ≤ R.cells) (hl' : slots + (n + 4) ≤ R.slots)
    (k : ∀ (T' : State) (h' : Heap) (a b : Addr) (kB : ClassId), Wk False p l e R s m args below meth c Z own EL h' T' h' (cells + 2) (slots + (n + 4)) → Ext h h' → Exa Z h' a "java/lang/String" → Fld Z h' a "java/lang/String" "coder" "B" (.int 0) → Fld Z h' a "java/lang/String" "value" "[B" (.ref b) → Arv Z h' b kB .byte z vs (.int 0) →
      Goes p.tables e below Q T' { g with pc := g.pc + 2, stack := .ref a :: g.stack }) : Goes p.tables e below Q T g := by
  obtain ⟨vm0, locs, k0, h1, X', h3, h4, h5, h6, h7, h8, h9, h10, h11, h12⟩ := X
  have C1 := h10.trans (CHr.ext h11 h10.1)
  obtain ⟨a, T', h', k1, b, kB, X2, e2, E, S2, hk2, hW, hf, r1, r2, r3, r4, -, -, C2, -, -, st⟩ := ldcCH X' h4 h5 h6 w wS h3 h8 h9 hEL hmem C1.1 ht hz hl hg hd hn hbig hc hl'
  exact Goes.go st (k T' h' a b kB ⟨T'.vm, locs, k1, fun q => q.elim, X2, e2, h4, hW, hf, h7, S2, hk2, C1.trans C2, Ext.oRefl _, h12.oTrans E⟩ E r1 r2 r3 r4)
theorem Wk.ldcO (X : Wk N p l e R s m args below meth c Z own EL hm T h cells slots) {text : String} {index : Nat} (w : (Cond.stringLink own index text).before a0 Z = true) (wS : ∀ a ∈ Bundle.stringAtoms, a.before a0 Z = true) (hEL : EW Z a0 EL)
    {g : JFrame} (hg : g.method = m) (hd : decode c.code g.pc = .ok (.ldc index, 2)) {n : Nat} (hn : 4 * text.toList.length ≤ n) (hbig : n ≤ 536870912) (hc : cells + 2 ≤ R.cells) (hl' : slots + (n + 4) ≤ R.slots)
    (k : ∀ (T' : State) (h' : Heap) (a : Addr), Wk False p l e R s m args below meth c Z own EL h' T' h' (cells + 2) (slots + (n + 4)) → Ext h h' →
      Goes p.tables e below Q T' { g with pc := g.pc + 2, stack := .ref a :: g.stack }) : Goes p.tables e below Q T g := by
  obtain ⟨vm0, locs, k0, h1, X', h3, h4, h5, h6, h7, h8, h9, h10, h11, h12⟩ := X
  have C1 := h10.trans (CHr.ext h11 h10.1)
  obtain ⟨a, T', h', k1, X2, e2, E, S2, hk2, hW, hf, C2, -, st⟩ := ldcOH X' h4 h5 h6 w wS h3 h8 h9 hEL C1.1 hg hd hn hbig hc hl'
  exact Goes.go st (k T' h' a ⟨T'.vm, locs, k1, fun q => q.elim, X2, e2, h4, hW, hf, h7, S2, hk2, C1.trans C2, Ext.oRefl _, h12.oTrans E⟩ E)
/-! calls -/
theorem CtrN.back {y : MethodName} {bytes : ByteArray} {maxL : Nat} {ret : Option FieldType} {rm : Room} {as' : Array Value} {Qv : Option Value → Heap → Prop} {len W : Nat} (K : CtrN l Z y bytes maxL ret rm as' h Qv) {vm0 : Vm} (hZ : Z.Warmed39 vm0) (wc : (Cond.code y bytes maxL ret).before a0 Z = true) (wz : (Cond.initialized y.cls).before a0 Z = true) (hf : rm.frames + 1 ≤ R.frames) (hl : W + (maxL + 11) + rm.locals ≤ R.locals) :
    Back l R p e below (s.setVm vm0) args y len W (fun A a => a = as' ∧ A.U.heap = h ∧ A.cells + rm.cells ≤ R.cells ∧ A.slots + rm.slots ≤ R.slots) (fun A _ v B => ∃ L, (Qv v B.U.heap ∧ Fr Z.heap.size L) ∧ B.locs = A.locs ++ L ∧ B.cells = A.cells + rm.cells ∧ B.slots = A.slots + rm.slots) :=
  backOf (s := s.setVm vm0) (Q := fun v h' L => Qv v h' ∧ Fr Z.heap.size L) (K []) hZ wc wz hf hl
theorem CtrS.back {y : MethodName} {bytes : ByteArray} {maxL : Nat} {ret : Option FieldType} {rm : Room} {as' : Array Value} {Qv : Option Value → Heap → Prop} {len W : Nat} (K : CtrS l Z EL y bytes maxL ret rm as' h Qv) {vm0 : Vm} (hZ : Z.Warmed39 vm0) (wc : (Cond.code y bytes maxL ret).before a0 Z = true) (wz : (Cond.initialized y.cls).before a0 Z = true) (hf : rm.frames + 1 ≤ R.frames) (hl : W + (maxL + 11) + rm.locals ≤ R.locals) (hEL : EW Z a0 EL) (H : CHv Z EL vm0 h) :
    BackS l R p e below (s.setVm vm0) args y len W (fun A a => a = as' ∧ A.U.heap = h ∧ A.cells + rm.cells ≤ R.cells ∧ A.slots + rm.slots ≤ R.slots) (fun A _ v B => ∃ L, (Qv v B.U.heap ∧ Fr Z.heap.size L) ∧ B.locs = A.locs ++ L ∧ B.cells = A.cells + rm.cells ∧ B.slots = A.slots + rm.slots ∧ CHr Z EL vm0 h B.U.vm B.U.heap) :=
  backOfSH (Q := fun v h' L => Qv v h' ∧ Fr Z.heap.size L) (K []) hZ wc wz hf hl hEL H
/-- what a payer says that interns nothing -/
def Pays (l : Launch) (R : Room) (p : Program) (e : Env) (below : List Frame) (s : State) (args : Array Value) (Z : State) (y : MethodName) (len W : Nat) (as' : Array Value) (h : Heap) (kc ks : Nat) (QQ : Option Value → Heap → List Loc → Prop) : Prop :=
  ∀ vm0, Z.Warmed39 vm0 → Back l R p e below (s.setVm vm0) args y len W (fun A a => a = as' ∧ A.U.heap = h ∧ A.cells + kc ≤ R.cells ∧ A.slots + ks ≤ R.slots) (fun A _ v B => ∃ L, QQ v B.U.heap L ∧ B.locs = A.locs ++ L ∧ B.cells = A.cells + kc ∧ B.slots = A.slots + ks)
def PaysS (l : Launch) (R : Room) (p : Program) (e : Env) (below : List Frame) (s : State) (args : Array Value) (Z : State) (EL : List (String × Nat)) (y : MethodName) (len W : Nat) (as' : Array Value) (h : Heap) (kc ks : Nat) (QQ : Option Value → Heap → List Loc → Prop) : Prop :=
  ∀ vm0, Z.Warmed39 vm0 → CHv Z EL vm0 h → BackS l R p e below (s.setVm vm0) args y len W (fun A a => a = as' ∧ A.U.heap = h ∧ A.cells + kc ≤ R.cells ∧ A.slots + ks ≤ R.slots) (fun A _ v B => ∃ L, QQ v B.U.heap L ∧ B.locs = A.locs ++ L ∧ B.cells = A.cells + kc ∧ B.slots = A.slots + ks ∧ CHr Z EL vm0 h B.U.vm B.U.heap)
theorem CtrN.pays {y : MethodName} {bytes : ByteArray} {maxL : Nat} {ret : Option FieldType} {rm : Room} {as' : Array Value} {Qv : Option Value → Heap → Prop} {len W : Nat} (K : CtrN l Z y bytes maxL ret rm as' h Qv) (wc : (Cond.code y bytes maxL ret).before a0 Z = true) (wz : (Cond.initialized y.cls).before a0 Z = true) (hf : rm.frames + 1 ≤ R.frames) (hl : W + (maxL + 11) + rm.locals ≤ R.locals) :
    Pays l R p e below s args Z y len W as' h rm.cells rm.slots (fun v h' L => Qv v h' ∧ Fr Z.heap.size L) := fun _ hZ => CtrN.back K hZ wc wz hf hl
theorem CtrS.pays {y : MethodName} {bytes : ByteArray} {maxL : Nat} {ret : Option FieldType} {rm : Room} {as' : Array Value} {Qv : Option Value → Heap → Prop} {len W : Nat} (K : CtrS l Z EL y bytes maxL ret rm as' h Qv) (wc : (Cond.code y bytes maxL ret).before a0 Z = true) (wz : (Cond.initialized y.cls).before a0 Z = true) (hf : rm.frames + 1 ≤ R.frames) (hl : W + (maxL + 11) + rm.locals ≤ R.locals) (hEL : EW Z a0 EL) :
    PaysS l R p e below s args Z EL y len W as' h rm.cells rm.slots (fun v h' L => Qv v h' ∧ Fr Z.heap.size L) := fun _ hZ H => CtrS.back K hZ wc wz hf hl hEL H
theorem Wk.came {vm0 : Vm} {locs L : List Loc} {k0 kc ks : Nat} {T' : State} {hm' : Heap} {ws : List Addr} (h1 : N → vm0 = s.vm) (h4 : p.tables.exec = Jvm.exec) (h5 : Z.Warmed39 vm0) (h6 : vm0.findClass own = some m.cls) (h7 : Fr Z.heap.size locs) (h8 : s.Since vm0 k0) (h9 : k0 ≤ h.size) (h10 : CHr Z EL s.vm s.heap vm0 hm) (h11 : Ext hm h) (h12 : Ext Z.heap h)
    (X2 : Stand p l e R (s.setVm vm0) m args below meth c T' (locs ++ L) (cells + kc) (slots + ks)) (F : Fr Z.heap.size L) (K : Keep h T'.heap ws) (hws : ∀ x ∈ ws, Z.heap.size ≤ x) (M : Mark Z EL hm h ws T'.heap hm') : Wk N p l e R s m args below meth c Z own EL hm' T' T'.heap (cells + kc) (slots + ks) := by
  obtain ⟨C, E⟩ := mark_go h5.alike h10 h11 K M
  exact ⟨vm0, _, k0, h1, X2, rfl, h4, h5, h6, Fr.app h7 F, h8, Nat.le_trans h9 K.1, C, E, h12.oKeep K hws⟩
theorem Wk.cameS {vm0 : Vm} {locs L : List Loc} {k0 kc ks : Nat} {T' : State} {ws : List Addr} (h4 : p.tables.exec = Jvm.exec) (h5 : Z.Warmed39 vm0) (h6 : vm0.findClass own = some m.cls) (h7 : Fr Z.heap.size locs) (h8 : s.Since vm0 k0) (h9 : k0 ≤ h.size) (C1 : CHr Z EL s.vm s.heap vm0 h) (h12 : Ext Z.heap h)
    (X2 : Stand p l e R ((s.setVm vm0).setVm T'.vm) m args below meth c T' (locs ++ L) (cells + kc) (slots + ks)) (S2 : (s.setVm vm0).Since T'.vm T'.heap.size) (F : Fr Z.heap.size L) (K : Keep h T'.heap ws) (hws : ∀ x ∈ ws, Z.heap.size ≤ x) (C2 : CHr Z EL vm0 h T'.vm T'.heap) : Wk False p l e R s m args below meth c Z own EL T'.heap T' T'.heap (cells + kc) (slots + ks) :=
  ⟨T'.vm, _, T'.heap.size, fun q => q.elim, X2, rfl, h4, State.Warmed39.trans (t := s.setVm vm0) h5 S2.1, (S2.1.alike.findClass _ _).trans h6, Fr.app h7 F, h8.trans S2 (Nat.le_trans h9 K.1), Nat.le_refl _, C1.trans C2, Ext.oRefl _, h12.oKeep K hws⟩
theorem Wk.static {hm' : Heap → Heap} {y : MethodName} {bytes : ByteArray} {maxL : Nat} {ret : Option FieldType} {index W kc ks : Nat} {QQ : Option Value → Heap → List Loc → Prop} {argsL rest : List Value} {as' : Array Value} {ws : List Addr} (X : Wk N p l e R s m args below meth c Z own EL hm T h cells slots)
    (w1 : (Cond.methodLink own index y).before a0 Z = true) (w2 : (Cond.static y).before a0 Z = true) (w3 : (Cond.initialized y.cls).before a0 Z = true) (w4 : (Cond.code y bytes maxL ret).before a0 Z = true) (hy : y.cls ≠ "java/lang/invoke/MethodHandle" ∧ y.cls ≠ "java/lang/invoke/VarHandle")
    (hK : Pays l R p e below s args Z y 3 W as' h kc ks QQ) (hQ : ∀ v h' L, QQ v h' L → Fr Z.heap.size L ∧ Keep h h' ws) (hws : ∀ x ∈ ws, Z.heap.size ≤ x) (M : ∀ h', Mark Z EL hm h ws h' (hm' h'))
    {g : JFrame} (hg : g.method = m) (hsize : g.locals.size = c.maxLocals) (hlen : ∀ sig, parseMethodDescriptor y.desc = some sig → argsL.length = sig.parameters.length) (has : argsL.toArray = as') (hstack : g.stack = argsL.reverse ++ rest) (hW : 2 * g.monitorRoom + (rest.map fun v => v.category).sum ≤ W)
    (hdg : decode c.code g.pc = .ok (.invokestatic index, 3)) (hc : cells + kc ≤ R.cells) (hs : slots + ks ≤ R.slots)
    (k : ∀ (T' : State) (h' : Heap) (v : Option Value) (L : List Loc), Wk N p l e R s m args below meth c Z own EL (hm' h') T' h' (cells + kc) (slots + ks) → QQ v h' L → Keep h h' ws → Goes p.tables e below Q T' { g with pc := g.pc + 3, stack := v.toList ++ rest }) : Goes p.tables e below Q T g := by
  obtain ⟨vm0, locs, k0, h1, X', h3, h4, h5, h6, h7, h8, h9, h10, h11, h12⟩ := X
  obtain ⟨v, vm₁, ⟨T', L', k', n'⟩, -, X2, ⟨L, q, l2, y2, z2⟩, st⟩ := Jvm.LawKit.callS (s := s.setVm vm0) X' h4 h6 (mvT (s := s.setVm vm0) h5 w1) (mvT (s := s.setVm vm0) h5 w2) (mvT (s := s.setVm vm0) h5 w3) (mvT (s := s.setVm vm0) h5 w4) hy (hK vm0 h5) hg hsize hlen hstack hW hdg (fun _ _ => ⟨has, h3, hc, hs⟩)
  dsimp only [Pt.U, Pt.locs, Pt.cells, Pt.slots] at X2 l2 y2 z2 st q
  subst l2 y2 z2
  obtain ⟨F, K⟩ := hQ _ _ _ q
  exact Goes.go st (k T' T'.heap v L (Wk.came h1 h4 h5 h6 h7 h8 h9 h10 h11 h12 X2 F K hws (M _)) q K)
theorem Wk.special {hm' : Heap → Heap} {y : MethodName} {bytes : ByteArray} {maxL : Nat} {index W kc ks : Nat} {QQ : Option Value → Heap → List Loc → Prop} {a : Addr} {argsL rest : List Value} {as' : Array Value} {ws : List Addr} (X : Wk N p l e R s m args below meth c Z own EL hm T h cells slots)
    (hy1 : y.name = "<init>") (w1 : (Cond.methodLink own index y).before a0 Z = true) (w2 : (Cond.instanceMethod y).before a0 Z = true) (w4 : (Cond.code y bytes maxL none).before a0 Z = true) (hy : y.cls ≠ "java/lang/invoke/MethodHandle" ∧ y.cls ≠ "java/lang/invoke/VarHandle")
    (hK : Pays l R p e below s args Z y 3 W as' h kc ks QQ) (hQ : ∀ v h' L, QQ v h' L → Fr Z.heap.size L ∧ Keep h h' ws) (hws : ∀ x ∈ ws, Z.heap.size ≤ x) (M : ∀ h', Mark Z EL hm h ws h' (hm' h'))
    {g : JFrame} (hg : g.method = m) (hsize : g.locals.size = c.maxLocals) (hlen : ∀ sig, parseMethodDescriptor y.desc = some sig → argsL.length = sig.parameters.length) (has : (.ref a :: argsL).toArray = as') (hstack : g.stack = argsL.reverse ++ .ref a :: rest) (hW : 2 * g.monitorRoom + (rest.map fun v => v.category).sum ≤ W)
    (hdg : decode c.code g.pc = .ok (.invokespecial index, 3)) (hc : cells + kc ≤ R.cells) (hs : slots + ks ≤ R.slots)
    (k : ∀ (T' : State) (h' : Heap) (v : Option Value) (L : List Loc), Wk N p l e R s m args below meth c Z own EL (hm' h') T' h' (cells + kc) (slots + ks) → QQ v h' L → Keep h h' ws → Goes p.tables e below Q T' { g with pc := g.pc + 3, stack := v.toList ++ rest }) : Goes p.tables e below Q T g := by
  obtain ⟨vm0, locs, k0, h1, X', h3, h4, h5, h6, h7, h8, h9, h10, h11, h12⟩ := X
  obtain ⟨v, vm₁, ⟨T', L', k', n'⟩, -, X2, ⟨L, q, l2, y2, z2⟩, st⟩ := Stand.specialBack (s := s.setVm vm0) X' h4 hy1 h6 (mvT (s := s.setVm vm0) h5 w1) (mvT (s := s.setVm vm0) h5 w2) (mvT (s := s.setVm vm0) h5 w4) hy (hK vm0 h5) hg hsize (Steps.refl _) hlen hstack hW hdg (fun _ _ => ⟨has, h3, hc, hs⟩)
  dsimp only [Pt.U, Pt.locs, Pt.cells, Pt.slots] at X2 l2 y2 z2 st q
  subst l2 y2 z2
  obtain ⟨F, K⟩ := hQ _ _ _ q
  exact Goes.via st (k T' T'.heap v L (Wk.came h1 h4 h5 h6 h7 h8 h9 h10 h11 h12 X2 F K hws (M _)) q K)
theorem Wk.virtual {hm' : Heap → Heap} {C : String} {y z : MethodName} {index W kc ks : Nat} {QQ : Option Value → Heap → List Loc → Prop} {b : Addr} {argsL rest : List Value} {as' : Array Value} {ws : List Addr} (X : Wk N p l e R s m args below meth c Z own EL hm T h cells slots)
    (w1 : (Cond.methodLink own index y).before a0 Z = true) (w2 : (Cond.declares y).before a0 Z = true) (w3 : (Cond.selects C y z).before a0 Z = true) (w4 : (Cond.instanceMethod z).before a0 Z = true) (hy : y.cls ≠ "java/lang/invoke/MethodHandle" ∧ y.cls ≠ "java/lang/invoke/VarHandle") (E : Exa Z h b C)
    (hnf : ∀ vm0, Z.Warmed39 vm0 → NotFace (s.setVm vm0) y)
    (hK : Pays l R p e below s args Z z 3 W as' h kc ks QQ) (hQ : ∀ v h' L, QQ v h' L → Fr Z.heap.size L ∧ Keep h h' ws) (hws : ∀ x ∈ ws, Z.heap.size ≤ x) (M : ∀ h', Mark Z EL hm h ws h' (hm' h'))
    {g : JFrame} (hg : g.method = m) (hsize : g.locals.size = c.maxLocals) (hlen : ∀ sig, parseMethodDescriptor y.desc = some sig → argsL.length = sig.parameters.length) (has : (.ref b :: argsL).toArray = as') (hstack : g.stack = argsL.reverse ++ .ref b :: rest) (hW : 2 * g.monitorRoom + (rest.map fun v => v.category).sum ≤ W)
    (hdg : decode c.code g.pc = .ok (.invokevirtual index, 3)) (hc : cells + kc ≤ R.cells) (hs : slots + ks ≤ R.slots)
    (k : ∀ (T' : State) (h' : Heap) (v : Option Value) (L : List Loc), Wk N p l e R s m args below meth c Z own EL (hm' h') T' h' (cells + kc) (slots + ks) → QQ v h' L → Keep h h' ws → Goes p.tables e below Q T' { g with pc := g.pc + 3, stack := v.toList ++ rest }) : Goes p.tables e below Q T g := by
  obtain ⟨vm0, locs, k0, h1, X', h3, h4, h5, h6, h7, h8, h9, h10, h11, h12⟩ := X
  obtain ⟨cq, kq, qa, qb, qc⟩ := isOf (s := s.setVm vm0) h5 h3 E
  obtain ⟨v, vm₁, ⟨T', L', k', n'⟩, -, X2, ⟨L, q, l2, y2, z2⟩, st⟩ := Stand.virtualBack (s := s.setVm vm0) X' h4 h6 (mvT (s := s.setVm vm0) h5 w1) (mvT (s := s.setVm vm0) h5 w2) (hnf vm0 h5) (mvT (s := s.setVm vm0) h5 w3) (mvT (s := s.setVm vm0) h5 w4) hy (hK vm0 h5) qa qc hg hsize (Steps.refl _) hlen hstack hW hdg (fun _ _ => ⟨has, h3, hc, hs⟩)
  dsimp only [Pt.U, Pt.locs, Pt.cells, Pt.slots] at X2 l2 y2 z2 st q
  subst l2 y2 z2
  obtain ⟨F, K⟩ := hQ _ _ _ q
  exact Goes.via st (k T' T'.heap v L (Wk.came h1 h4 h5 h6 h7 h8 h9 h10 h11 h12 X2 F K hws (M _)) q K)
theorem Wk.staticS {y : MethodName} {bytes : ByteArray} {maxL : Nat} {ret : Option FieldType} {index W kc ks : Nat} {QQ : Option Value → Heap → List Loc → Prop} {argsL rest : List Value} {as' : Array Value} {ws : List Addr} (X : Wk N p l e R s m args below meth c Z own EL hm T h cells slots)
    (w1 : (Cond.methodLink own index y).before a0 Z = true) (w2 : (Cond.static y).before a0 Z = true) (w3 : (Cond.initialized y.cls).before a0 Z = true) (w4 : (Cond.code y bytes maxL ret).before a0 Z = true) (hy : y.cls ≠ "java/lang/invoke/MethodHandle" ∧ y.cls ≠ "java/lang/invoke/VarHandle")
    (hK : PaysS l R p e below s args Z EL y 3 W as' h kc ks QQ) (hQ : ∀ v h' L, QQ v h' L → Fr Z.heap.size L ∧ Keep h h' ws) (hws : ∀ x ∈ ws, Z.heap.size ≤ x)
    {g : JFrame} (hg : g.method = m) (hsize : g.locals.size = c.maxLocals) (hlen : ∀ sig, parseMethodDescriptor y.desc = some sig → argsL.length = sig.parameters.length) (has : argsL.toArray = as') (hstack : g.stack = argsL.reverse ++ rest) (hW : 2 * g.monitorRoom + (rest.map fun v => v.category).sum ≤ W)
    (hdg : decode c.code g.pc = .ok (.invokestatic index, 3)) (hc : cells + kc ≤ R.cells) (hs : slots + ks ≤ R.slots)
    (k : ∀ (T' : State) (h' : Heap) (v : Option Value) (L : List Loc), Wk False p l e R s m args below meth c Z own EL h' T' h' (cells + kc) (slots + ks) → QQ v h' L → Keep h h' ws → Goes p.tables e below Q T' { g with pc := g.pc + 3, stack := v.toList ++ rest }) : Goes p.tables e below Q T g := by
  obtain ⟨vm0, locs, k0, h1, X', h3, h4, h5, h6, h7, h8, h9, h10, h11, h12⟩ := X
  have C1 := h10.trans (CHr.ext h11 h10.1)
  obtain ⟨v, vm₁, ⟨T', L', k', n'⟩, -, X2, S2, -, ⟨L, q, l2, y2, z2, C2⟩, st⟩ := callSS (s := s.setVm vm0) X' h4 h6 (mvT (s := s.setVm vm0) h5 w1) (mvT (s := s.setVm vm0) h5 w2) (mvT (s := s.setVm vm0) h5 w3) (mvT (s := s.setVm vm0) h5 w4) hy (hK vm0 h5 C1.1) hg hsize hlen hstack hW hdg (fun _ _ => ⟨has, h3, hc, hs⟩)
  dsimp only [Pt.U, Pt.locs, Pt.cells, Pt.slots] at X2 S2 l2 y2 z2 st q C2
  subst l2 y2 z2
  obtain ⟨F, K⟩ := hQ _ _ _ q
  exact Goes.via st (k T' T'.heap v L (Wk.cameS h4 h5 h6 h7 h8 h9 C1 h12 X2 S2 F K hws C2) q K)
theorem Wk.specialS {y : MethodName} {bytes : ByteArray} {maxL : Nat} {index W kc ks : Nat} {QQ : Option Value → Heap → List Loc → Prop} {a : Addr} {argsL rest : List Value} {as' : Array Value} {ws : List Addr} (X : Wk N p l e R s m args below meth c Z own EL hm T h cells slots)
    (hy1 : y.name = "<init>") (w1 : (Cond.methodLink own index y).before a0 Z = true) (w2 : (Cond.instanceMethod y).before a0 Z = true) (w4 : (Cond.code y bytes maxL none).before a0 Z = true) (hy : y.cls ≠ "java/lang/invoke/MethodHandle" ∧ y.cls ≠ "java/lang/invoke/VarHandle")
    (hK : PaysS l R p e below s args Z EL y 3 W as' h kc ks QQ) (hQ : ∀ v h' L, QQ v h' L → Fr Z.heap.size L ∧ Keep h h' ws) (hws : ∀ x ∈ ws, Z.heap.size ≤ x)
    {g : JFrame} (hg : g.method = m) (hsize : g.locals.size = c.maxLocals) (hlen : ∀ sig, parseMethodDescriptor y.desc = some sig → argsL.length = sig.parameters.length) (has : (.ref a :: argsL).toArray = as') (hstack : g.stack = argsL.reverse ++ .ref a :: rest) (hW : 2 * g.monitorRoom + (rest.map fun v => v.category).sum ≤ W)
    (hdg : decode c.code g.pc = .ok (.invokespecial index, 3)) (hc : cells + kc ≤ R.cells) (hs : slots + ks ≤ R.slots)
    (k : ∀ (T' : State) (h' : Heap) (v : Option Value) (L : List Loc), Wk False p l e R s m args below meth c Z own EL h' T' h' (cells + kc) (slots + ks) → QQ v h' L → Keep h h' ws → Goes p.tables e below Q T' { g with pc := g.pc + 3, stack := v.toList ++ rest }) : Goes p.tables e below Q T g := by
  obtain ⟨vm0, locs, k0, h1, X', h3, h4, h5, h6, h7, h8, h9, h10, h11, h12⟩ := X
  have C1 := h10.trans (CHr.ext h11 h10.1)
  obtain ⟨v, vm₁, ⟨T', L', k', n'⟩, -, X2, S2, -, ⟨L, q, l2, y2, z2, C2⟩, st⟩ := Stand.specialBackS (s := s.setVm vm0) X' h4 hy1 h6 (mvT (s := s.setVm vm0) h5 w1) (mvT (s := s.setVm vm0) h5 w2) (mvT (s := s.setVm vm0) h5 w4) hy (hK vm0 h5 C1.1) hg hsize (Steps.refl _) hlen hstack hW hdg (fun _ _ => ⟨has, h3, hc, hs⟩)
  dsimp only [Pt.U, Pt.locs, Pt.cells, Pt.slots] at X2 S2 l2 y2 z2 st q C2
  subst l2 y2 z2
  obtain ⟨F, K⟩ := hQ _ _ _ q
  exact Goes.via st (k T' T'.heap v L (Wk.cameS h4 h5 h6 h7 h8 h9 C1 h12 X2 S2 F K hws C2) q K)
theorem Wk.virtualS {C : String} {y z : MethodName} {index W kc ks : Nat} {QQ : Option Value → Heap → List Loc → Prop} {b : Addr} {argsL rest : List Value} {as' : Array Value} {ws : List Addr} (X : Wk N p l e R s m args below meth c Z own EL hm T h cells slots)
    (w1 : (Cond.methodLink own index y).before a0 Z = true) (w2 : (Cond.declares y).before a0 Z = true) (w3 : (Cond.selects C y z).before a0 Z = true) (w4 : (Cond.instanceMethod z).before a0 Z = true) (hy : y.cls ≠ "java/lang/invoke/MethodHandle" ∧ y.cls ≠ "java/lang/invoke/VarHandle") (E : Exa Z h b C)
    (hnf : ∀ vm0, Z.Warmed39 vm0 → NotFace (s.setVm vm0) y)
    (hK : PaysS l R p e below s args Z EL z 3 W as' h kc ks QQ) (hQ : ∀ v h' L, QQ v h' L → Fr Z.heap.size L ∧ Keep h h' ws) (hws : ∀ x ∈ ws, Z.heap.size ≤ x)
    {g : JFrame} (hg : g.method = m) (hsize : g.locals.size = c.maxLocals) (hlen : ∀ sig, parseMethodDescriptor y.desc = some sig → argsL.length = sig.parameters.length) (has : (.ref b :: argsL).toArray = as') (hstack : g.stack = argsL.reverse ++ .ref b :: rest) (hW : 2 * g.monitorRoom + (rest.map fun v => v.category).sum ≤ W)
    (hdg : decode c.code g.pc = .ok (.invokevirtual index, 3)) (hc : cells + kc ≤ R.cells) (hs : slots + ks ≤ R.slots)
    (k : ∀ (T' : State) (h' : Heap) (v : Option Value) (L : List Loc), Wk False p l e R s m args below meth c Z own EL h' T' h' (cells + kc) (slots + ks) → QQ v h' L → Keep h h' ws → Goes p.tables e below Q T' { g with pc := g.pc + 3, stack := v.toList ++ rest }) : Goes p.tables e below Q T g := by
  obtain ⟨vm0, locs, k0, h1, X', h3, h4, h5, h6, h7, h8, h9, h10, h11, h12⟩ := X
  obtain ⟨cq, kq, qa, qb, qc⟩ := isOf (s := s.setVm vm0) h5 h3 E
  have C1 := h10.trans (CHr.ext h11 h10.1)
  obtain ⟨v, vm₁, ⟨T', L', k', n'⟩, -, X2, S2, -, ⟨L, q, l2, y2, z2, C2⟩, st⟩ := Stand.virtualBackS (s := s.setVm vm0) X' h4 h6 (mvT (s := s.setVm vm0) h5 w1) (mvT (s := s.setVm vm0) h5 w2) (hnf vm0 h5) (mvT (s := s.setVm vm0) h5 w3) (mvT (s := s.setVm vm0) h5 w4) hy (hK vm0 h5 C1.1) qa qc hg hsize (Steps.refl _) hlen hstack hW hdg (fun _ _ => ⟨has, h3, hc, hs⟩)
  dsimp only [Pt.U, Pt.locs, Pt.cells, Pt.slots] at X2 S2 l2 y2 z2 st q C2
  subst l2 y2 z2
  obtain ⟨F, K⟩ := hQ _ _ _ q
  exact Goes.via st (k T' T'.heap v L (Wk.cameS h4 h5 h6 h7 h8 h9 C1 h12 X2 S2 F K hws C2) q K)
theorem nf_sel {C : String} {y : MethodName} (w3 : (Cond.selects C y y).before a0 Z = true) : ∀ vm0, Z.Warmed39 vm0 → NotFace (s.setVm vm0) y := fun vm0 h5 => notFace_of_selects (args := #[]) (mvT (s := s.setVm vm0) h5 w3)
/-! entering a body -/
theorem CHv.none {vm : Vm} : CHv Z [] vm h := fun _ hp => by cases hp
theorem CtrN.of {y : MethodName} {bytes : ByteArray} {maxL : Nat} {ret : Option FieldType} {rm : Room} {as' : Array Value} {h0 : Heap} {Qv : Option Value → Heap → Prop} (hpn : plainFor y = true) (hO : Ext Z.heap h0)
    (body : ∀ (p : Program) (e : Env) (s : State) (m : MethodId) (below : List Frame) (meth : Method) (c : Code) (T : State), Wk True p l e rm s m as' below meth c Z y.cls [] h0 T h0 0 0 → s.heap = h0 → c.code = bytes → c.maxLocals = maxL → meth.sig.returnType = ret → meth.locks = false → meth.name = y.name →
      Goes p.tables e below (EndN Z s rm.cells rm.slots Qv) T (entryFrame m as' maxL)) : CtrN l Z y bytes maxL ret rm as' h0 Qv := by
  intro ws
  refine MetFree.of_bodySF hpn hisR ?_
  intro p e s m args below meth c s₁ Bd hml0 hP hK
  obtain ⟨rfl, hZ, hh⟩ := hP
  have hown := findClass_of_methodNamed Bd.named
  have hnm := (name_of_methodNamed Bd.named Bd.method).1
  have e0 : s₁.heap = h0 := by rw [← hh, Bd.state]; rfl
  exact body p e s m below meth c s₁ (Wk.start (Stand.of_body Bd) e0 hh Bd.exec hZ hown CHv.none hO) hh Bd.bytes hml0 Bd.returns Bd.notSynchronized hnm
theorem CtrS.of {y : MethodName} {bytes : ByteArray} {maxL : Nat} {ret : Option FieldType} {rm : Room} {as' : Array Value} {h0 : Heap} {Qv : Option Value → Heap → Prop} (hpn : plainFor y = true) (hO : Ext Z.heap h0)
    (body : ∀ (p : Program) (e : Env) (s : State) (m : MethodId) (below : List Frame) (meth : Method) (c : Code) (T : State), Wk False p l e rm s m as' below meth c Z y.cls EL h0 T h0 0 0 → s.heap = h0 → c.code = bytes → c.maxLocals = maxL → meth.sig.returnType = ret → meth.locks = false → meth.name = y.name →
      Goes p.tables e below (EndS Z s EL rm.cells rm.slots Qv) T (entryFrame m as' maxL)) : CtrS l Z EL y bytes maxL ret rm as' h0 Qv := by
  intro ws
  refine MetFree.of_bodySF hpn hisR ?_
  intro p e s m args below meth c s₁ Bd hml0 hP hK
  obtain ⟨rfl, hZ, hh, hC⟩ := hP
  have hown := findClass_of_methodNamed Bd.named
  have hnm := (name_of_methodNamed Bd.named Bd.method).1
  have e0 : s₁.heap = h0 := by rw [← hh, Bd.state]; rfl
  exact body p e s m below meth c s₁ (Wk.start (Stand.of_body Bd) e0 hh Bd.exec hZ hown hC hO) hh Bd.bytes hml0 Bd.returns Bd.notSynchronized hnm
end Walk
/-! branches -/
section Branch
variable {tb : Tables} [Ours tb] {e : Env} {below : List Frame} {Q : Outcome → State → Prop} {T : State} {m : MethodId} {c : Code} {Ls : Array Slot} {rest : List Value} {pc pc' : Nat} {o : Int} {x y : Int32} {cd : ClassFile.Cond}
abbrev cdP (cd : ClassFile.Cond) (x y : Int32) : Prop := match cd with
  | .eq => x = y
  | .ne => ¬ x = y
  | .lt => x < y
  | .ge => ¬ x < y
  | .gt => y < x
  | .le => ¬ y < x
theorem cd_t (h : cdP cd x y) : if_icmp.holds cd x y = true := by
  cases cd
  · exact (teq h).1
  · exact (feq h).2
  · exact (tlt h).1
  · exact (flt h).2.1
  · exact (tlt h).2.2.1
  · exact (flt h).2.2.2
theorem cd_f (h : ¬ cdP cd x y) : if_icmp.holds cd x y = false := by
  cases cd
  · exact (feq h).1
  · exact (teq (Classical.not_not.mp h)).2
  · exact (flt h).1
  · exact (tlt (Classical.not_not.mp h)).2.1
  · exact (flt h).2.2.1
  · exact (tlt (Classical.not_not.mp h)).2.2.2
theorem Goes.icmp (h : At T m c below) (hx : tb.exec = Jvm.exec) (hd : decode c.code pc = .ok (.if_icmp cd o, 3)) (ho : 0 ≤ (pc : Int) + o) (hp : ((pc : Int) + o).toNat = pc')
    (kt : cdP cd x y → Goes tb e below Q T (mkF m pc' Ls rest)) (kf : ¬ cdP cd x y → Goes tb e below Q T (mkF m (pc + 3) Ls rest)) : Goes tb e below Q T (mkF m pc Ls (.int y :: .int x :: rest)) := by
  by_cases q : cdP cd x y
  · exact Goes.go (fun _ => XS.icmpYes h hx rfl rfl hd rfl (cd_t q) ho hp) (kt q)
  · exact Goes.go (fun _ => XS.icmpNo h hx rfl hd rfl (cd_f q)) (kf q)
theorem Goes.ifc (h : At T m c below) (hx : tb.exec = Jvm.exec) (hd : decode c.code pc = .ok (.ifCond cd o, 3)) (ho : 0 ≤ (pc : Int) + o) (hp : ((pc : Int) + o).toNat = pc')
    (kt : cdP cd x 0 → Goes tb e below Q T (mkF m pc' Ls rest)) (kf : ¬ cdP cd x 0 → Goes tb e below Q T (mkF m (pc + 3) Ls rest)) : Goes tb e below Q T (mkF m pc Ls (.int x :: rest)) := by
  by_cases q : cdP cd x 0
  · exact Goes.go (fun _ => XS.ifYes h hx rfl rfl hd rfl ((if0 _ _).trans (cd_t q)) ho hp) (kt q)
  · exact Goes.go (fun _ => XS.ifNo h hx rfl hd rfl ((if0 _ _).trans (cd_f q))) (kf q)
theorem Goes.acmp {ac : ClassFile.ACond} {u v : Value} (h : At T m c below) (hx : tb.exec = Jvm.exec) (hd : decode c.code pc = .ok (.if_acmp ac o, 3)) (r1 : u.isRef = true) (r2 : v.isRef = true) (ho : 0 ≤ (pc : Int) + o) (hp : ((pc : Int) + o).toNat = pc')
    (kt : Jvm.Free.XT.acmp ac u v = true → Goes tb e below Q T (mkF m pc' Ls rest)) (kf : Jvm.Free.XT.acmp ac u v = false → Goes tb e below Q T (mkF m (pc + 3) Ls rest)) : Goes tb e below Q T (mkF m pc Ls (v :: u :: rest)) := by
  cases q : Jvm.Free.XT.acmp ac u v
  · exact Goes.go (fun _ => Jvm.Free.XT.acmpNo h hx rfl hd rfl r1 r2 q) (kf q)
  · exact Goes.go (fun _ => Jvm.Free.XT.acmpYes h hx rfl rfl hd rfl r1 r2 q ho hp) (kt q)
end Branch
/-! Strings of Latin-1 chars -/
section Strs
variable {Z : State} {a0 : Array Value} {h h' : Heap} {a x : Addr} {cs : List Int32}
/-- a String whose chars are cs, each 0 to 255 -/
def LStr (Z : State) (h : Heap) (a : Addr) (cs : List Int32) : Prop :=
  Exa Z h a "java/lang/String" ∧ Fld Z h a "java/lang/String" "coder" "B" (.int 0) ∧ (∃ (t : Addr) (kb : ClassId), Fld Z h a "java/lang/String" "value" "[B" (.ref t) ∧ Arv Z h t kb .byte (Int32.ofNat cs.length) ((cs.map fun c => c.toInt8.toInt32).map Value.int) (.int 0)) ∧ (∀ c ∈ cs, ¬ c < 0 ∧ ¬ (255 : Int32) < c) ∧ cs.length ≤ 4000
theorem LStr.ext (S : LStr Z h a cs) (E : Ext h h') : LStr Z h' a cs := by
  obtain ⟨h1, h2, ⟨t, kb, h3, h4⟩, h5⟩ := S
  exact ⟨h1.ext E, h2.ext E, ⟨t, kb, h3.ext E, h4.ext E⟩, h5⟩
theorem LStr.keep {C : String} {n : Nat} (S : LStr Z h a cs) (K : Keep h h' [x]) (E : Exa Z h x C) (hC : C ≠ "java/lang/String") (wi : (Cond.instantiable C n).before a0 Z = true) : LStr Z h' a cs := by
  obtain ⟨h1, h2, ⟨t, kb, h3, h4⟩, h5⟩ := S
  have n1 : a ∉ [x] := fun q => by cases List.mem_singleton.mp q; exact Exa.ne h1 E (Ne.symm hC) rfl
  have n2 : t ∉ [x] := fun q => by cases List.mem_singleton.mp q; exact Exa.neArv E h4 wi rfl
  exact ⟨h1.keep K, h2.keep K n1, ⟨t, kb, h3.keep K n1, h4.keep K n2⟩, h5⟩
theorem LStr.keep2 {C D : String} {n k : Nat} {y : Addr} (S : LStr Z h a cs) (K : Keep h h' [x, y]) (E : Exa Z h x C) (hC : C ≠ "java/lang/String") (wi : (Cond.instantiable C n).before a0 Z = true) (E' : Exa Z h y D) (hD : D ≠ "java/lang/String") (wi' : (Cond.instantiable D k).before a0 Z = true) : LStr Z h' a cs := by
  obtain ⟨h1, h2, ⟨t, kb, h3, h4⟩, h5⟩ := S
  have n1 : a ∉ [x, y] := ninS (Exa.ne h1 E (Ne.symm hC)) (ninS (Exa.ne h1 E' (Ne.symm hD)) nin0)
  have n2 : t ∉ [x, y] := ninS (Exa.neArv E h4 wi).symm (ninS (Exa.neArv E' h4 wi').symm nin0)
  exact ⟨h1.keep K, h2.keep K n1, ⟨t, kb, h3.keep K n1, h4.keep K n2⟩, h5⟩
/-- a String under construction (its value still null) is no literal's -/
theorem SafeA.null {EL : List (String × Nat)} (E : Exa Z h x "java/lang/String") (V : Fld Z h x "java/lang/String" "value" "[B" .null) : SafeA Z EL h x := fun vm hal B => by
  obtain ⟨p, -, u, a, -, q, -, F, hy⟩ := B
  have Fa := F.ha
  have Fd := F.hd
  obtain ⟨cS, ⟨⟨s1, s2, s3, ⟨cv, kv, iv, s4, s4'⟩, ⟨cc, kc, ic, s5, s5'⟩, s6, s7, s8, s9, s10, s11, s12, s13, s14, s15, s16⟩, hfS, hcS⟩, ⟨kS, k1, k2, k3⟩, hB, hbyt⟩ := F
  obtain ⟨c1, kx, e1, e2, e3, e4, e5⟩ := E
  obtain ⟨c2, cf, k, i, f, v1, v2, v3, v4, v5, v6, v7⟩ := V
  cases e1.symm.trans v1
  rcases hy with rfl | rfl
  · obtain ⟨kv', z4⟩ := ff_back (U := Wst Z vm h) hal s4
    have z4 : Z.fieldFound? "java/lang/String" "value" "[B" = _ := z4
    rw [v2] at z4
    simp only [Option.some.injEq, Prod.mk.injEq] at z4
    cases (show h[q.sa]? = some q.sC from s1).symm.trans e1
    rw [z4.2.2.2, s8] at v7
    cases v7
  · cases (show h[q.sd]? = some q.SA from s10).symm.trans e1
    obtain ⟨-, kA, hkA, comp, hkind⟩ := s11
    have hfS' : vm.findClass "java/lang/String" = some cS := hfS
    rw [hal.findClass] at hfS'
    cases hfS'.symm.trans e2
    cases (show vm.classes[q.SA.cls]? = some kS from k1).symm.trans (show vm.classes[q.SA.cls]? = some kA from hkA)
    rw [k2] at hkind
    cases hkind
theorem LStr.lt (S : LStr Z h a cs) : a < h.size := S.1.lt
end Strs
end Jvm.OwnKit
namespace Jvm.Pilot.@@N@@
open Jvm Jvm.ClassFile Sem Op Lib Jvm.Free Jvm.Stand Jvm.LawKit Jvm.RoadKit Bundle Jvm.OwnKit Jvm.Pilot.@@N@@.Jvm.D
/-! plain facts on ints -/
theorem own_and255 (x : Int32) : ∃ k : Nat, k < 256 ∧ x &&& 255 = Int32.ofNat k := by
  have e : (x &&& 255).toBitVec.toNat = x.toBitVec.toNat &&& 255 := by
    show (x.toBitVec &&& (255#32)).toNat = _
    rw [BitVec.toNat_and]; rfl
  refine ⟨x.toBitVec.toNat &&& 255, Nat.lt_of_le_of_lt Nat.and_le_right (by decide), ?_⟩
  apply Int32.toBitVec_inj.mp
  apply BitVec.eq_of_toNat_eq
  rw [e]
  show _ = (BitVec.ofNat 32 _).toNat
  rw [BitVec.toNat_ofNat, Nat.mod_eq_of_lt (Nat.lt_of_le_of_lt Nat.and_le_right (by decide))]
theorem own_ch (x : Int32) : nar .char ((x &&& (255 : Int32)).toUInt32.toUInt16.toUInt32.toInt32) = x &&& 255 := by
  show ((x &&& (255 : Int32)).toUInt32.toUInt16.toUInt32.toInt32).toUInt32.toUInt16.toUInt32.toInt32 = _
  rw [i2c_mask, i2c_mask]
theorem own_b255 (x : Int32) : ¬ (x &&& 255) < 0 ∧ ¬ (255 : Int32) < (x &&& 255) := by
  obtain ⟨k, hk, e⟩ := own_and255 x
  rw [e]
  have t : ∀ k : Fin 256, ¬ Int32.ofNat k.val < 0 ∧ ¬ (255 : Int32) < Int32.ofNat k.val := by decide +kernel
  exact t ⟨k, hk⟩
theorem own_ch255 (x : Int32) : ¬ nar .char ((x &&& (255 : Int32)).toUInt32.toUInt16.toUInt32.toInt32) < 0 ∧ ¬ (255 : Int32) < nar .char ((x &&& (255 : Int32)).toUInt32.toUInt16.toUInt32.toInt32) := by
  rw [own_ch]; exact own_b255 x
theorem own_nar_obj {n : String} {v : Value} (h : v.isRef = true) : narrow (.object n) v = v := by rcases ref_cases h with rfl | ⟨_, rfl⟩ <;> rfl
theorem own_fit_obj {n : String} {v : Value} (h : v.isRef = true) : fits (.object n) v = true := by rcases ref_cases h with rfl | ⟨_, rfl⟩ <;> rfl
theorem own_nar255 (x : Int32) : nar .char (x &&& (255 : Int32)) = x &&& 255 := by
  show (x &&& (255 : Int32)).toUInt32.toUInt16.toUInt32.toInt32 = _
  rw [i2c_mask]
theorem own_narc {c : Int32} (h : ¬ c < 0 ∧ ¬ (255 : Int32) < c) : nar .char c = c := by
  have e : c = c &&& 255 := by
    obtain ⟨k, hk⟩ : ∃ k : Fin 256, c = Int32.ofNat k.val := by
      have h1 := h.1; have h2 := h.2
      rw [Int32.lt_iff_toInt_lt] at h1 h2
      have e0 : (0 : Int32).toInt = 0 := rfl
      have e1 : (255 : Int32).toInt = 255 := rfl
      refine ⟨⟨c.toInt.toNat, by omega⟩, ?_⟩
      apply Int32.toInt_inj.mp
      show c.toInt = (Int32.ofNat c.toInt.toNat).toInt
      rw [Int32.toInt_ofNat_of_lt (by omega)]
      omega
    subst hk
    have t : ∀ k : Fin 256, Int32.ofNat k.val = Int32.ofNat k.val &&& 255 := by decide +kernel
    exact t k
  rw [e]; exact own_nar255 c
theorem own_i2c {c : Int32} (h : ¬ c < 0 ∧ ¬ (255 : Int32) < c) : c.toUInt32.toUInt16.toUInt32.toInt32 = c := own_narc h
theorem own_andk (x : Int32) (m : Nat) (hm : m < 2147483648) : ∃ k : Nat, k ≤ m ∧ x &&& Int32.ofNat m = Int32.ofNat k := by
  have e : (x &&& Int32.ofNat m).toBitVec.toNat = x.toBitVec.toNat &&& m := by
    show (x.toBitVec &&& BitVec.ofNat 32 m).toNat = _
    rw [BitVec.toNat_and, BitVec.toNat_ofNat, Nat.mod_eq_of_lt (by omega)]
  refine ⟨x.toBitVec.toNat &&& m, Nat.and_le_right, ?_⟩
  apply Int32.toBitVec_inj.mp
  apply BitVec.eq_of_toNat_eq
  rw [e]
  show _ = (BitVec.ofNat 32 _).toNat
  rw [BitVec.toNat_ofNat, Nat.mod_eq_of_lt (Nat.lt_of_le_of_lt Nat.and_le_right (by omega))]
theorem own_and3 (x : Int32) : x &&& (3 : Int32) = 0 ∨ x &&& (3 : Int32) = 1 ∨ x &&& (3 : Int32) = 2 ∨ x &&& (3 : Int32) = 3 := by
  obtain ⟨k, hk, e⟩ := own_andk x 3 (by decide)
  have e' : x &&& (3 : Int32) = Int32.ofNat k := e
  rw [e']
  have t : ∀ k : Fin 4, Int32.ofNat k.val = 0 ∨ Int32.ofNat k.val = 1 ∨ Int32.ofNat k.val = 2 ∨ Int32.ofNat k.val = 3 := by decide
  exact t ⟨k, by omega⟩
theorem own_rem3 (x : Int32) : (x &&& (3 : Int32)) - (x &&& (3 : Int32)) / 3 * 3 = 0 ∨ (x &&& (3 : Int32)) - (x &&& (3 : Int32)) / 3 * 3 = 1 ∨ (x &&& (3 : Int32)) - (x &&& (3 : Int32)) / 3 * 3 = 2 := by
  rcases own_and3 x with e | e | e | e <;> rw [e] <;> decide
/-- the chars of mk(n, c0, c1) -/
def own_cs (n c0 c1 : Int32) : List Int32 := if n = 0 then [] else if n = 1 then [c0] else [c0, c1]
theorem own_acmp_ne {v : Value} (h : v.isRef = true) : Jvm.Free.XT.acmp .ne v v = false := by simp [Jvm.Free.XT.acmp]
theorem own_acmp_eq {v : Value} (h : v.isRef = true) : Jvm.Free.XT.acmp .eq v v = true := by simp [Jvm.Free.XT.acmp]
theorem own_narb (x : Int32) : nar .byte (x.toInt8.toInt32) = x.toInt8.toInt32 := by
  show x.toInt8.toInt32.toInt8.toInt32 = _
  rw [Int8.toInt8_toInt32]
/-- the chars of mk(n, c0, c1, c2) -/
def own_cs4 (n c0 c1 c2 : Int32) : List Int32 := if n = 0 then [] else if n = 1 then [c0] else if n = 2 then [c0, c1] else [c0, c1, c2]
theorem own_rem (x m d : Int32) (hm : 0 ≤ m.toInt) (hd : 0 < d.toInt) : 0 ≤ ((x &&& m) - (x &&& m) / d * d).toInt ∧ ((x &&& m) - (x &&& m) / d * d).toInt < d.toInt := by
  rw [irem_eq_mod]
  have h1 := (c_and x m hm).1
  rw [(c_irem (x &&& m) d _ rfl).1 h1]
  exact ⟨Int.emod_nonneg _ (by omega), Int.emod_lt_of_pos _ hd⟩
theorem own_enum3 {r : Int32} (h : 0 ≤ r.toInt ∧ r.toInt < (3 : Int32).toInt) : r = 0 ∨ r = 1 ∨ r = 2 := by
  have e3 : (3 : Int32).toInt = 3 := rfl
  have : r.toInt = 0 ∨ r.toInt = 1 ∨ r.toInt = 2 := by omega
  rcases this with e | e | e
  · exact Or.inl (Int32.toInt_inj.mp e)
  · exact Or.inr (Or.inl (Int32.toInt_inj.mp e))
  · exact Or.inr (Or.inr (Int32.toInt_inj.mp e))
theorem own_enum5 {r : Int32} (h : 0 ≤ r.toInt ∧ r.toInt < (5 : Int32).toInt) : r = 0 ∨ r = 1 ∨ r = 2 ∨ r = 3 ∨ r = 4 := by
  have e3 : (5 : Int32).toInt = 5 := rfl
  have : r.toInt = 0 ∨ r.toInt = 1 ∨ r.toInt = 2 ∨ r.toInt = 3 ∨ r.toInt = 4 := by omega
  rcases this with e | e | e | e | e
  · exact Or.inl (Int32.toInt_inj.mp e)
  · exact Or.inr (Or.inl (Int32.toInt_inj.mp e))
  · exact Or.inr (Or.inr (Or.inl (Int32.toInt_inj.mp e)))
  · exact Or.inr (Or.inr (Or.inr (Or.inl (Int32.toInt_inj.mp e))))
  · exact Or.inr (Or.inr (Or.inr (Or.inr (Int32.toInt_inj.mp e))))
theorem own_enum6 {r : Int32} (h : 0 ≤ r.toInt ∧ r.toInt < (6 : Int32).toInt) : r = 0 ∨ r = 1 ∨ r = 2 ∨ r = 3 ∨ r = 4 ∨ r = 5 := by
  have e3 : (6 : Int32).toInt = 6 := rfl
  have : r.toInt = 0 ∨ r.toInt = 1 ∨ r.toInt = 2 ∨ r.toInt = 3 ∨ r.toInt = 4 ∨ r.toInt = 5 := by omega
  rcases this with e | e | e | e | e | e
  · exact Or.inl (Int32.toInt_inj.mp e)
  · exact Or.inr (Or.inl (Int32.toInt_inj.mp e))
  · exact Or.inr (Or.inr (Or.inl (Int32.toInt_inj.mp e)))
  · exact Or.inr (Or.inr (Or.inr (Or.inl (Int32.toInt_inj.mp e))))
  · exact Or.inr (Or.inr (Or.inr (Or.inr (Or.inl (Int32.toInt_inj.mp e)))))
  · exact Or.inr (Or.inr (Or.inr (Or.inr (Or.inr (Int32.toInt_inj.mp e)))))
theorem own_fldstart {Z : State} {args : Array Value} {t : Term} {a : Addr} {C n d : String} {k : Int32} (ev : t.eval args Z none [] Z = some (.ref a)) (h : (Jvm.Cond.eq (.field t C n d) (.int k)).value args Z none Z [] = some true) : Fld Z Z.heap a C n d (.int k) := by
  have h2 := Cond.eq_int (first := Z) (t := Z) (args := args) (Cond.before_iff.mpr h) rfl
  rw [fld_at ev] at h2
  exact Fld.start h2
theorem own_up {cs : List Int32} (hp : ∀ c ∈ cs, ¬ c < 0 ∧ ¬ (255 : Int32) < c) : ∀ c ∈ cs, ¬ c < 0 ∧ ¬ (65535 : Int32) < c := fun c hc => ⟨(hp c hc).1, fun q => (hp c hc).2 (Int32.lt_trans (by decide) q)⟩
theorem own_n10 : ¬ ((1 : Int32) = 0) := by decide
theorem own_n20 : ¬ ((2 : Int32) = 0) := by decide
theorem own_n21 : ¬ ((2 : Int32) = 1) := by decide
theorem own_n30 : ¬ ((3 : Int32) = 0) := by decide
theorem own_n31 : ¬ ((3 : Int32) = 1) := by decide
theorem own_n32 : ¬ ((3 : Int32) = 2) := by decide
theorem own_bite {P : Prop} [Decidable P] {a b : Int32} (ha : ¬ a < 0 ∧ ¬ (255 : Int32) < a) (hb : ¬ b < 0 ∧ ¬ (255 : Int32) < b) : ¬ (if P then a else b) < 0 ∧ ¬ (255 : Int32) < (if P then a else b) := by
  by_cases h : P
  · rw [if_pos h]; exact ha
  · rw [if_neg h]; exact hb
theorem own_ite4 {P : Prop} [Decidable P] {a b : Int32} (ha : a = 0 ∨ a = 1 ∨ a = 2 ∨ a = 3) (hb : b = 0 ∨ b = 1 ∨ b = 2 ∨ b = 3) : (if P then a else b) = 0 ∨ (if P then a else b) = 1 ∨ (if P then a else b) = 2 ∨ (if P then a else b) = 3 := by
  by_cases h : P
  · rw [if_pos h]; exact ha
  · rw [if_neg h]; exact hb
theorem w_0 {Z : State} {a0 : Array Value} (hw : ∀ d ∈ tables_1, d.before a0 Z = true) : (Jvm.Cond.constantLong "com/example/assent/assent/log/CrashSetContainsPinLaw" (9 : Nat) (9223372036854775807 : Int64)).before a0 Z = true := hw _ (List.mem_of_getElem? (i := 0) rfl)
theorem w_1 {Z : State} {a0 : Array Value} (hw : ∀ d ∈ tables_1, d.before a0 Z = true) : (Jvm.Cond.methodLink "com/example/assent/assent/log/CrashSetContainsPinLaw" (11 : Nat) ({ cls := "java/lang/Math", name := "max", desc := "(JJ)J" } : Jvm.MethodName)).before a0 Z = true := hw _ (List.mem_of_getElem? (i := 1) rfl)
theorem w_2 {Z : State} {a0 : Array Value} (hw : ∀ d ∈ tables_1, d.before a0 Z = true) : (Jvm.Cond.static ({ cls := "java/lang/Math", name := "max", desc := "(JJ)J" } : Jvm.MethodName)).before a0 Z = true := hw _ (List.mem_of_getElem? (i := 2) rfl)
theorem w_3 {Z : State} {a0 : Array Value} (hw : ∀ d ∈ tables_1, d.before a0 Z = true) : (Jvm.Cond.initialized "java/lang/Math").before a0 Z = true := hw _ (List.mem_of_getElem? (i := 3) rfl)
theorem w_4 {Z : State} {a0 : Array Value} (hw : ∀ d ∈ tables_1, d.before a0 Z = true) : (Jvm.Cond.code ({ cls := "java/lang/Math", name := "max", desc := "(JJ)J" } : Jvm.MethodName) jdk_29_method_66_code (4 : Nat) (Option.some Jvm.ClassFile.FieldType.long)).before a0 Z = true := hw _ (List.mem_of_getElem? (i := 4) rfl)
theorem w_5 {Z : State} {a0 : Array Value} (hw : ∀ d ∈ tables_1, d.before a0 Z = true) : (Jvm.Cond.arrayClass Jvm.ClassFile.FieldType.long).before a0 Z = true := hw _ (List.mem_of_getElem? (i := 5) rfl)
theorem w_6 {Z : State} {a0 : Array Value} (hw : ∀ d ∈ tables_1, d.before a0 Z = true) : (Jvm.Cond.classLink "com/example/assent/assent/log/CrashSetContainsPinLaw" (17 : Nat) "com/example/assent/assent/log/CrashSet").before a0 Z = true := hw _ (List.mem_of_getElem? (i := 6) rfl)
theorem w_7 {Z : State} {a0 : Array Value} (hw : ∀ d ∈ tables_1, d.before a0 Z = true) : (Jvm.Cond.instantiable "com/example/assent/assent/log/CrashSet" (3 : Nat)).before a0 Z = true := hw _ (List.mem_of_getElem? (i := 7) rfl)
theorem w_8 {Z : State} {a0 : Array Value} (hw : ∀ d ∈ tables_1, d.before a0 Z = true) : (Jvm.Cond.initialized "com/example/assent/assent/log/CrashSet").before a0 Z = true := hw _ (List.mem_of_getElem? (i := 8) rfl)
theorem w_9 {Z : State} {a0 : Array Value} (hw : ∀ d ∈ tables_1, d.before a0 Z = true) : (Jvm.Cond.methodLink "com/example/assent/assent/log/CrashSetContainsPinLaw" (19 : Nat) ({ cls := "com/example/assent/assent/log/CrashSet", name := "<init>", desc := "(JJ[J)V" } : Jvm.MethodName)).before a0 Z = true := hw _ (List.mem_of_getElem? (i := 9) rfl)
theorem w_10 {Z : State} {a0 : Array Value} (hw : ∀ d ∈ tables_1, d.before a0 Z = true) : (Jvm.Cond.instanceMethod ({ cls := "com/example/assent/assent/log/CrashSet", name := "<init>", desc := "(JJ[J)V" } : Jvm.MethodName)).before a0 Z = true := hw _ (List.mem_of_getElem? (i := 10) rfl)
theorem w_11 {Z : State} {a0 : Array Value} (hw : ∀ d ∈ tables_1, d.before a0 Z = true) : (Jvm.Cond.code ({ cls := "com/example/assent/assent/log/CrashSet", name := "<init>", desc := "(JJ[J)V" } : Jvm.MethodName) prog_16_method_1_code (13 : Nat) (Option.none : Option Jvm.ClassFile.FieldType)).before a0 Z = true := hw _ (List.mem_of_getElem? (i := 11) rfl)
theorem w_12 {Z : State} {a0 : Array Value} (hw : ∀ d ∈ tables_1, d.before a0 Z = true) : (Jvm.Cond.methodLink "com/example/assent/assent/log/CrashSet" (1 : Nat) ({ cls := "java/lang/Object", name := "<init>", desc := "()V" } : Jvm.MethodName)).before a0 Z = true := hw _ (List.mem_of_getElem? (i := 12) rfl)
theorem w_13 {Z : State} {a0 : Array Value} (hw : ∀ d ∈ tables_1, d.before a0 Z = true) : (Jvm.Cond.instanceMethod ({ cls := "java/lang/Object", name := "<init>", desc := "()V" } : Jvm.MethodName)).before a0 Z = true := hw _ (List.mem_of_getElem? (i := 13) rfl)
theorem w_14 {Z : State} {a0 : Array Value} (hw : ∀ d ∈ tables_1, d.before a0 Z = true) : (Jvm.Cond.code ({ cls := "java/lang/Object", name := "<init>", desc := "()V" } : Jvm.MethodName) object_method_1_code (1 : Nat) (Option.none : Option Jvm.ClassFile.FieldType)).before a0 Z = true := hw _ (List.mem_of_getElem? (i := 14) rfl)
theorem w_15 {Z : State} {a0 : Array Value} (hw : ∀ d ∈ tables_1, d.before a0 Z = true) : (Jvm.Cond.fieldLink "com/example/assent/assent/log/CrashSet" (26 : Nat) "com/example/assent/assent/log/CrashSet" "first" "J").before a0 Z = true := hw _ (List.mem_of_getElem? (i := 15) rfl)
theorem w_16 {Z : State} {a0 : Array Value} (hw : ∀ d ∈ tables_1, d.before a0 Z = true) : (Jvm.Cond.laysFinal "com/example/assent/assent/log/CrashSet" "com/example/assent/assent/log/CrashSet" "first" "J").before a0 Z = true := hw _ (List.mem_of_getElem? (i := 16) rfl)
theorem w_17 {Z : State} {a0 : Array Value} (hw : ∀ d ∈ tables_1, d.before a0 Z = true) : (Jvm.Cond.fieldLink "com/example/assent/assent/log/CrashSet" (32 : Nat) "com/example/assent/assent/log/CrashSet" "last" "J").before a0 Z = true := hw _ (List.mem_of_getElem? (i := 17) rfl)
theorem w_18 {Z : State} {a0 : Array Value} (hw : ∀ d ∈ tables_1, d.before a0 Z = true) : (Jvm.Cond.laysFinal "com/example/assent/assent/log/CrashSet" "com/example/assent/assent/log/CrashSet" "last" "J").before a0 Z = true := hw _ (List.mem_of_getElem? (i := 18) rfl)
theorem w_19 {Z : State} {a0 : Array Value} (hw : ∀ d ∈ tables_1, d.before a0 Z = true) : (Jvm.Cond.methodLink "com/example/assent/assent/log/CrashSet" (35 : Nat) ({ cls := "[J", name := "clone", desc := "()Ljava/lang/Object;" } : Jvm.MethodName)).before a0 Z = true := hw _ (List.mem_of_getElem? (i := 19) rfl)
theorem w_20 {Z : State} {a0 : Array Value} (hw : ∀ d ∈ tables_1, d.before a0 Z = true) : (Jvm.Cond.sameMethod "[J" "java/lang/Object" "clone" "()Ljava/lang/Object;").before a0 Z = true := hw _ (List.mem_of_getElem? (i := 20) rfl)
theorem w_22 {Z : State} {a0 : Array Value} (hw : ∀ d ∈ tables_1, d.before a0 Z = true) : (Jvm.Cond.instanceMethod ({ cls := "java/lang/Object", name := "clone", desc := "()Ljava/lang/Object;" } : Jvm.MethodName)).before a0 Z = true := hw _ (List.mem_of_getElem? (i := 22) rfl)
theorem w_23 {Z : State} {a0 : Array Value} (hw : ∀ d ∈ tables_1, d.before a0 Z = true) : (Jvm.Cond.selects "[J" ({ cls := "[J", name := "clone", desc := "()Ljava/lang/Object;" } : Jvm.MethodName) ({ cls := "java/lang/Object", name := "clone", desc := "()Ljava/lang/Object;" } : Jvm.MethodName)).before a0 Z = true := hw _ (List.mem_of_getElem? (i := 23) rfl)
theorem w_24 {Z : State} {a0 : Array Value} (hw : ∀ d ∈ tables_1, d.before a0 Z = true) : (Jvm.Cond.native ({ cls := "java/lang/Object", name := "clone", desc := "()Ljava/lang/Object;" } : Jvm.MethodName)).before a0 Z = true := hw _ (List.mem_of_getElem? (i := 24) rfl)
theorem w_25 {Z : State} {a0 : Array Value} (hw : ∀ d ∈ tables_1, d.before a0 Z = true) : (Jvm.Cond.castable "[J" "java/lang/Cloneable").before a0 Z = true := hw _ (List.mem_of_getElem? (i := 25) rfl)
theorem w_26 {Z : State} {a0 : Array Value} (hw : ∀ d ∈ tables_1, d.before a0 Z = true) : (Jvm.Cond.classLink "com/example/assent/assent/log/CrashSet" (36 : Nat) "[J").before a0 Z = true := hw _ (List.mem_of_getElem? (i := 26) rfl)
theorem w_28 {Z : State} {a0 : Array Value} (hw : ∀ d ∈ tables_1, d.before a0 Z = true) : (Jvm.Cond.fieldLink "com/example/assent/assent/log/CrashSet" (41 : Nat) "com/example/assent/assent/log/CrashSet" "committed" "[J").before a0 Z = true := hw _ (List.mem_of_getElem? (i := 28) rfl)
theorem w_29 {Z : State} {a0 : Array Value} (hw : ∀ d ∈ tables_1, d.before a0 Z = true) : (Jvm.Cond.laysFinal "com/example/assent/assent/log/CrashSet" "com/example/assent/assent/log/CrashSet" "committed" "[J").before a0 Z = true := hw _ (List.mem_of_getElem? (i := 29) rfl)
theorem w_30 {Z : State} {a0 : Array Value} (hw : ∀ d ∈ tables_1, d.before a0 Z = true) : (Jvm.Cond.methodLink "com/example/assent/assent/log/CrashSetContainsPinLaw" (22 : Nat) ({ cls := "com/example/assent/assent/log/CrashSet", name := "contains", desc := "(J)Z" } : Jvm.MethodName)).before a0 Z = true := hw _ (List.mem_of_getElem? (i := 30) rfl)
theorem w_31 {Z : State} {a0 : Array Value} (hw : ∀ d ∈ tables_1, d.before a0 Z = true) : (Jvm.Cond.declares ({ cls := "com/example/assent/assent/log/CrashSet", name := "contains", desc := "(J)Z" } : Jvm.MethodName)).before a0 Z = true := hw _ (List.mem_of_getElem? (i := 31) rfl)
theorem w_32 {Z : State} {a0 : Array Value} (hw : ∀ d ∈ tables_1, d.before a0 Z = true) : (Jvm.Cond.instanceMethod ({ cls := "com/example/assent/assent/log/CrashSet", name := "contains", desc := "(J)Z" } : Jvm.MethodName)).before a0 Z = true := hw _ (List.mem_of_getElem? (i := 32) rfl)
theorem w_33 {Z : State} {a0 : Array Value} (hw : ∀ d ∈ tables_1, d.before a0 Z = true) : (Jvm.Cond.selects "com/example/assent/assent/log/CrashSet" ({ cls := "com/example/assent/assent/log/CrashSet", name := "contains", desc := "(J)Z" } : Jvm.MethodName) ({ cls := "com/example/assent/assent/log/CrashSet", name := "contains", desc := "(J)Z" } : Jvm.MethodName)).before a0 Z = true := hw _ (List.mem_of_getElem? (i := 33) rfl)
theorem w_34 {Z : State} {a0 : Array Value} (hw : ∀ d ∈ tables_1, d.before a0 Z = true) : (Jvm.Cond.code ({ cls := "com/example/assent/assent/log/CrashSet", name := "contains", desc := "(J)Z" } : Jvm.MethodName) prog_16_method_7_code (3 : Nat) (Option.some Jvm.ClassFile.FieldType.boolean)).before a0 Z = true := hw _ (List.mem_of_getElem? (i := 34) rfl)
theorem w_35 {Z : State} {a0 : Array Value} (hw : ∀ d ∈ tables_1, d.before a0 Z = true) : (Jvm.Cond.methodLink "com/example/assent/assent/log/CrashSet" (55 : Nat) ({ cls := "java/util/Arrays", name := "binarySearch", desc := "([JJ)I" } : Jvm.MethodName)).before a0 Z = true := hw _ (List.mem_of_getElem? (i := 35) rfl)
theorem w_36 {Z : State} {a0 : Array Value} (hw : ∀ d ∈ tables_1, d.before a0 Z = true) : (Jvm.Cond.static ({ cls := "java/util/Arrays", name := "binarySearch", desc := "([JJ)I" } : Jvm.MethodName)).before a0 Z = true := hw _ (List.mem_of_getElem? (i := 36) rfl)
theorem w_37 {Z : State} {a0 : Array Value} (hw : ∀ d ∈ tables_1, d.before a0 Z = true) : (Jvm.Cond.initialized "java/util/Arrays").before a0 Z = true := hw _ (List.mem_of_getElem? (i := 37) rfl)
theorem w_38 {Z : State} {a0 : Array Value} (hw : ∀ d ∈ tables_1, d.before a0 Z = true) : (Jvm.Cond.code ({ cls := "java/util/Arrays", name := "binarySearch", desc := "([JJ)I" } : Jvm.MethodName) jdk_65_method_54_code (3 : Nat) (Option.some Jvm.ClassFile.FieldType.int)).before a0 Z = true := hw _ (List.mem_of_getElem? (i := 38) rfl)
theorem w_39 {Z : State} {a0 : Array Value} (hw : ∀ d ∈ tables_1, d.before a0 Z = true) : (Jvm.Cond.methodLink "java/util/Arrays" (205 : Nat) ({ cls := "java/util/Arrays", name := "binarySearch0", desc := "([JIIJ)I" } : Jvm.MethodName)).before a0 Z = true := hw _ (List.mem_of_getElem? (i := 39) rfl)
theorem w_40 {Z : State} {a0 : Array Value} (hw : ∀ d ∈ tables_1, d.before a0 Z = true) : (Jvm.Cond.static ({ cls := "java/util/Arrays", name := "binarySearch0", desc := "([JIIJ)I" } : Jvm.MethodName)).before a0 Z = true := hw _ (List.mem_of_getElem? (i := 40) rfl)
theorem w_41 {Z : State} {a0 : Array Value} (hw : ∀ d ∈ tables_1, d.before a0 Z = true) : (Jvm.Cond.code ({ cls := "java/util/Arrays", name := "binarySearch0", desc := "([JIIJ)I" } : Jvm.MethodName) jdk_65_method_56_code (10 : Nat) (Option.some Jvm.ClassFile.FieldType.int)).before a0 Z = true := hw _ (List.mem_of_getElem? (i := 41) rfl)
theorem d_jdk_65_method_56_0 : decode jdk_65_method_56_code 0 = .ok (.iload_n 1, 1) := by decide +kernel
theorem d_jdk_65_method_56_1 : decode jdk_65_method_56_code 1 = .ok (.istore 5, 2) := by decide +kernel
theorem d_jdk_65_method_56_3 : decode jdk_65_method_56_code 3 = .ok (.iload_n 2, 1) := by decide +kernel
theorem d_jdk_65_method_56_4 : decode jdk_65_method_56_code 4 = .ok (.iconst 1, 1) := by decide +kernel
theorem d_jdk_65_method_56_5 : decode jdk_65_method_56_code 5 = .ok (.isub, 1) := by decide +kernel
theorem d_jdk_65_method_56_6 : decode jdk_65_method_56_code 6 = .ok (.istore 6, 2) := by decide +kernel
theorem d_jdk_65_method_56_8 : decode jdk_65_method_56_code 8 = .ok (.iload 5, 2) := by decide +kernel
theorem d_jdk_65_method_56_10 : decode jdk_65_method_56_code 10 = .ok (.iload 6, 2) := by decide +kernel
theorem d_jdk_65_method_56_12 : decode jdk_65_method_56_code 12 = .ok (.if_icmp .gt 56, 3) := by decide +kernel
theorem d_jdk_65_method_56_68 : decode jdk_65_method_56_code 68 = .ok (.iload 5, 2) := by decide +kernel
theorem d_jdk_65_method_56_70 : decode jdk_65_method_56_code 70 = .ok (.iconst 1, 1) := by decide +kernel
theorem d_jdk_65_method_56_71 : decode jdk_65_method_56_code 71 = .ok (.iadd, 1) := by decide +kernel
theorem d_jdk_65_method_56_72 : decode jdk_65_method_56_code 72 = .ok (.ineg, 1) := by decide +kernel
theorem d_jdk_65_method_56_73 : decode jdk_65_method_56_code 73 = .ok (.ireturn, 1) := by decide +kernel
theorem d_jdk_65_method_56_15 : decode jdk_65_method_56_code 15 = .ok (.iload 5, 2) := by decide +kernel
theorem d_jdk_65_method_56_17 : decode jdk_65_method_56_code 17 = .ok (.iload 6, 2) := by decide +kernel
theorem d_jdk_65_method_56_19 : decode jdk_65_method_56_code 19 = .ok (.iadd, 1) := by decide +kernel
theorem d_jdk_65_method_56_20 : decode jdk_65_method_56_code 20 = .ok (.iconst 1, 1) := by decide +kernel
theorem d_jdk_65_method_56_21 : decode jdk_65_method_56_code 21 = .ok (.iushr, 1) := by decide +kernel
theorem d_jdk_65_method_56_22 : decode jdk_65_method_56_code 22 = .ok (.istore 7, 2) := by decide +kernel
theorem d_jdk_65_method_56_24 : decode jdk_65_method_56_code 24 = .ok (.aload_n 0, 1) := by decide +kernel
theorem d_jdk_65_method_56_25 : decode jdk_65_method_56_code 25 = .ok (.iload 7, 2) := by decide +kernel
theorem d_jdk_65_method_56_27 : decode jdk_65_method_56_code 27 = .ok (.laload, 1) := by decide +kernel
theorem d_jdk_65_method_56_28 : decode jdk_65_method_56_code 28 = .ok (.lstore 8, 2) := by decide +kernel
theorem d_jdk_65_method_56_30 : decode jdk_65_method_56_code 30 = .ok (.lload 8, 2) := by decide +kernel
theorem d_jdk_65_method_56_32 : decode jdk_65_method_56_code 32 = .ok (.lload_n 3, 1) := by decide +kernel
theorem d_jdk_65_method_56_33 : decode jdk_65_method_56_code 33 = .ok (.lcmp, 1) := by decide +kernel
theorem d_jdk_65_method_56_34 : decode jdk_65_method_56_code 34 = .ok (.ifCond .ge 12, 3) := by decide +kernel
theorem d_jdk_65_method_56_46 : decode jdk_65_method_56_code 46 = .ok (.lload 8, 2) := by decide +kernel
theorem d_jdk_65_method_56_48 : decode jdk_65_method_56_code 48 = .ok (.lload_n 3, 1) := by decide +kernel
theorem d_jdk_65_method_56_49 : decode jdk_65_method_56_code 49 = .ok (.lcmp, 1) := by decide +kernel
theorem d_jdk_65_method_56_50 : decode jdk_65_method_56_code 50 = .ok (.ifCond .le 12, 3) := by decide +kernel
theorem d_jdk_65_method_56_62 : decode jdk_65_method_56_code 62 = .ok (.iload 7, 2) := by decide +kernel
theorem d_jdk_65_method_56_64 : decode jdk_65_method_56_code 64 = .ok (.ireturn, 1) := by decide +kernel
theorem d_jdk_65_method_56_53 : decode jdk_65_method_56_code 53 = .ok (.iload 7, 2) := by decide +kernel
theorem d_jdk_65_method_56_55 : decode jdk_65_method_56_code 55 = .ok (.iconst 1, 1) := by decide +kernel
theorem d_jdk_65_method_56_56 : decode jdk_65_method_56_code 56 = .ok (.isub, 1) := by decide +kernel
theorem d_jdk_65_method_56_57 : decode jdk_65_method_56_code 57 = .ok (.istore 6, 2) := by decide +kernel
theorem d_jdk_65_method_56_59 : decode jdk_65_method_56_code 59 = .ok (.goto 6, 3) := by decide +kernel
theorem d_jdk_65_method_56_65 : decode jdk_65_method_56_code 65 = .ok (.goto (-57), 3) := by decide +kernel
theorem d_jdk_65_method_56_37 : decode jdk_65_method_56_code 37 = .ok (.iload 7, 2) := by decide +kernel
theorem d_jdk_65_method_56_39 : decode jdk_65_method_56_code 39 = .ok (.iconst 1, 1) := by decide +kernel
theorem d_jdk_65_method_56_40 : decode jdk_65_method_56_code 40 = .ok (.iadd, 1) := by decide +kernel
theorem d_jdk_65_method_56_41 : decode jdk_65_method_56_code 41 = .ok (.istore 5, 2) := by decide +kernel
theorem d_jdk_65_method_56_43 : decode jdk_65_method_56_code 43 = .ok (.goto 22, 3) := by decide +kernel
theorem d_jdk_65_method_54_0 : decode jdk_65_method_54_code 0 = .ok (.aload_n 0, 1) := by decide +kernel
theorem d_jdk_65_method_54_1 : decode jdk_65_method_54_code 1 = .ok (.iconst 0, 1) := by decide +kernel
theorem d_jdk_65_method_54_2 : decode jdk_65_method_54_code 2 = .ok (.aload_n 0, 1) := by decide +kernel
theorem d_jdk_65_method_54_3 : decode jdk_65_method_54_code 3 = .ok (.arraylength, 1) := by decide +kernel
theorem d_jdk_65_method_54_4 : decode jdk_65_method_54_code 4 = .ok (.lload_n 1, 1) := by decide +kernel
theorem d_jdk_65_method_54_5 : decode jdk_65_method_54_code 5 = .ok (.invokestatic 205, 3) := by decide +kernel
theorem d_jdk_65_method_54_8 : decode jdk_65_method_54_code 8 = .ok (.ireturn, 1) := by decide +kernel
theorem d_prog_16_method_7_0 : decode prog_16_method_7_code 0 = .ok (.lload_n 1, 1) := by decide +kernel
theorem d_prog_16_method_7_1 : decode prog_16_method_7_code 1 = .ok (.aload_n 0, 1) := by decide +kernel
theorem d_prog_16_method_7_2 : decode prog_16_method_7_code 2 = .ok (.getfield 26, 3) := by decide +kernel
theorem d_prog_16_method_7_5 : decode prog_16_method_7_code 5 = .ok (.lcmp, 1) := by decide +kernel
theorem d_prog_16_method_7_6 : decode prog_16_method_7_code 6 = .ok (.ifCond .lt 27, 3) := by decide +kernel
theorem d_prog_16_method_7_33 : decode prog_16_method_7_code 33 = .ok (.iconst 0, 1) := by decide +kernel
theorem d_prog_16_method_7_34 : decode prog_16_method_7_code 34 = .ok (.ireturn, 1) := by decide +kernel
theorem d_prog_16_method_7_9 : decode prog_16_method_7_code 9 = .ok (.lload_n 1, 1) := by decide +kernel
theorem d_prog_16_method_7_10 : decode prog_16_method_7_code 10 = .ok (.aload_n 0, 1) := by decide +kernel
theorem d_prog_16_method_7_11 : decode prog_16_method_7_code 11 = .ok (.getfield 32, 3) := by decide +kernel
theorem d_prog_16_method_7_14 : decode prog_16_method_7_code 14 = .ok (.lcmp, 1) := by decide +kernel
theorem d_prog_16_method_7_15 : decode prog_16_method_7_code 15 = .ok (.ifCond .gt 18, 3) := by decide +kernel
theorem d_prog_16_method_7_18 : decode prog_16_method_7_code 18 = .ok (.aload_n 0, 1) := by decide +kernel
theorem d_prog_16_method_7_19 : decode prog_16_method_7_code 19 = .ok (.getfield 41, 3) := by decide +kernel
theorem d_prog_16_method_7_22 : decode prog_16_method_7_code 22 = .ok (.lload_n 1, 1) := by decide +kernel
theorem d_prog_16_method_7_23 : decode prog_16_method_7_code 23 = .ok (.invokestatic 55, 3) := by decide +kernel
theorem d_prog_16_method_7_26 : decode prog_16_method_7_code 26 = .ok (.ifCond .ge 7, 3) := by decide +kernel
theorem d_prog_16_method_7_29 : decode prog_16_method_7_code 29 = .ok (.iconst 1, 1) := by decide +kernel
theorem d_prog_16_method_7_30 : decode prog_16_method_7_code 30 = .ok (.goto 4, 3) := by decide +kernel
theorem d_jdk_29_method_66_0 : decode jdk_29_method_66_code 0 = .ok (.lload_n 0, 1) := by decide +kernel
theorem d_jdk_29_method_66_1 : decode jdk_29_method_66_code 1 = .ok (.lload_n 2, 1) := by decide +kernel
theorem d_jdk_29_method_66_2 : decode jdk_29_method_66_code 2 = .ok (.lcmp, 1) := by decide +kernel
theorem d_jdk_29_method_66_3 : decode jdk_29_method_66_code 3 = .ok (.ifCond .lt 7, 3) := by decide +kernel
theorem d_jdk_29_method_66_10 : decode jdk_29_method_66_code 10 = .ok (.lload_n 2, 1) := by decide +kernel
theorem d_jdk_29_method_66_6 : decode jdk_29_method_66_code 6 = .ok (.lload_n 0, 1) := by decide +kernel
theorem d_jdk_29_method_66_7 : decode jdk_29_method_66_code 7 = .ok (.goto 4, 3) := by decide +kernel
theorem d_jdk_29_method_66_11 : decode jdk_29_method_66_code 11 = .ok (.lreturn, 1) := by decide +kernel
theorem d_prog_16_method_1_0 : decode prog_16_method_1_code 0 = .ok (.aload_n 0, 1) := by decide +kernel
theorem d_prog_16_method_1_1 : decode prog_16_method_1_code 1 = .ok (.invokespecial 1, 3) := by decide +kernel
theorem d_prog_16_method_1_4 : decode prog_16_method_1_code 4 = .ok (.lload_n 1, 1) := by decide +kernel
theorem d_prog_16_method_1_5 : decode prog_16_method_1_code 5 = .ok (.lconst 1, 1) := by decide +kernel
theorem d_prog_16_method_1_6 : decode prog_16_method_1_code 6 = .ok (.lcmp, 1) := by decide +kernel
theorem d_prog_16_method_1_7 : decode prog_16_method_1_code 7 = .ok (.ifCond .lt 9, 3) := by decide +kernel
theorem d_prog_16_method_1_10 : decode prog_16_method_1_code 10 = .ok (.lload_n 1, 1) := by decide +kernel
theorem d_prog_16_method_1_11 : decode prog_16_method_1_code 11 = .ok (.lload_n 3, 1) := by decide +kernel
theorem d_prog_16_method_1_12 : decode prog_16_method_1_code 12 = .ok (.lcmp, 1) := by decide +kernel
theorem d_prog_16_method_1_13 : decode prog_16_method_1_code 13 = .ok (.ifCond .le 18, 3) := by decide +kernel
theorem d_prog_16_method_1_31 : decode prog_16_method_1_code 31 = .ok (.lload_n 1, 1) := by decide +kernel
theorem d_prog_16_method_1_32 : decode prog_16_method_1_code 32 = .ok (.lconst 1, 1) := by decide +kernel
theorem d_prog_16_method_1_33 : decode prog_16_method_1_code 33 = .ok (.lsub, 1) := by decide +kernel
theorem d_prog_16_method_1_34 : decode prog_16_method_1_code 34 = .ok (.lstore 6, 2) := by decide +kernel
theorem d_prog_16_method_1_36 : decode prog_16_method_1_code 36 = .ok (.aload 5, 2) := by decide +kernel
theorem d_prog_16_method_1_38 : decode prog_16_method_1_code 38 = .ok (.astore 8, 2) := by decide +kernel
theorem d_prog_16_method_1_40 : decode prog_16_method_1_code 40 = .ok (.aload 8, 2) := by decide +kernel
theorem d_prog_16_method_1_42 : decode prog_16_method_1_code 42 = .ok (.arraylength, 1) := by decide +kernel
theorem d_prog_16_method_1_43 : decode prog_16_method_1_code 43 = .ok (.istore 9, 2) := by decide +kernel
theorem d_prog_16_method_1_45 : decode prog_16_method_1_code 45 = .ok (.iconst 0, 1) := by decide +kernel
theorem d_prog_16_method_1_46 : decode prog_16_method_1_code 46 = .ok (.istore 10, 2) := by decide +kernel
theorem d_prog_16_method_1_48 : decode prog_16_method_1_code 48 = .ok (.iload 10, 2) := by decide +kernel
theorem d_prog_16_method_1_50 : decode prog_16_method_1_code 50 = .ok (.iload 9, 2) := by decide +kernel
theorem d_prog_16_method_1_52 : decode prog_16_method_1_code 52 = .ok (.if_icmp .ge 55, 3) := by decide +kernel
theorem d_prog_16_method_1_107 : decode prog_16_method_1_code 107 = .ok (.aload 5, 2) := by decide +kernel
theorem d_prog_16_method_1_109 : decode prog_16_method_1_code 109 = .ok (.arraylength, 1) := by decide +kernel
theorem d_prog_16_method_1_110 : decode prog_16_method_1_code 110 = .ok (.i2l, 1) := by decide +kernel
theorem d_prog_16_method_1_111 : decode prog_16_method_1_code 111 = .ok (.lload_n 3, 1) := by decide +kernel
theorem d_prog_16_method_1_112 : decode prog_16_method_1_code 112 = .ok (.lload_n 1, 1) := by decide +kernel
theorem d_prog_16_method_1_113 : decode prog_16_method_1_code 113 = .ok (.lsub, 1) := by decide +kernel
theorem d_prog_16_method_1_114 : decode prog_16_method_1_code 114 = .ok (.lcmp, 1) := by decide +kernel
theorem d_prog_16_method_1_115 : decode prog_16_method_1_code 115 = .ok (.ifCond .le 18, 3) := by decide +kernel
theorem d_prog_16_method_1_133 : decode prog_16_method_1_code 133 = .ok (.aload_n 0, 1) := by decide +kernel
theorem d_prog_16_method_1_134 : decode prog_16_method_1_code 134 = .ok (.lload_n 1, 1) := by decide +kernel
theorem d_prog_16_method_1_135 : decode prog_16_method_1_code 135 = .ok (.putfield 26, 3) := by decide +kernel
theorem d_prog_16_method_1_138 : decode prog_16_method_1_code 138 = .ok (.aload_n 0, 1) := by decide +kernel
theorem d_prog_16_method_1_139 : decode prog_16_method_1_code 139 = .ok (.lload_n 3, 1) := by decide +kernel
theorem d_prog_16_method_1_140 : decode prog_16_method_1_code 140 = .ok (.putfield 32, 3) := by decide +kernel
theorem d_prog_16_method_1_143 : decode prog_16_method_1_code 143 = .ok (.aload_n 0, 1) := by decide +kernel
theorem d_prog_16_method_1_144 : decode prog_16_method_1_code 144 = .ok (.aload 5, 2) := by decide +kernel
theorem d_prog_16_method_1_146 : decode prog_16_method_1_code 146 = .ok (.invokevirtual 35, 3) := by decide +kernel
theorem d_prog_16_method_1_149 : decode prog_16_method_1_code 149 = .ok (.checkcast 36, 3) := by decide +kernel
theorem d_prog_16_method_1_152 : decode prog_16_method_1_code 152 = .ok (.putfield 41, 3) := by decide +kernel
theorem d_prog_16_method_1_155 : decode prog_16_method_1_code 155 = .ok (.return_, 1) := by decide +kernel
theorem d_prog_16_method_1_55 : decode prog_16_method_1_code 55 = .ok (.aload 8, 2) := by decide +kernel
theorem d_prog_16_method_1_57 : decode prog_16_method_1_code 57 = .ok (.iload 10, 2) := by decide +kernel
theorem d_prog_16_method_1_59 : decode prog_16_method_1_code 59 = .ok (.laload, 1) := by decide +kernel
theorem d_prog_16_method_1_60 : decode prog_16_method_1_code 60 = .ok (.lstore 11, 2) := by decide +kernel
theorem d_prog_16_method_1_62 : decode prog_16_method_1_code 62 = .ok (.lload 11, 2) := by decide +kernel
theorem d_prog_16_method_1_64 : decode prog_16_method_1_code 64 = .ok (.lload 6, 2) := by decide +kernel
theorem d_prog_16_method_1_66 : decode prog_16_method_1_code 66 = .ok (.lcmp, 1) := by decide +kernel
theorem d_prog_16_method_1_67 : decode prog_16_method_1_code 67 = .ok (.ifCond .le 10, 3) := by decide +kernel
theorem d_prog_16_method_1_70 : decode prog_16_method_1_code 70 = .ok (.lload 11, 2) := by decide +kernel
theorem d_prog_16_method_1_72 : decode prog_16_method_1_code 72 = .ok (.lload_n 3, 1) := by decide +kernel
theorem d_prog_16_method_1_73 : decode prog_16_method_1_code 73 = .ok (.lcmp, 1) := by decide +kernel
theorem d_prog_16_method_1_74 : decode prog_16_method_1_code 74 = .ok (.ifCond .le 23, 3) := by decide +kernel
theorem d_prog_16_method_1_97 : decode prog_16_method_1_code 97 = .ok (.lload 11, 2) := by decide +kernel
theorem d_prog_16_method_1_99 : decode prog_16_method_1_code 99 = .ok (.lstore 6, 2) := by decide +kernel
theorem d_prog_16_method_1_101 : decode prog_16_method_1_code 101 = .ok (.iinc 10 1, 3) := by decide +kernel
theorem d_prog_16_method_1_104 : decode prog_16_method_1_code 104 = .ok (.goto (-56), 3) := by decide +kernel
theorem pn_0 : plainName "java/util/Arrays" = true := by first | (simp [plainName, overriddenIn]; done) | decide +kernel
theorem pn_1 : plainName "com/example/assent/assent/log/CrashSet" = true := by first | (simp [plainName, overriddenIn]; done) | decide +kernel
theorem pn_2 : plainName "com/example/assent/assent/log/CrashSetContainsPinLaw" = true := by first | (simp [plainName, overriddenIn]; done) | decide +kernel
theorem pd_0 : parseMethodDescriptor "([JIIJ)I" = some ⟨[(.array .long), .int, .int, .long], some .int⟩ := by decide +kernel
theorem pd_1 : parseMethodDescriptor "([JJ)I" = some ⟨[(.array .long), .long], some .int⟩ := by decide +kernel
theorem pd_2 : parseMethodDescriptor "(JJ)J" = some ⟨[.long, .long], some .long⟩ := by decide +kernel
theorem pd_3 : parseMethodDescriptor "(JJ[J)V" = some ⟨[.long, .long, (.array .long)], none⟩ := by decide +kernel
theorem pd_4 : parseMethodDescriptor "(J)Z" = some ⟨[.long], some .boolean⟩ := by decide +kernel
theorem ef_own_bs0_0 (m : MethodId) (b : Addr) (q : Int64) : entryFrame m #[(.ref b), (.int (0 : Int32)), (.int (0 : Int32)), (.long q)] 10 = mkF m 0 #[.val (.ref b), .val (.int (0 : Int32)), .val (.int (0 : Int32)), .val (.long q), .second, .unset, .unset, .unset, .unset, .unset] [] := by first | (simp [entryFrame, mkF, argsToLocals, Value.category, maxLocals]; done) | rfl
theorem ef_own_bs0_1 (m : MethodId) (b : Addr) (q : Int64) : entryFrame m #[(.ref b), (.int (0 : Int32)), (.int (1 : Int32)), (.long q)] 10 = mkF m 0 #[.val (.ref b), .val (.int (0 : Int32)), .val (.int (1 : Int32)), .val (.long q), .second, .unset, .unset, .unset, .unset, .unset] [] := by first | (simp [entryFrame, mkF, argsToLocals, Value.category, maxLocals]; done) | rfl
theorem ef_own_bs0_2 (m : MethodId) (b : Addr) (q : Int64) : entryFrame m #[(.ref b), (.int (0 : Int32)), (.int (2 : Int32)), (.long q)] 10 = mkF m 0 #[.val (.ref b), .val (.int (0 : Int32)), .val (.int (2 : Int32)), .val (.long q), .second, .unset, .unset, .unset, .unset, .unset] [] := by first | (simp [entryFrame, mkF, argsToLocals, Value.category, maxLocals]; done) | rfl
theorem ef_own_bs_0 (m : MethodId) (b : Addr) (q : Int64) : entryFrame m #[(.ref b), (.long q)] 3 = mkF m 0 #[.val (.ref b), .val (.long q), .second] [] := by first | (simp [entryFrame, mkF, argsToLocals, Value.category, maxLocals]; done) | rfl
theorem ef_own_bs_1 (m : MethodId) (b : Addr) (q : Int64) : entryFrame m #[(.ref b), (.long q)] 3 = mkF m 0 #[.val (.ref b), .val (.long q), .second] [] := by first | (simp [entryFrame, mkF, argsToLocals, Value.category, maxLocals]; done) | rfl
theorem ef_own_bs_2 (m : MethodId) (b : Addr) (q : Int64) : entryFrame m #[(.ref b), (.long q)] 3 = mkF m 0 #[.val (.ref b), .val (.long q), .second] [] := by first | (simp [entryFrame, mkF, argsToLocals, Value.category, maxLocals]; done) | rfl
theorem ef_own_ct_0 (m : MethodId) (o : Addr) (q : Int64) : entryFrame m #[(.ref o), (.long q)] 3 = mkF m 0 #[.val (.ref o), .val (.long q), .second] [] := by first | (simp [entryFrame, mkF, argsToLocals, Value.category, maxLocals]; done) | rfl
theorem ef_own_ct_1 (m : MethodId) (o : Addr) (q : Int64) : entryFrame m #[(.ref o), (.long q)] 3 = mkF m 0 #[.val (.ref o), .val (.long q), .second] [] := by first | (simp [entryFrame, mkF, argsToLocals, Value.category, maxLocals]; done) | rfl
theorem ef_own_ct_2 (m : MethodId) (o : Addr) (q : Int64) : entryFrame m #[(.ref o), (.long q)] 3 = mkF m 0 #[.val (.ref o), .val (.long q), .second] [] := by first | (simp [entryFrame, mkF, argsToLocals, Value.category, maxLocals]; done) | rfl
theorem ef_own_max (m : MethodId) (u : Int64) (v : Int64) : entryFrame m #[(.long u), (.long v)] 4 = mkF m 0 #[.val (.long u), .second, .val (.long v), .second] [] := by first | (simp [entryFrame, mkF, argsToLocals, Value.category, maxLocals]; done) | rfl
theorem ef_own_ini_0 (m : MethodId) (o : Addr) (fi : Int64) (la : Int64) (b : Addr) : entryFrame m #[(.ref o), (.long fi), (.long la), (.ref b)] 13 = mkF m 0 #[.val (.ref o), .val (.long fi), .second, .val (.long la), .second, .val (.ref b), .unset, .unset, .unset, .unset, .unset, .unset, .unset] [] := by first | (simp [entryFrame, mkF, argsToLocals, Value.category, maxLocals]; done) | rfl
theorem ef_own_ini_1 (m : MethodId) (o : Addr) (fi : Int64) (la : Int64) (b : Addr) : entryFrame m #[(.ref o), (.long fi), (.long la), (.ref b)] 13 = mkF m 0 #[.val (.ref o), .val (.long fi), .second, .val (.long la), .second, .val (.ref b), .unset, .unset, .unset, .unset, .unset, .unset, .unset] [] := by first | (simp [entryFrame, mkF, argsToLocals, Value.category, maxLocals]; done) | rfl
theorem ef_own_ini_2 (m : MethodId) (o : Addr) (fi : Int64) (la : Int64) (b : Addr) : entryFrame m #[(.ref o), (.long fi), (.long la), (.ref b)] 13 = mkF m 0 #[.val (.ref o), .val (.long fi), .second, .val (.long la), .second, .val (.ref b), .unset, .unset, .unset, .unset, .unset, .unset, .unset] [] := by first | (simp [entryFrame, mkF, argsToLocals, Value.category, maxLocals]; done) | rfl
theorem ef_own_law (m : MethodId) (i0 : Int64) (i1 : Int64) (i2 : Int64) (i3 : Int64) (i4 : Int64) (i5 : Int32) : entryFrame m #[(.long i0), (.long i1), (.long i2), (.long i3), (.long i4), (.int i5)] maxLocals = mkF m 0 #[.val (.long i0), .second, .val (.long i1), .second, .val (.long i2), .second, .val (.long i3), .second, .val (.long i4), .second, .val (.int i5), .unset, .unset, .unset, .unset, .unset, .unset, .unset, .unset, .unset, .unset, .unset, .unset, .unset, .unset, .unset, .unset, .unset, .unset, .unset] [] := by first | (simp [entryFrame, mkF, argsToLocals, Value.category, maxLocals]; done) | rfl
theorem own_le (x : Int64) : -9223372036854775808 ≤ x.toInt ∧ x.toInt ≤ 9223372036854775807 := by
  have h1 := Int64.le_toInt x; have h2 := Int64.toInt_lt x
  omega
theorem own_nz {x : Int64} (h : 0 < x.toInt) : ¬ (x = (0 : Int64)) := fun e => by rw [e] at h; exact absurd h (by decide)
theorem own_ladd (x y : Int64) (h1 : -9223372036854775808 ≤ x.toInt + y.toInt) (h2 : x.toInt + y.toInt ≤ 9223372036854775807) : (x + y).toInt = x.toInt + y.toInt := by
  have c := c_ladd x y; have r := own_le (x + y)
  omega
theorem own_lsub (x y : Int64) (h1 : -9223372036854775808 ≤ x.toInt - y.toInt) (h2 : x.toInt - y.toInt ≤ 9223372036854775807) : (x - y).toInt = x.toInt - y.toInt := by
  have c := c_lsub x y; have r := own_le (x - y)
  omega
theorem own_ladd1 (x : Int64) (h : x.toInt < 9223372036854775807) : (x + (1 : Int64)).toInt = x.toInt + 1 := by
  have l := own_le x
  have e : (1 : Int64).toInt = 1 := rfl
  have c := own_ladd x (1 : Int64) (by omega) (by omega)
  omega
theorem own_first (a : Int64) : 1 ≤ (if (lcmpW (1 : Int64) (a &&& (9223372036854775807 : Int64))) < (0 : Int32) then (a &&& (9223372036854775807 : Int64)) else (1 : Int64)).toInt := by
  have e : (1 : Int64).toInt = 1 := rfl
  split
  · rename_i h
    rw [lw_lt, Int64.lt_iff_toInt_lt] at h
    omega
  · omega
theorem own_div (fi : Int64) (h : 1 ≤ fi.toInt) : (((9223372036854775807 : Int64) - fi) + (1 : Int64)).toInt = 9223372036854775807 - fi.toInt + 1 := by
  have e0 : (9223372036854775807 : Int64).toInt = 9223372036854775807 := rfl
  have l := own_le fi
  have e1 := own_lsub (9223372036854775807 : Int64) fi (by omega) (by omega)
  have e2 := own_ladd1 ((9223372036854775807 : Int64) - fi) (by omega)
  omega
theorem own_lrem (a y : Int64) (h : 0 < y.toInt) : 0 ≤ ((a &&& (9223372036854775807 : Int64)) - ((a &&& (9223372036854775807 : Int64)) / y) * y).toInt ∧ ((a &&& (9223372036854775807 : Int64)) - ((a &&& (9223372036854775807 : Int64)) / y) * y).toInt < y.toInt := by
  have h0 := (c_andSL a (9223372036854775807 : Int64)).2.2 (by decide)
  rw [(c_lrem (a &&& (9223372036854775807 : Int64)) y _ rfl).1 h0]
  exact ⟨Int.emod_nonneg _ (by omega), Int.emod_lt_of_pos _ h⟩
theorem own_kk (k0 : Int32) (wd : Int64) (r : k0 = 0 ∨ k0 = 1 ∨ k0 = 2) (h : 0 ≤ wd.toInt) : ((if (0 : Int32) < (lcmpW (k0.toInt64) wd) then (wd.toInt32) else k0) = 0 ∨ (if (0 : Int32) < (lcmpW (k0.toInt64) wd) then (wd.toInt32) else k0) = 1 ∨ (if (0 : Int32) < (lcmpW (k0.toInt64) wd) then (wd.toInt32) else k0) = 2) ∧ (if (0 : Int32) < (lcmpW (k0.toInt64) wd) then (wd.toInt32) else k0).toInt ≤ wd.toInt := by
  simp only [lw_gt, Int64.lt_iff_toInt_lt, Int32.toInt_toInt64]
  split
  · rename_i hl
    have : wd.toInt = 0 ∨ wd.toInt = 1 := by rcases r with rfl | rfl | rfl <;> simp at hl <;> omega
    rcases this with e | e
    · have : wd = 0 := Int64.toInt_inj.mp e
      subst this; decide
    · have : wd = 1 := Int64.toInt_inj.mp e
      subst this; decide
  · rename_i hl
    exact ⟨r, by omega⟩
theorem own_plain0 (nb fi la  : Int64) : (if (if (lcmpW nb fi) < (0 : Int32) then (0 : Int32) else (if (0 : Int32) < (lcmpW nb la) then (0 : Int32) else (1 : Int32))) = (0 : Int32) then (0 : Int32) else (1 : Int32)) = (if (¬ nb < fi ∧ ¬ la < nb ∧ ¬ False) then (1 : Int32) else 0) := by
  simp only [lw_lt, lw_gt, lw_eq]
  by_cases h1 : nb < fi <;> by_cases h2 : la < nb <;> simp [h1, h2]
theorem own_plain1 (nb fi la x : Int64) : (if (if (lcmpW nb fi) < (0 : Int32) then (0 : Int32) else (if (0 : Int32) < (lcmpW nb la) then (0 : Int32) else (1 : Int32))) = (0 : Int32) then (0 : Int32) else (if (if (lcmpW nb x) = (0 : Int32) then (1 : Int32) else (0 : Int32)) = (0 : Int32) then (1 : Int32) else (0 : Int32))) = (if (¬ nb < fi ∧ ¬ la < nb ∧ ¬ (nb = x)) then (1 : Int32) else 0) := by
  simp only [lw_lt, lw_gt, lw_eq]
  by_cases h1 : nb < fi <;> by_cases h2 : la < nb <;> by_cases ex : nb = x <;> simp [h1, h2, ex]
theorem own_plain2 (nb fi la x y : Int64) : (if (if (lcmpW nb fi) < (0 : Int32) then (0 : Int32) else (if (0 : Int32) < (lcmpW nb la) then (0 : Int32) else (1 : Int32))) = (0 : Int32) then (0 : Int32) else (if (if (lcmpW nb x) = (0 : Int32) then (1 : Int32) else (if (lcmpW nb y) = (0 : Int32) then (1 : Int32) else (0 : Int32))) = (0 : Int32) then (1 : Int32) else (0 : Int32))) = (if (¬ nb < fi ∧ ¬ la < nb ∧ ¬ (nb = x ∨ nb = y)) then (1 : Int32) else 0) := by
  simp only [lw_lt, lw_gt, lw_eq]
  by_cases h1 : nb < fi <;> by_cases h2 : la < nb <;> by_cases ex : nb = x <;> by_cases ey : nb = y <;> simp [h1, h2, ex, ey]
set_option maxRecDepth 65536 in
set_option maxHeartbeats 40000000 in
theorem own_bs0_0 (l : Launch) (Z : State) (a0 : Array Value) (hw : ∀ d ∈ tables_1, d.before a0 Z = true) (h0 : Heap) (hO : Ext Z.heap h0) (b : Addr) (kA : ClassId) (q : Int64) (V : Arv Z h0 b kA .long (0 : Int32) [] (.long (0 : Int64)))  :
    CtrN l Z (⟨"java/util/Arrays", "binarySearch0", "([JIIJ)I"⟩ : MethodName) jdk_65_method_56_code 10 (some .int) ({ frames := 0, cells := 0, slots := 0, locals := 0 } : Room) #[(.ref b), (.int (0 : Int32)), (.int (0 : Int32)), (.long q)] h0 (fun v h' => Keep h0 h' [] ∧ ∃ r, v = some (.int r) ∧ ((r < 0 ∧ ¬ False) ∨ (¬ r < 0 ∧ False))) := by
  refine CtrN.of (plainFor_of_name pn_0) hO ?_
  intro p e s m below meth c T0 X0 hsh hby hml hret hlk hnm
  refine Goes.cast (ef_own_bs0_0 m b q) ?_
  show Goes _ _ _ _ T0 (mkF m 0 #[.val (.ref b), .val (.int (0 : Int32)), .val (.int (0 : Int32)), .val (.long q), .second, .unset, .unset, .unset, .unset, .unset] [])
  refine Goes.go (fun _ k => XS.iloadN X0.here X0.ex rfl (hb hby d_jdk_65_method_56_0) rfl (XS.istore X0.here X0.ex rfl (hb hby d_jdk_65_method_56_1) rfl (l' := #[.val (.ref b), .val (.int (0 : Int32)), .val (.int (0 : Int32)), .val (.long q), .second, .val (.int (0 : Int32)), .unset, .unset, .unset, .unset]) rfl (XS.iloadN X0.here X0.ex rfl (hb hby d_jdk_65_method_56_3) rfl (XS.iconst X0.here X0.ex rfl (hb hby d_jdk_65_method_56_4) (XS.isub X0.here X0.ex rfl (hb hby d_jdk_65_method_56_5) rfl k))))) ?_
  show Goes _ _ _ _ T0 (mkF m 6 #[.val (.ref b), .val (.int (0 : Int32)), .val (.int (0 : Int32)), .val (.long q), .second, .val (.int (0 : Int32)), .unset, .unset, .unset, .unset] [(.int ((0 : Int32) - (1 : Int32)))])
  refine Goes.cast (congrArg (fun zq_ => (mkF m 6 #[.val (.ref b), .val (.int (0 : Int32)), .val (.int (0 : Int32)), .val (.long q), .second, .val (.int (0 : Int32)), .unset, .unset, .unset, .unset] [(.int zq_)])) (show (((0 : Int32) - (1 : Int32)) : Int32) = (-1 : Int32) from by decide)) ?_
  show Goes _ _ _ _ T0 (mkF m 6 #[.val (.ref b), .val (.int (0 : Int32)), .val (.int (0 : Int32)), .val (.long q), .second, .val (.int (0 : Int32)), .unset, .unset, .unset, .unset] [(.int (-1 : Int32))])
  refine Goes.go (fun _ k => XS.istore X0.here X0.ex rfl (hb hby d_jdk_65_method_56_6) rfl (l' := #[.val (.ref b), .val (.int (0 : Int32)), .val (.int (0 : Int32)), .val (.long q), .second, .val (.int (0 : Int32)), .val (.int (-1 : Int32)), .unset, .unset, .unset]) rfl (XS.iload X0.here X0.ex rfl (hb hby d_jdk_65_method_56_8) rfl (XS.iload X0.here X0.ex rfl (hb hby d_jdk_65_method_56_10) rfl (XS.icmpYes X0.here X0.ex rfl (pc0 := 12) (pc' := 68) rfl (hb hby d_jdk_65_method_56_12) rfl (cd_t (cd := .gt) (x := (0 : Int32)) (y := (-1 : Int32)) (by decide)) (by decide) (by decide) (XS.iload X0.here X0.ex rfl (hb hby d_jdk_65_method_56_68) rfl (XS.iconst X0.here X0.ex rfl (hb hby d_jdk_65_method_56_70) k)))))) ?_
  show Goes _ _ _ _ T0 (mkF m 71 #[.val (.ref b), .val (.int (0 : Int32)), .val (.int (0 : Int32)), .val (.long q), .second, .val (.int (0 : Int32)), .val (.int (-1 : Int32)), .unset, .unset, .unset] [(.int (1 : Int32)), (.int (0 : Int32))])
  refine Goes.go (fun _ k => XS.iadd X0.here X0.ex rfl (hb hby d_jdk_65_method_56_71) rfl k) ?_
  show Goes _ _ _ _ T0 (mkF m 72 #[.val (.ref b), .val (.int (0 : Int32)), .val (.int (0 : Int32)), .val (.long q), .second, .val (.int (0 : Int32)), .val (.int (-1 : Int32)), .unset, .unset, .unset] [(.int ((0 : Int32) + (1 : Int32)))])
  refine Goes.cast (congrArg (fun zq_ => (mkF m 72 #[.val (.ref b), .val (.int (0 : Int32)), .val (.int (0 : Int32)), .val (.long q), .second, .val (.int (0 : Int32)), .val (.int (-1 : Int32)), .unset, .unset, .unset] [(.int zq_)])) (show (((0 : Int32) + (1 : Int32)) : Int32) = (1 : Int32) from by decide)) ?_
  show Goes _ _ _ _ T0 (mkF m 72 #[.val (.ref b), .val (.int (0 : Int32)), .val (.int (0 : Int32)), .val (.long q), .second, .val (.int (0 : Int32)), .val (.int (-1 : Int32)), .unset, .unset, .unset] [(.int (1 : Int32))])
  refine Goes.go (fun _ k => XS.ineg X0.here X0.ex rfl (hb hby d_jdk_65_method_56_72) rfl k) ?_
  show Goes _ _ _ _ T0 (mkF m 73 #[.val (.ref b), .val (.int (0 : Int32)), .val (.int (0 : Int32)), .val (.long q), .second, .val (.int (0 : Int32)), .val (.int (-1 : Int32)), .unset, .unset, .unset] [(.int (-(1 : Int32)))])
  refine Goes.outN X0 (fun q => by rw [hret] at q; cases q) hlk (X0.rI hret (hb hby d_jdk_65_method_56_73)) ?_ (by decide) (by decide)
  exact ⟨Ext.oKeepOf X0.ext [], (-(1 : Int32)), rfl, Or.inl ⟨by decide, by simp []⟩⟩
set_option maxRecDepth 65536 in
set_option maxHeartbeats 40000000 in
theorem own_bs0_1 (l : Launch) (Z : State) (a0 : Array Value) (hw : ∀ d ∈ tables_1, d.before a0 Z = true) (h0 : Heap) (hO : Ext Z.heap h0) (b : Addr) (kA : ClassId) (q : Int64) (x : Int64) (V : Arv Z h0 b kA .long (1 : Int32) [(.long x)] (.long (0 : Int64)))  :
    CtrN l Z (⟨"java/util/Arrays", "binarySearch0", "([JIIJ)I"⟩ : MethodName) jdk_65_method_56_code 10 (some .int) ({ frames := 0, cells := 0, slots := 0, locals := 0 } : Room) #[(.ref b), (.int (0 : Int32)), (.int (1 : Int32)), (.long q)] h0 (fun v h' => Keep h0 h' [] ∧ ∃ r, v = some (.int r) ∧ ((r < 0 ∧ ¬ (q = x)) ∨ (¬ r < 0 ∧ (q = x)))) := by
  refine CtrN.of (plainFor_of_name pn_0) hO ?_
  intro p e s m below meth c T0 X0 hsh hby hml hret hlk hnm
  refine Goes.cast (ef_own_bs0_1 m b q) ?_
  show Goes _ _ _ _ T0 (mkF m 0 #[.val (.ref b), .val (.int (0 : Int32)), .val (.int (1 : Int32)), .val (.long q), .second, .unset, .unset, .unset, .unset, .unset] [])
  refine Goes.go (fun _ k => XS.iloadN X0.here X0.ex rfl (hb hby d_jdk_65_method_56_0) rfl (XS.istore X0.here X0.ex rfl (hb hby d_jdk_65_method_56_1) rfl (l' := #[.val (.ref b), .val (.int (0 : Int32)), .val (.int (1 : Int32)), .val (.long q), .second, .val (.int (0 : Int32)), .unset, .unset, .unset, .unset]) rfl (XS.iloadN X0.here X0.ex rfl (hb hby d_jdk_65_method_56_3) rfl (XS.iconst X0.here X0.ex rfl (hb hby d_jdk_65_method_56_4) (XS.isub X0.here X0.ex rfl (hb hby d_jdk_65_method_56_5) rfl k))))) ?_
  show Goes _ _ _ _ T0 (mkF m 6 #[.val (.ref b), .val (.int (0 : Int32)), .val (.int (1 : Int32)), .val (.long q), .second, .val (.int (0 : Int32)), .unset, .unset, .unset, .unset] [(.int ((1 : Int32) - (1 : Int32)))])
  refine Goes.cast (congrArg (fun zq_ => (mkF m 6 #[.val (.ref b), .val (.int (0 : Int32)), .val (.int (1 : Int32)), .val (.long q), .second, .val (.int (0 : Int32)), .unset, .unset, .unset, .unset] [(.int zq_)])) (show (((1 : Int32) - (1 : Int32)) : Int32) = (0 : Int32) from by decide)) ?_
  show Goes _ _ _ _ T0 (mkF m 6 #[.val (.ref b), .val (.int (0 : Int32)), .val (.int (1 : Int32)), .val (.long q), .second, .val (.int (0 : Int32)), .unset, .unset, .unset, .unset] [(.int (0 : Int32))])
  refine Goes.go (fun _ k => XS.istore X0.here X0.ex rfl (hb hby d_jdk_65_method_56_6) rfl (l' := #[.val (.ref b), .val (.int (0 : Int32)), .val (.int (1 : Int32)), .val (.long q), .second, .val (.int (0 : Int32)), .val (.int (0 : Int32)), .unset, .unset, .unset]) rfl (XS.iload X0.here X0.ex rfl (hb hby d_jdk_65_method_56_8) rfl (XS.iload X0.here X0.ex rfl (hb hby d_jdk_65_method_56_10) rfl (XS.icmpNo X0.here X0.ex rfl (hb hby d_jdk_65_method_56_12) rfl (cd_f (cd := .gt) (x := (0 : Int32)) (y := (0 : Int32)) (by decide)) (XS.iload X0.here X0.ex rfl (hb hby d_jdk_65_method_56_15) rfl (XS.iload X0.here X0.ex rfl (hb hby d_jdk_65_method_56_17) rfl k)))))) ?_
  show Goes _ _ _ _ T0 (mkF m 19 #[.val (.ref b), .val (.int (0 : Int32)), .val (.int (1 : Int32)), .val (.long q), .second, .val (.int (0 : Int32)), .val (.int (0 : Int32)), .unset, .unset, .unset] [(.int (0 : Int32)), (.int (0 : Int32))])
  refine Goes.go (fun _ k => XS.iadd X0.here X0.ex rfl (hb hby d_jdk_65_method_56_19) rfl k) ?_
  show Goes _ _ _ _ T0 (mkF m 20 #[.val (.ref b), .val (.int (0 : Int32)), .val (.int (1 : Int32)), .val (.long q), .second, .val (.int (0 : Int32)), .val (.int (0 : Int32)), .unset, .unset, .unset] [(.int ((0 : Int32) + (0 : Int32)))])
  refine Goes.cast (congrArg (fun zq_ => (mkF m 20 #[.val (.ref b), .val (.int (0 : Int32)), .val (.int (1 : Int32)), .val (.long q), .second, .val (.int (0 : Int32)), .val (.int (0 : Int32)), .unset, .unset, .unset] [(.int zq_)])) (show (((0 : Int32) + (0 : Int32)) : Int32) = (0 : Int32) from by decide)) ?_
  show Goes _ _ _ _ T0 (mkF m 20 #[.val (.ref b), .val (.int (0 : Int32)), .val (.int (1 : Int32)), .val (.long q), .second, .val (.int (0 : Int32)), .val (.int (0 : Int32)), .unset, .unset, .unset] [(.int (0 : Int32))])
  refine Goes.go (fun _ k => XS.iconst X0.here X0.ex rfl (hb hby d_jdk_65_method_56_20) (XS.iushr X0.here X0.ex rfl (hb hby d_jdk_65_method_56_21) rfl k)) ?_
  show Goes _ _ _ _ T0 (mkF m 22 #[.val (.ref b), .val (.int (0 : Int32)), .val (.int (1 : Int32)), .val (.long q), .second, .val (.int (0 : Int32)), .val (.int (0 : Int32)), .unset, .unset, .unset] [(.int (((0 : Int32).toUInt32 >>> ((1 : Int32) &&& 31).toUInt32).toInt32))])
  refine Goes.cast (congrArg (fun zq_ => (mkF m 22 #[.val (.ref b), .val (.int (0 : Int32)), .val (.int (1 : Int32)), .val (.long q), .second, .val (.int (0 : Int32)), .val (.int (0 : Int32)), .unset, .unset, .unset] [(.int zq_)])) (show ((((0 : Int32).toUInt32 >>> ((1 : Int32) &&& 31).toUInt32).toInt32) : Int32) = (0 : Int32) from by decide)) ?_
  show Goes _ _ _ _ T0 (mkF m 22 #[.val (.ref b), .val (.int (0 : Int32)), .val (.int (1 : Int32)), .val (.long q), .second, .val (.int (0 : Int32)), .val (.int (0 : Int32)), .unset, .unset, .unset] [(.int (0 : Int32))])
  refine Goes.go (fun _ k => XS.istore X0.here X0.ex rfl (hb hby d_jdk_65_method_56_22) rfl (l' := #[.val (.ref b), .val (.int (0 : Int32)), .val (.int (1 : Int32)), .val (.long q), .second, .val (.int (0 : Int32)), .val (.int (0 : Int32)), .val (.int (0 : Int32)), .unset, .unset]) rfl (XS.aloadN X0.here X0.ex rfl (hb hby d_jdk_65_method_56_24) rfl rfl (XS.iload X0.here X0.ex rfl (hb hby d_jdk_65_method_56_25) rfl k))) ?_
  show Goes _ _ _ _ T0 (mkF m 27 #[.val (.ref b), .val (.int (0 : Int32)), .val (.int (1 : Int32)), .val (.long q), .second, .val (.int (0 : Int32)), .val (.int (0 : Int32)), .val (.int (0 : Int32)), .unset, .unset] [(.int (0 : Int32)), (.ref b)])
  refine Goes.go (X0.laload V ⟨by decide, by decide⟩ (v := .long x) rfl rfl rfl (hb hby d_jdk_65_method_56_27)) ?_
  show Goes _ _ _ _ T0 (mkF m 28 #[.val (.ref b), .val (.int (0 : Int32)), .val (.int (1 : Int32)), .val (.long q), .second, .val (.int (0 : Int32)), .val (.int (0 : Int32)), .val (.int (0 : Int32)), .unset, .unset] [(.long x)])
  refine Goes.go (fun _ k => XS.lstore X0.here X0.ex rfl (hb hby d_jdk_65_method_56_28) rfl (l' := #[.val (.ref b), .val (.int (0 : Int32)), .val (.int (1 : Int32)), .val (.long q), .second, .val (.int (0 : Int32)), .val (.int (0 : Int32)), .val (.int (0 : Int32)), .val (.long x), .second]) rfl (XS.lload X0.here X0.ex rfl (hb hby d_jdk_65_method_56_30) rfl (XS.lloadN X0.here X0.ex rfl (hb hby d_jdk_65_method_56_32) rfl (XS.lcmp X0.here X0.ex rfl (hb hby d_jdk_65_method_56_33) rfl k)))) ?_
  show Goes _ _ _ _ T0 (mkF m 34 #[.val (.ref b), .val (.int (0 : Int32)), .val (.int (1 : Int32)), .val (.long q), .second, .val (.int (0 : Int32)), .val (.int (0 : Int32)), .val (.int (0 : Int32)), .val (.long x), .second] [(.int (lcmpW x q))])
  refine Goes.ifc (pc' := 46) X0.here X0.ex (hb hby d_jdk_65_method_56_34) (by decide) (by decide) (fun hk0 => ?_) (fun hk0 => ?_)
  · have hk0 : ¬ ((lcmpW x q) < (0 : Int32)) := hk0
    show Goes _ _ _ _ T0 (mkF m 46 #[.val (.ref b), .val (.int (0 : Int32)), .val (.int (1 : Int32)), .val (.long q), .second, .val (.int (0 : Int32)), .val (.int (0 : Int32)), .val (.int (0 : Int32)), .val (.long x), .second] [])
    rw [lw_lt] at hk0
    refine Goes.go (fun _ k => XS.lload X0.here X0.ex rfl (hb hby d_jdk_65_method_56_46) rfl (XS.lloadN X0.here X0.ex rfl (hb hby d_jdk_65_method_56_48) rfl (XS.lcmp X0.here X0.ex rfl (hb hby d_jdk_65_method_56_49) rfl k))) ?_
    show Goes _ _ _ _ T0 (mkF m 50 #[.val (.ref b), .val (.int (0 : Int32)), .val (.int (1 : Int32)), .val (.long q), .second, .val (.int (0 : Int32)), .val (.int (0 : Int32)), .val (.int (0 : Int32)), .val (.long x), .second] [(.int (lcmpW x q))])
    refine Goes.ifc (pc' := 62) X0.here X0.ex (hb hby d_jdk_65_method_56_50) (by decide) (by decide) (fun hk1 => ?_) (fun hk1 => ?_)
    · have hk1 : ¬ ((0 : Int32) < (lcmpW x q)) := hk1
      show Goes _ _ _ _ T0 (mkF m 62 #[.val (.ref b), .val (.int (0 : Int32)), .val (.int (1 : Int32)), .val (.long q), .second, .val (.int (0 : Int32)), .val (.int (0 : Int32)), .val (.int (0 : Int32)), .val (.long x), .second] [])
      rw [lw_gt] at hk1
      refine Goes.go (fun _ k => XS.iload X0.here X0.ex rfl (hb hby d_jdk_65_method_56_62) rfl k) ?_
      show Goes _ _ _ _ T0 (mkF m 64 #[.val (.ref b), .val (.int (0 : Int32)), .val (.int (1 : Int32)), .val (.long q), .second, .val (.int (0 : Int32)), .val (.int (0 : Int32)), .val (.int (0 : Int32)), .val (.long x), .second] [(.int (0 : Int32))])
      have ex : q = x := Int64.toInt_inj.mp (by simp only [Int64.lt_iff_toInt_lt] at *; omega)
      refine Goes.outN X0 (fun q => by rw [hret] at q; cases q) hlk (X0.rI hret (hb hby d_jdk_65_method_56_64)) ?_ (by decide) (by decide)
      exact ⟨Ext.oKeepOf X0.ext [], (0 : Int32), rfl, Or.inr ⟨by decide, by simp [ex]⟩⟩
    · have hk1 : (0 : Int32) < (lcmpW x q) := Classical.not_not.mp hk1
      show Goes _ _ _ _ T0 (mkF m 53 #[.val (.ref b), .val (.int (0 : Int32)), .val (.int (1 : Int32)), .val (.long q), .second, .val (.int (0 : Int32)), .val (.int (0 : Int32)), .val (.int (0 : Int32)), .val (.long x), .second] [])
      rw [lw_gt] at hk1
      refine Goes.go (fun _ k => XS.iload X0.here X0.ex rfl (hb hby d_jdk_65_method_56_53) rfl (XS.iconst X0.here X0.ex rfl (hb hby d_jdk_65_method_56_55) (XS.isub X0.here X0.ex rfl (hb hby d_jdk_65_method_56_56) rfl k))) ?_
      show Goes _ _ _ _ T0 (mkF m 57 #[.val (.ref b), .val (.int (0 : Int32)), .val (.int (1 : Int32)), .val (.long q), .second, .val (.int (0 : Int32)), .val (.int (0 : Int32)), .val (.int (0 : Int32)), .val (.long x), .second] [(.int ((0 : Int32) - (1 : Int32)))])
      refine Goes.cast (congrArg (fun zq_ => (mkF m 57 #[.val (.ref b), .val (.int (0 : Int32)), .val (.int (1 : Int32)), .val (.long q), .second, .val (.int (0 : Int32)), .val (.int (0 : Int32)), .val (.int (0 : Int32)), .val (.long x), .second] [(.int zq_)])) (show (((0 : Int32) - (1 : Int32)) : Int32) = (-1 : Int32) from by decide)) ?_
      show Goes _ _ _ _ T0 (mkF m 57 #[.val (.ref b), .val (.int (0 : Int32)), .val (.int (1 : Int32)), .val (.long q), .second, .val (.int (0 : Int32)), .val (.int (0 : Int32)), .val (.int (0 : Int32)), .val (.long x), .second] [(.int (-1 : Int32))])
      refine Goes.go (fun _ k => XS.istore X0.here X0.ex rfl (hb hby d_jdk_65_method_56_57) rfl (l' := #[.val (.ref b), .val (.int (0 : Int32)), .val (.int (1 : Int32)), .val (.long q), .second, .val (.int (0 : Int32)), .val (.int (-1 : Int32)), .val (.int (0 : Int32)), .val (.long x), .second]) rfl (XS.goto X0.here X0.ex rfl (pc0 := 59) (pc' := 65) rfl (hb hby d_jdk_65_method_56_59) (by decide) (by decide) (XS.goto X0.here X0.ex rfl (pc0 := 65) (pc' := 8) rfl (hb hby d_jdk_65_method_56_65) (by decide) (by decide) (XS.iload X0.here X0.ex rfl (hb hby d_jdk_65_method_56_8) rfl (XS.iload X0.here X0.ex rfl (hb hby d_jdk_65_method_56_10) rfl (XS.icmpYes X0.here X0.ex rfl (pc0 := 12) (pc' := 68) rfl (hb hby d_jdk_65_method_56_12) rfl (cd_t (cd := .gt) (x := (0 : Int32)) (y := (-1 : Int32)) (by decide)) (by decide) (by decide) k)))))) ?_
      show Goes _ _ _ _ T0 (mkF m 68 #[.val (.ref b), .val (.int (0 : Int32)), .val (.int (1 : Int32)), .val (.long q), .second, .val (.int (0 : Int32)), .val (.int (-1 : Int32)), .val (.int (0 : Int32)), .val (.long x), .second] [])
      refine Goes.go (fun _ k => XS.iload X0.here X0.ex rfl (hb hby d_jdk_65_method_56_68) rfl (XS.iconst X0.here X0.ex rfl (hb hby d_jdk_65_method_56_70) (XS.iadd X0.here X0.ex rfl (hb hby d_jdk_65_method_56_71) rfl k))) ?_
      show Goes _ _ _ _ T0 (mkF m 72 #[.val (.ref b), .val (.int (0 : Int32)), .val (.int (1 : Int32)), .val (.long q), .second, .val (.int (0 : Int32)), .val (.int (-1 : Int32)), .val (.int (0 : Int32)), .val (.long x), .second] [(.int ((0 : Int32) + (1 : Int32)))])
      refine Goes.cast (congrArg (fun zq_ => (mkF m 72 #[.val (.ref b), .val (.int (0 : Int32)), .val (.int (1 : Int32)), .val (.long q), .second, .val (.int (0 : Int32)), .val (.int (-1 : Int32)), .val (.int (0 : Int32)), .val (.long x), .second] [(.int zq_)])) (show (((0 : Int32) + (1 : Int32)) : Int32) = (1 : Int32) from by decide)) ?_
      show Goes _ _ _ _ T0 (mkF m 72 #[.val (.ref b), .val (.int (0 : Int32)), .val (.int (1 : Int32)), .val (.long q), .second, .val (.int (0 : Int32)), .val (.int (-1 : Int32)), .val (.int (0 : Int32)), .val (.long x), .second] [(.int (1 : Int32))])
      refine Goes.go (fun _ k => XS.ineg X0.here X0.ex rfl (hb hby d_jdk_65_method_56_72) rfl k) ?_
      show Goes _ _ _ _ T0 (mkF m 73 #[.val (.ref b), .val (.int (0 : Int32)), .val (.int (1 : Int32)), .val (.long q), .second, .val (.int (0 : Int32)), .val (.int (-1 : Int32)), .val (.int (0 : Int32)), .val (.long x), .second] [(.int (-(1 : Int32)))])
      have ex : ¬ q = x := fun e0 => by have e1 := congrArg Int64.toInt e0; simp only [Int64.lt_iff_toInt_lt] at *; omega
      refine Goes.outN X0 (fun q => by rw [hret] at q; cases q) hlk (X0.rI hret (hb hby d_jdk_65_method_56_73)) ?_ (by decide) (by decide)
      exact ⟨Ext.oKeepOf X0.ext [], (-(1 : Int32)), rfl, Or.inl ⟨by decide, by simp [ex]⟩⟩
  · have hk0 : (lcmpW x q) < (0 : Int32) := Classical.not_not.mp hk0
    show Goes _ _ _ _ T0 (mkF m 37 #[.val (.ref b), .val (.int (0 : Int32)), .val (.int (1 : Int32)), .val (.long q), .second, .val (.int (0 : Int32)), .val (.int (0 : Int32)), .val (.int (0 : Int32)), .val (.long x), .second] [])
    rw [lw_lt] at hk0
    refine Goes.go (fun _ k => XS.iload X0.here X0.ex rfl (hb hby d_jdk_65_method_56_37) rfl (XS.iconst X0.here X0.ex rfl (hb hby d_jdk_65_method_56_39) (XS.iadd X0.here X0.ex rfl (hb hby d_jdk_65_method_56_40) rfl k))) ?_
    show Goes _ _ _ _ T0 (mkF m 41 #[.val (.ref b), .val (.int (0 : Int32)), .val (.int (1 : Int32)), .val (.long q), .second, .val (.int (0 : Int32)), .val (.int (0 : Int32)), .val (.int (0 : Int32)), .val (.long x), .second] [(.int ((0 : Int32) + (1 : Int32)))])
    refine Goes.cast (congrArg (fun zq_ => (mkF m 41 #[.val (.ref b), .val (.int (0 : Int32)), .val (.int (1 : Int32)), .val (.long q), .second, .val (.int (0 : Int32)), .val (.int (0 : Int32)), .val (.int (0 : Int32)), .val (.long x), .second] [(.int zq_)])) (show (((0 : Int32) + (1 : Int32)) : Int32) = (1 : Int32) from by decide)) ?_
    show Goes _ _ _ _ T0 (mkF m 41 #[.val (.ref b), .val (.int (0 : Int32)), .val (.int (1 : Int32)), .val (.long q), .second, .val (.int (0 : Int32)), .val (.int (0 : Int32)), .val (.int (0 : Int32)), .val (.long x), .second] [(.int (1 : Int32))])
    refine Goes.go (fun _ k => XS.istore X0.here X0.ex rfl (hb hby d_jdk_65_method_56_41) rfl (l' := #[.val (.ref b), .val (.int (0 : Int32)), .val (.int (1 : Int32)), .val (.long q), .second, .val (.int (1 : Int32)), .val (.int (0 : Int32)), .val (.int (0 : Int32)), .val (.long x), .second]) rfl (XS.goto X0.here X0.ex rfl (pc0 := 43) (pc' := 65) rfl (hb hby d_jdk_65_method_56_43) (by decide) (by decide) (XS.goto X0.here X0.ex rfl (pc0 := 65) (pc' := 8) rfl (hb hby d_jdk_65_method_56_65) (by decide) (by decide) (XS.iload X0.here X0.ex rfl (hb hby d_jdk_65_method_56_8) rfl (XS.iload X0.here X0.ex rfl (hb hby d_jdk_65_method_56_10) rfl (XS.icmpYes X0.here X0.ex rfl (pc0 := 12) (pc' := 68) rfl (hb hby d_jdk_65_method_56_12) rfl (cd_t (cd := .gt) (x := (1 : Int32)) (y := (0 : Int32)) (by decide)) (by decide) (by decide) k)))))) ?_
    show Goes _ _ _ _ T0 (mkF m 68 #[.val (.ref b), .val (.int (0 : Int32)), .val (.int (1 : Int32)), .val (.long q), .second, .val (.int (1 : Int32)), .val (.int (0 : Int32)), .val (.int (0 : Int32)), .val (.long x), .second] [])
    refine Goes.go (fun _ k => XS.iload X0.here X0.ex rfl (hb hby d_jdk_65_method_56_68) rfl (XS.iconst X0.here X0.ex rfl (hb hby d_jdk_65_method_56_70) (XS.iadd X0.here X0.ex rfl (hb hby d_jdk_65_method_56_71) rfl k))) ?_
    show Goes _ _ _ _ T0 (mkF m 72 #[.val (.ref b), .val (.int (0 : Int32)), .val (.int (1 : Int32)), .val (.long q), .second, .val (.int (1 : Int32)), .val (.int (0 : Int32)), .val (.int (0 : Int32)), .val (.long x), .second] [(.int ((1 : Int32) + (1 : Int32)))])
    refine Goes.cast (congrArg (fun zq_ => (mkF m 72 #[.val (.ref b), .val (.int (0 : Int32)), .val (.int (1 : Int32)), .val (.long q), .second, .val (.int (1 : Int32)), .val (.int (0 : Int32)), .val (.int (0 : Int32)), .val (.long x), .second] [(.int zq_)])) (show (((1 : Int32) + (1 : Int32)) : Int32) = (2 : Int32) from by decide)) ?_
    show Goes _ _ _ _ T0 (mkF m 72 #[.val (.ref b), .val (.int (0 : Int32)), .val (.int (1 : Int32)), .val (.long q), .second, .val (.int (1 : Int32)), .val (.int (0 : Int32)), .val (.int (0 : Int32)), .val (.long x), .second] [(.int (2 : Int32))])
    refine Goes.go (fun _ k => XS.ineg X0.here X0.ex rfl (hb hby d_jdk_65_method_56_72) rfl k) ?_
    show Goes _ _ _ _ T0 (mkF m 73 #[.val (.ref b), .val (.int (0 : Int32)), .val (.int (1 : Int32)), .val (.long q), .second, .val (.int (1 : Int32)), .val (.int (0 : Int32)), .val (.int (0 : Int32)), .val (.long x), .second] [(.int (-(2 : Int32)))])
    have ex : ¬ q = x := fun e0 => by have e1 := congrArg Int64.toInt e0; simp only [Int64.lt_iff_toInt_lt] at *; omega
    refine Goes.outN X0 (fun q => by rw [hret] at q; cases q) hlk (X0.rI hret (hb hby d_jdk_65_method_56_73)) ?_ (by decide) (by decide)
    exact ⟨Ext.oKeepOf X0.ext [], (-(2 : Int32)), rfl, Or.inl ⟨by decide, by simp [ex]⟩⟩
set_option maxRecDepth 65536 in
set_option maxHeartbeats 40000000 in
theorem own_bs0_2 (l : Launch) (Z : State) (a0 : Array Value) (hw : ∀ d ∈ tables_1, d.before a0 Z = true) (h0 : Heap) (hO : Ext Z.heap h0) (b : Addr) (kA : ClassId) (q : Int64) (x : Int64) (y : Int64) (V : Arv Z h0 b kA .long (2 : Int32) [(.long x), (.long y)] (.long (0 : Int64))) (s1 : x < y) :
    CtrN l Z (⟨"java/util/Arrays", "binarySearch0", "([JIIJ)I"⟩ : MethodName) jdk_65_method_56_code 10 (some .int) ({ frames := 0, cells := 0, slots := 0, locals := 0 } : Room) #[(.ref b), (.int (0 : Int32)), (.int (2 : Int32)), (.long q)] h0 (fun v h' => Keep h0 h' [] ∧ ∃ r, v = some (.int r) ∧ ((r < 0 ∧ ¬ (q = x ∨ q = y)) ∨ (¬ r < 0 ∧ (q = x ∨ q = y)))) := by
  refine CtrN.of (plainFor_of_name pn_0) hO ?_
  intro p e s m below meth c T0 X0 hsh hby hml hret hlk hnm
  refine Goes.cast (ef_own_bs0_2 m b q) ?_
  show Goes _ _ _ _ T0 (mkF m 0 #[.val (.ref b), .val (.int (0 : Int32)), .val (.int (2 : Int32)), .val (.long q), .second, .unset, .unset, .unset, .unset, .unset] [])
  refine Goes.go (fun _ k => XS.iloadN X0.here X0.ex rfl (hb hby d_jdk_65_method_56_0) rfl (XS.istore X0.here X0.ex rfl (hb hby d_jdk_65_method_56_1) rfl (l' := #[.val (.ref b), .val (.int (0 : Int32)), .val (.int (2 : Int32)), .val (.long q), .second, .val (.int (0 : Int32)), .unset, .unset, .unset, .unset]) rfl (XS.iloadN X0.here X0.ex rfl (hb hby d_jdk_65_method_56_3) rfl (XS.iconst X0.here X0.ex rfl (hb hby d_jdk_65_method_56_4) (XS.isub X0.here X0.ex rfl (hb hby d_jdk_65_method_56_5) rfl k))))) ?_
  show Goes _ _ _ _ T0 (mkF m 6 #[.val (.ref b), .val (.int (0 : Int32)), .val (.int (2 : Int32)), .val (.long q), .second, .val (.int (0 : Int32)), .unset, .unset, .unset, .unset] [(.int ((2 : Int32) - (1 : Int32)))])
  refine Goes.cast (congrArg (fun zq_ => (mkF m 6 #[.val (.ref b), .val (.int (0 : Int32)), .val (.int (2 : Int32)), .val (.long q), .second, .val (.int (0 : Int32)), .unset, .unset, .unset, .unset] [(.int zq_)])) (show (((2 : Int32) - (1 : Int32)) : Int32) = (1 : Int32) from by decide)) ?_
  show Goes _ _ _ _ T0 (mkF m 6 #[.val (.ref b), .val (.int (0 : Int32)), .val (.int (2 : Int32)), .val (.long q), .second, .val (.int (0 : Int32)), .unset, .unset, .unset, .unset] [(.int (1 : Int32))])
  refine Goes.go (fun _ k => XS.istore X0.here X0.ex rfl (hb hby d_jdk_65_method_56_6) rfl (l' := #[.val (.ref b), .val (.int (0 : Int32)), .val (.int (2 : Int32)), .val (.long q), .second, .val (.int (0 : Int32)), .val (.int (1 : Int32)), .unset, .unset, .unset]) rfl (XS.iload X0.here X0.ex rfl (hb hby d_jdk_65_method_56_8) rfl (XS.iload X0.here X0.ex rfl (hb hby d_jdk_65_method_56_10) rfl (XS.icmpNo X0.here X0.ex rfl (hb hby d_jdk_65_method_56_12) rfl (cd_f (cd := .gt) (x := (0 : Int32)) (y := (1 : Int32)) (by decide)) (XS.iload X0.here X0.ex rfl (hb hby d_jdk_65_method_56_15) rfl (XS.iload X0.here X0.ex rfl (hb hby d_jdk_65_method_56_17) rfl k)))))) ?_
  show Goes _ _ _ _ T0 (mkF m 19 #[.val (.ref b), .val (.int (0 : Int32)), .val (.int (2 : Int32)), .val (.long q), .second, .val (.int (0 : Int32)), .val (.int (1 : Int32)), .unset, .unset, .unset] [(.int (1 : Int32)), (.int (0 : Int32))])
  refine Goes.go (fun _ k => XS.iadd X0.here X0.ex rfl (hb hby d_jdk_65_method_56_19) rfl k) ?_
  show Goes _ _ _ _ T0 (mkF m 20 #[.val (.ref b), .val (.int (0 : Int32)), .val (.int (2 : Int32)), .val (.long q), .second, .val (.int (0 : Int32)), .val (.int (1 : Int32)), .unset, .unset, .unset] [(.int ((0 : Int32) + (1 : Int32)))])
  refine Goes.cast (congrArg (fun zq_ => (mkF m 20 #[.val (.ref b), .val (.int (0 : Int32)), .val (.int (2 : Int32)), .val (.long q), .second, .val (.int (0 : Int32)), .val (.int (1 : Int32)), .unset, .unset, .unset] [(.int zq_)])) (show (((0 : Int32) + (1 : Int32)) : Int32) = (1 : Int32) from by decide)) ?_
  show Goes _ _ _ _ T0 (mkF m 20 #[.val (.ref b), .val (.int (0 : Int32)), .val (.int (2 : Int32)), .val (.long q), .second, .val (.int (0 : Int32)), .val (.int (1 : Int32)), .unset, .unset, .unset] [(.int (1 : Int32))])
  refine Goes.go (fun _ k => XS.iconst X0.here X0.ex rfl (hb hby d_jdk_65_method_56_20) (XS.iushr X0.here X0.ex rfl (hb hby d_jdk_65_method_56_21) rfl k)) ?_
  show Goes _ _ _ _ T0 (mkF m 22 #[.val (.ref b), .val (.int (0 : Int32)), .val (.int (2 : Int32)), .val (.long q), .second, .val (.int (0 : Int32)), .val (.int (1 : Int32)), .unset, .unset, .unset] [(.int (((1 : Int32).toUInt32 >>> ((1 : Int32) &&& 31).toUInt32).toInt32))])
  refine Goes.cast (congrArg (fun zq_ => (mkF m 22 #[.val (.ref b), .val (.int (0 : Int32)), .val (.int (2 : Int32)), .val (.long q), .second, .val (.int (0 : Int32)), .val (.int (1 : Int32)), .unset, .unset, .unset] [(.int zq_)])) (show ((((1 : Int32).toUInt32 >>> ((1 : Int32) &&& 31).toUInt32).toInt32) : Int32) = (0 : Int32) from by decide)) ?_
  show Goes _ _ _ _ T0 (mkF m 22 #[.val (.ref b), .val (.int (0 : Int32)), .val (.int (2 : Int32)), .val (.long q), .second, .val (.int (0 : Int32)), .val (.int (1 : Int32)), .unset, .unset, .unset] [(.int (0 : Int32))])
  refine Goes.go (fun _ k => XS.istore X0.here X0.ex rfl (hb hby d_jdk_65_method_56_22) rfl (l' := #[.val (.ref b), .val (.int (0 : Int32)), .val (.int (2 : Int32)), .val (.long q), .second, .val (.int (0 : Int32)), .val (.int (1 : Int32)), .val (.int (0 : Int32)), .unset, .unset]) rfl (XS.aloadN X0.here X0.ex rfl (hb hby d_jdk_65_method_56_24) rfl rfl (XS.iload X0.here X0.ex rfl (hb hby d_jdk_65_method_56_25) rfl k))) ?_
  show Goes _ _ _ _ T0 (mkF m 27 #[.val (.ref b), .val (.int (0 : Int32)), .val (.int (2 : Int32)), .val (.long q), .second, .val (.int (0 : Int32)), .val (.int (1 : Int32)), .val (.int (0 : Int32)), .unset, .unset] [(.int (0 : Int32)), (.ref b)])
  refine Goes.go (X0.laload V ⟨by decide, by decide⟩ (v := .long x) rfl rfl rfl (hb hby d_jdk_65_method_56_27)) ?_
  show Goes _ _ _ _ T0 (mkF m 28 #[.val (.ref b), .val (.int (0 : Int32)), .val (.int (2 : Int32)), .val (.long q), .second, .val (.int (0 : Int32)), .val (.int (1 : Int32)), .val (.int (0 : Int32)), .unset, .unset] [(.long x)])
  refine Goes.go (fun _ k => XS.lstore X0.here X0.ex rfl (hb hby d_jdk_65_method_56_28) rfl (l' := #[.val (.ref b), .val (.int (0 : Int32)), .val (.int (2 : Int32)), .val (.long q), .second, .val (.int (0 : Int32)), .val (.int (1 : Int32)), .val (.int (0 : Int32)), .val (.long x), .second]) rfl (XS.lload X0.here X0.ex rfl (hb hby d_jdk_65_method_56_30) rfl (XS.lloadN X0.here X0.ex rfl (hb hby d_jdk_65_method_56_32) rfl (XS.lcmp X0.here X0.ex rfl (hb hby d_jdk_65_method_56_33) rfl k)))) ?_
  show Goes _ _ _ _ T0 (mkF m 34 #[.val (.ref b), .val (.int (0 : Int32)), .val (.int (2 : Int32)), .val (.long q), .second, .val (.int (0 : Int32)), .val (.int (1 : Int32)), .val (.int (0 : Int32)), .val (.long x), .second] [(.int (lcmpW x q))])
  refine Goes.ifc (pc' := 46) X0.here X0.ex (hb hby d_jdk_65_method_56_34) (by decide) (by decide) (fun hk0 => ?_) (fun hk0 => ?_)
  · have hk0 : ¬ ((lcmpW x q) < (0 : Int32)) := hk0
    show Goes _ _ _ _ T0 (mkF m 46 #[.val (.ref b), .val (.int (0 : Int32)), .val (.int (2 : Int32)), .val (.long q), .second, .val (.int (0 : Int32)), .val (.int (1 : Int32)), .val (.int (0 : Int32)), .val (.long x), .second] [])
    rw [lw_lt] at hk0
    refine Goes.go (fun _ k => XS.lload X0.here X0.ex rfl (hb hby d_jdk_65_method_56_46) rfl (XS.lloadN X0.here X0.ex rfl (hb hby d_jdk_65_method_56_48) rfl (XS.lcmp X0.here X0.ex rfl (hb hby d_jdk_65_method_56_49) rfl k))) ?_
    show Goes _ _ _ _ T0 (mkF m 50 #[.val (.ref b), .val (.int (0 : Int32)), .val (.int (2 : Int32)), .val (.long q), .second, .val (.int (0 : Int32)), .val (.int (1 : Int32)), .val (.int (0 : Int32)), .val (.long x), .second] [(.int (lcmpW x q))])
    refine Goes.ifc (pc' := 62) X0.here X0.ex (hb hby d_jdk_65_method_56_50) (by decide) (by decide) (fun hk1 => ?_) (fun hk1 => ?_)
    · have hk1 : ¬ ((0 : Int32) < (lcmpW x q)) := hk1
      show Goes _ _ _ _ T0 (mkF m 62 #[.val (.ref b), .val (.int (0 : Int32)), .val (.int (2 : Int32)), .val (.long q), .second, .val (.int (0 : Int32)), .val (.int (1 : Int32)), .val (.int (0 : Int32)), .val (.long x), .second] [])
      rw [lw_gt] at hk1
      refine Goes.go (fun _ k => XS.iload X0.here X0.ex rfl (hb hby d_jdk_65_method_56_62) rfl k) ?_
      show Goes _ _ _ _ T0 (mkF m 64 #[.val (.ref b), .val (.int (0 : Int32)), .val (.int (2 : Int32)), .val (.long q), .second, .val (.int (0 : Int32)), .val (.int (1 : Int32)), .val (.int (0 : Int32)), .val (.long x), .second] [(.int (0 : Int32))])
      have ex : q = x := Int64.toInt_inj.mp (by simp only [Int64.lt_iff_toInt_lt] at *; omega)
      have ey : ¬ q = y := fun e0 => by have e1 := congrArg Int64.toInt e0; simp only [Int64.lt_iff_toInt_lt] at *; omega
      refine Goes.outN X0 (fun q => by rw [hret] at q; cases q) hlk (X0.rI hret (hb hby d_jdk_65_method_56_64)) ?_ (by decide) (by decide)
      exact ⟨Ext.oKeepOf X0.ext [], (0 : Int32), rfl, Or.inr ⟨by decide, by simp [ex]⟩⟩
    · have hk1 : (0 : Int32) < (lcmpW x q) := Classical.not_not.mp hk1
      show Goes _ _ _ _ T0 (mkF m 53 #[.val (.ref b), .val (.int (0 : Int32)), .val (.int (2 : Int32)), .val (.long q), .second, .val (.int (0 : Int32)), .val (.int (1 : Int32)), .val (.int (0 : Int32)), .val (.long x), .second] [])
      rw [lw_gt] at hk1
      refine Goes.go (fun _ k => XS.iload X0.here X0.ex rfl (hb hby d_jdk_65_method_56_53) rfl (XS.iconst X0.here X0.ex rfl (hb hby d_jdk_65_method_56_55) (XS.isub X0.here X0.ex rfl (hb hby d_jdk_65_method_56_56) rfl k))) ?_
      show Goes _ _ _ _ T0 (mkF m 57 #[.val (.ref b), .val (.int (0 : Int32)), .val (.int (2 : Int32)), .val (.long q), .second, .val (.int (0 : Int32)), .val (.int (1 : Int32)), .val (.int (0 : Int32)), .val (.long x), .second] [(.int ((0 : Int32) - (1 : Int32)))])
      refine Goes.cast (congrArg (fun zq_ => (mkF m 57 #[.val (.ref b), .val (.int (0 : Int32)), .val (.int (2 : Int32)), .val (.long q), .second, .val (.int (0 : Int32)), .val (.int (1 : Int32)), .val (.int (0 : Int32)), .val (.long x), .second] [(.int zq_)])) (show (((0 : Int32) - (1 : Int32)) : Int32) = (-1 : Int32) from by decide)) ?_
      show Goes _ _ _ _ T0 (mkF m 57 #[.val (.ref b), .val (.int (0 : Int32)), .val (.int (2 : Int32)), .val (.long q), .second, .val (.int (0 : Int32)), .val (.int (1 : Int32)), .val (.int (0 : Int32)), .val (.long x), .second] [(.int (-1 : Int32))])
      refine Goes.go (fun _ k => XS.istore X0.here X0.ex rfl (hb hby d_jdk_65_method_56_57) rfl (l' := #[.val (.ref b), .val (.int (0 : Int32)), .val (.int (2 : Int32)), .val (.long q), .second, .val (.int (0 : Int32)), .val (.int (-1 : Int32)), .val (.int (0 : Int32)), .val (.long x), .second]) rfl (XS.goto X0.here X0.ex rfl (pc0 := 59) (pc' := 65) rfl (hb hby d_jdk_65_method_56_59) (by decide) (by decide) (XS.goto X0.here X0.ex rfl (pc0 := 65) (pc' := 8) rfl (hb hby d_jdk_65_method_56_65) (by decide) (by decide) (XS.iload X0.here X0.ex rfl (hb hby d_jdk_65_method_56_8) rfl (XS.iload X0.here X0.ex rfl (hb hby d_jdk_65_method_56_10) rfl (XS.icmpYes X0.here X0.ex rfl (pc0 := 12) (pc' := 68) rfl (hb hby d_jdk_65_method_56_12) rfl (cd_t (cd := .gt) (x := (0 : Int32)) (y := (-1 : Int32)) (by decide)) (by decide) (by decide) k)))))) ?_
      show Goes _ _ _ _ T0 (mkF m 68 #[.val (.ref b), .val (.int (0 : Int32)), .val (.int (2 : Int32)), .val (.long q), .second, .val (.int (0 : Int32)), .val (.int (-1 : Int32)), .val (.int (0 : Int32)), .val (.long x), .second] [])
      refine Goes.go (fun _ k => XS.iload X0.here X0.ex rfl (hb hby d_jdk_65_method_56_68) rfl (XS.iconst X0.here X0.ex rfl (hb hby d_jdk_65_method_56_70) (XS.iadd X0.here X0.ex rfl (hb hby d_jdk_65_method_56_71) rfl k))) ?_
      show Goes _ _ _ _ T0 (mkF m 72 #[.val (.ref b), .val (.int (0 : Int32)), .val (.int (2 : Int32)), .val (.long q), .second, .val (.int (0 : Int32)), .val (.int (-1 : Int32)), .val (.int (0 : Int32)), .val (.long x), .second] [(.int ((0 : Int32) + (1 : Int32)))])
      refine Goes.cast (congrArg (fun zq_ => (mkF m 72 #[.val (.ref b), .val (.int (0 : Int32)), .val (.int (2 : Int32)), .val (.long q), .second, .val (.int (0 : Int32)), .val (.int (-1 : Int32)), .val (.int (0 : Int32)), .val (.long x), .second] [(.int zq_)])) (show (((0 : Int32) + (1 : Int32)) : Int32) = (1 : Int32) from by decide)) ?_
      show Goes _ _ _ _ T0 (mkF m 72 #[.val (.ref b), .val (.int (0 : Int32)), .val (.int (2 : Int32)), .val (.long q), .second, .val (.int (0 : Int32)), .val (.int (-1 : Int32)), .val (.int (0 : Int32)), .val (.long x), .second] [(.int (1 : Int32))])
      refine Goes.go (fun _ k => XS.ineg X0.here X0.ex rfl (hb hby d_jdk_65_method_56_72) rfl k) ?_
      show Goes _ _ _ _ T0 (mkF m 73 #[.val (.ref b), .val (.int (0 : Int32)), .val (.int (2 : Int32)), .val (.long q), .second, .val (.int (0 : Int32)), .val (.int (-1 : Int32)), .val (.int (0 : Int32)), .val (.long x), .second] [(.int (-(1 : Int32)))])
      have ex : ¬ q = x := fun e0 => by have e1 := congrArg Int64.toInt e0; simp only [Int64.lt_iff_toInt_lt] at *; omega
      have ey : ¬ q = y := fun e0 => by have e1 := congrArg Int64.toInt e0; simp only [Int64.lt_iff_toInt_lt] at *; omega
      refine Goes.outN X0 (fun q => by rw [hret] at q; cases q) hlk (X0.rI hret (hb hby d_jdk_65_method_56_73)) ?_ (by decide) (by decide)
      exact ⟨Ext.oKeepOf X0.ext [], (-(1 : Int32)), rfl, Or.inl ⟨by decide, by simp [ex, ey]⟩⟩
  · have hk0 : (lcmpW x q) < (0 : Int32) := Classical.not_not.mp hk0
    show Goes _ _ _ _ T0 (mkF m 37 #[.val (.ref b), .val (.int (0 : Int32)), .val (.int (2 : Int32)), .val (.long q), .second, .val (.int (0 : Int32)), .val (.int (1 : Int32)), .val (.int (0 : Int32)), .val (.long x), .second] [])
    rw [lw_lt] at hk0
    refine Goes.go (fun _ k => XS.iload X0.here X0.ex rfl (hb hby d_jdk_65_method_56_37) rfl (XS.iconst X0.here X0.ex rfl (hb hby d_jdk_65_method_56_39) (XS.iadd X0.here X0.ex rfl (hb hby d_jdk_65_method_56_40) rfl k))) ?_
    show Goes _ _ _ _ T0 (mkF m 41 #[.val (.ref b), .val (.int (0 : Int32)), .val (.int (2 : Int32)), .val (.long q), .second, .val (.int (0 : Int32)), .val (.int (1 : Int32)), .val (.int (0 : Int32)), .val (.long x), .second] [(.int ((0 : Int32) + (1 : Int32)))])
    refine Goes.cast (congrArg (fun zq_ => (mkF m 41 #[.val (.ref b), .val (.int (0 : Int32)), .val (.int (2 : Int32)), .val (.long q), .second, .val (.int (0 : Int32)), .val (.int (1 : Int32)), .val (.int (0 : Int32)), .val (.long x), .second] [(.int zq_)])) (show (((0 : Int32) + (1 : Int32)) : Int32) = (1 : Int32) from by decide)) ?_
    show Goes _ _ _ _ T0 (mkF m 41 #[.val (.ref b), .val (.int (0 : Int32)), .val (.int (2 : Int32)), .val (.long q), .second, .val (.int (0 : Int32)), .val (.int (1 : Int32)), .val (.int (0 : Int32)), .val (.long x), .second] [(.int (1 : Int32))])
    refine Goes.go (fun _ k => XS.istore X0.here X0.ex rfl (hb hby d_jdk_65_method_56_41) rfl (l' := #[.val (.ref b), .val (.int (0 : Int32)), .val (.int (2 : Int32)), .val (.long q), .second, .val (.int (1 : Int32)), .val (.int (1 : Int32)), .val (.int (0 : Int32)), .val (.long x), .second]) rfl (XS.goto X0.here X0.ex rfl (pc0 := 43) (pc' := 65) rfl (hb hby d_jdk_65_method_56_43) (by decide) (by decide) (XS.goto X0.here X0.ex rfl (pc0 := 65) (pc' := 8) rfl (hb hby d_jdk_65_method_56_65) (by decide) (by decide) (XS.iload X0.here X0.ex rfl (hb hby d_jdk_65_method_56_8) rfl (XS.iload X0.here X0.ex rfl (hb hby d_jdk_65_method_56_10) rfl (XS.icmpNo X0.here X0.ex rfl (hb hby d_jdk_65_method_56_12) rfl (cd_f (cd := .gt) (x := (1 : Int32)) (y := (1 : Int32)) (by decide)) k)))))) ?_
    show Goes _ _ _ _ T0 (mkF m 15 #[.val (.ref b), .val (.int (0 : Int32)), .val (.int (2 : Int32)), .val (.long q), .second, .val (.int (1 : Int32)), .val (.int (1 : Int32)), .val (.int (0 : Int32)), .val (.long x), .second] [])
    refine Goes.go (fun _ k => XS.iload X0.here X0.ex rfl (hb hby d_jdk_65_method_56_15) rfl (XS.iload X0.here X0.ex rfl (hb hby d_jdk_65_method_56_17) rfl (XS.iadd X0.here X0.ex rfl (hb hby d_jdk_65_method_56_19) rfl k))) ?_
    show Goes _ _ _ _ T0 (mkF m 20 #[.val (.ref b), .val (.int (0 : Int32)), .val (.int (2 : Int32)), .val (.long q), .second, .val (.int (1 : Int32)), .val (.int (1 : Int32)), .val (.int (0 : Int32)), .val (.long x), .second] [(.int ((1 : Int32) + (1 : Int32)))])
    refine Goes.cast (congrArg (fun zq_ => (mkF m 20 #[.val (.ref b), .val (.int (0 : Int32)), .val (.int (2 : Int32)), .val (.long q), .second, .val (.int (1 : Int32)), .val (.int (1 : Int32)), .val (.int (0 : Int32)), .val (.long x), .second] [(.int zq_)])) (show (((1 : Int32) + (1 : Int32)) : Int32) = (2 : Int32) from by decide)) ?_
    show Goes _ _ _ _ T0 (mkF m 20 #[.val (.ref b), .val (.int (0 : Int32)), .val (.int (2 : Int32)), .val (.long q), .second, .val (.int (1 : Int32)), .val (.int (1 : Int32)), .val (.int (0 : Int32)), .val (.long x), .second] [(.int (2 : Int32))])
    refine Goes.go (fun _ k => XS.iconst X0.here X0.ex rfl (hb hby d_jdk_65_method_56_20) (XS.iushr X0.here X0.ex rfl (hb hby d_jdk_65_method_56_21) rfl k)) ?_
    show Goes _ _ _ _ T0 (mkF m 22 #[.val (.ref b), .val (.int (0 : Int32)), .val (.int (2 : Int32)), .val (.long q), .second, .val (.int (1 : Int32)), .val (.int (1 : Int32)), .val (.int (0 : Int32)), .val (.long x), .second] [(.int (((2 : Int32).toUInt32 >>> ((1 : Int32) &&& 31).toUInt32).toInt32))])
    refine Goes.cast (congrArg (fun zq_ => (mkF m 22 #[.val (.ref b), .val (.int (0 : Int32)), .val (.int (2 : Int32)), .val (.long q), .second, .val (.int (1 : Int32)), .val (.int (1 : Int32)), .val (.int (0 : Int32)), .val (.long x), .second] [(.int zq_)])) (show ((((2 : Int32).toUInt32 >>> ((1 : Int32) &&& 31).toUInt32).toInt32) : Int32) = (1 : Int32) from by decide)) ?_
    show Goes _ _ _ _ T0 (mkF m 22 #[.val (.ref b), .val (.int (0 : Int32)), .val (.int (2 : Int32)), .val (.long q), .second, .val (.int (1 : Int32)), .val (.int (1 : Int32)), .val (.int (0 : Int32)), .val (.long x), .second] [(.int (1 : Int32))])
    refine Goes.go (fun _ k => XS.istore X0.here X0.ex rfl (hb hby d_jdk_65_method_56_22) rfl (l' := #[.val (.ref b), .val (.int (0 : Int32)), .val (.int (2 : Int32)), .val (.long q), .second, .val (.int (1 : Int32)), .val (.int (1 : Int32)), .val (.int (1 : Int32)), .val (.long x), .second]) rfl (XS.aloadN X0.here X0.ex rfl (hb hby d_jdk_65_method_56_24) rfl rfl (XS.iload X0.here X0.ex rfl (hb hby d_jdk_65_method_56_25) rfl k))) ?_
    show Goes _ _ _ _ T0 (mkF m 27 #[.val (.ref b), .val (.int (0 : Int32)), .val (.int (2 : Int32)), .val (.long q), .second, .val (.int (1 : Int32)), .val (.int (1 : Int32)), .val (.int (1 : Int32)), .val (.long x), .second] [(.int (1 : Int32)), (.ref b)])
    refine Goes.go (X0.laload V ⟨by decide, by decide⟩ (v := .long y) rfl rfl rfl (hb hby d_jdk_65_method_56_27)) ?_
    show Goes _ _ _ _ T0 (mkF m 28 #[.val (.ref b), .val (.int (0 : Int32)), .val (.int (2 : Int32)), .val (.long q), .second, .val (.int (1 : Int32)), .val (.int (1 : Int32)), .val (.int (1 : Int32)), .val (.long x), .second] [(.long y)])
    refine Goes.go (fun _ k => XS.lstore X0.here X0.ex rfl (hb hby d_jdk_65_method_56_28) rfl (l' := #[.val (.ref b), .val (.int (0 : Int32)), .val (.int (2 : Int32)), .val (.long q), .second, .val (.int (1 : Int32)), .val (.int (1 : Int32)), .val (.int (1 : Int32)), .val (.long y), .second]) rfl (XS.lload X0.here X0.ex rfl (hb hby d_jdk_65_method_56_30) rfl (XS.lloadN X0.here X0.ex rfl (hb hby d_jdk_65_method_56_32) rfl (XS.lcmp X0.here X0.ex rfl (hb hby d_jdk_65_method_56_33) rfl k)))) ?_
    show Goes _ _ _ _ T0 (mkF m 34 #[.val (.ref b), .val (.int (0 : Int32)), .val (.int (2 : Int32)), .val (.long q), .second, .val (.int (1 : Int32)), .val (.int (1 : Int32)), .val (.int (1 : Int32)), .val (.long y), .second] [(.int (lcmpW y q))])
    refine Goes.ifc (pc' := 46) X0.here X0.ex (hb hby d_jdk_65_method_56_34) (by decide) (by decide) (fun hk1 => ?_) (fun hk1 => ?_)
    · have hk1 : ¬ ((lcmpW y q) < (0 : Int32)) := hk1
      show Goes _ _ _ _ T0 (mkF m 46 #[.val (.ref b), .val (.int (0 : Int32)), .val (.int (2 : Int32)), .val (.long q), .second, .val (.int (1 : Int32)), .val (.int (1 : Int32)), .val (.int (1 : Int32)), .val (.long y), .second] [])
      rw [lw_lt] at hk1
      refine Goes.go (fun _ k => XS.lload X0.here X0.ex rfl (hb hby d_jdk_65_method_56_46) rfl (XS.lloadN X0.here X0.ex rfl (hb hby d_jdk_65_method_56_48) rfl (XS.lcmp X0.here X0.ex rfl (hb hby d_jdk_65_method_56_49) rfl k))) ?_
      show Goes _ _ _ _ T0 (mkF m 50 #[.val (.ref b), .val (.int (0 : Int32)), .val (.int (2 : Int32)), .val (.long q), .second, .val (.int (1 : Int32)), .val (.int (1 : Int32)), .val (.int (1 : Int32)), .val (.long y), .second] [(.int (lcmpW y q))])
      refine Goes.ifc (pc' := 62) X0.here X0.ex (hb hby d_jdk_65_method_56_50) (by decide) (by decide) (fun hk2 => ?_) (fun hk2 => ?_)
      · have hk2 : ¬ ((0 : Int32) < (lcmpW y q)) := hk2
        show Goes _ _ _ _ T0 (mkF m 62 #[.val (.ref b), .val (.int (0 : Int32)), .val (.int (2 : Int32)), .val (.long q), .second, .val (.int (1 : Int32)), .val (.int (1 : Int32)), .val (.int (1 : Int32)), .val (.long y), .second] [])
        rw [lw_gt] at hk2
        refine Goes.go (fun _ k => XS.iload X0.here X0.ex rfl (hb hby d_jdk_65_method_56_62) rfl k) ?_
        show Goes _ _ _ _ T0 (mkF m 64 #[.val (.ref b), .val (.int (0 : Int32)), .val (.int (2 : Int32)), .val (.long q), .second, .val (.int (1 : Int32)), .val (.int (1 : Int32)), .val (.int (1 : Int32)), .val (.long y), .second] [(.int (1 : Int32))])
        have ex : ¬ q = x := fun e0 => by have e1 := congrArg Int64.toInt e0; simp only [Int64.lt_iff_toInt_lt] at *; omega
        have ey : q = y := Int64.toInt_inj.mp (by simp only [Int64.lt_iff_toInt_lt] at *; omega)
        refine Goes.outN X0 (fun q => by rw [hret] at q; cases q) hlk (X0.rI hret (hb hby d_jdk_65_method_56_64)) ?_ (by decide) (by decide)
        exact ⟨Ext.oKeepOf X0.ext [], (1 : Int32), rfl, Or.inr ⟨by decide, by simp [ey]⟩⟩
      · have hk2 : (0 : Int32) < (lcmpW y q) := Classical.not_not.mp hk2
        show Goes _ _ _ _ T0 (mkF m 53 #[.val (.ref b), .val (.int (0 : Int32)), .val (.int (2 : Int32)), .val (.long q), .second, .val (.int (1 : Int32)), .val (.int (1 : Int32)), .val (.int (1 : Int32)), .val (.long y), .second] [])
        rw [lw_gt] at hk2
        refine Goes.go (fun _ k => XS.iload X0.here X0.ex rfl (hb hby d_jdk_65_method_56_53) rfl (XS.iconst X0.here X0.ex rfl (hb hby d_jdk_65_method_56_55) (XS.isub X0.here X0.ex rfl (hb hby d_jdk_65_method_56_56) rfl k))) ?_
        show Goes _ _ _ _ T0 (mkF m 57 #[.val (.ref b), .val (.int (0 : Int32)), .val (.int (2 : Int32)), .val (.long q), .second, .val (.int (1 : Int32)), .val (.int (1 : Int32)), .val (.int (1 : Int32)), .val (.long y), .second] [(.int ((1 : Int32) - (1 : Int32)))])
        refine Goes.cast (congrArg (fun zq_ => (mkF m 57 #[.val (.ref b), .val (.int (0 : Int32)), .val (.int (2 : Int32)), .val (.long q), .second, .val (.int (1 : Int32)), .val (.int (1 : Int32)), .val (.int (1 : Int32)), .val (.long y), .second] [(.int zq_)])) (show (((1 : Int32) - (1 : Int32)) : Int32) = (0 : Int32) from by decide)) ?_
        show Goes _ _ _ _ T0 (mkF m 57 #[.val (.ref b), .val (.int (0 : Int32)), .val (.int (2 : Int32)), .val (.long q), .second, .val (.int (1 : Int32)), .val (.int (1 : Int32)), .val (.int (1 : Int32)), .val (.long y), .second] [(.int (0 : Int32))])
        refine Goes.go (fun _ k => XS.istore X0.here X0.ex rfl (hb hby d_jdk_65_method_56_57) rfl (l' := #[.val (.ref b), .val (.int (0 : Int32)), .val (.int (2 : Int32)), .val (.long q), .second, .val (.int (1 : Int32)), .val (.int (0 : Int32)), .val (.int (1 : Int32)), .val (.long y), .second]) rfl (XS.goto X0.here X0.ex rfl (pc0 := 59) (pc' := 65) rfl (hb hby d_jdk_65_method_56_59) (by decide) (by decide) (XS.goto X0.here X0.ex rfl (pc0 := 65) (pc' := 8) rfl (hb hby d_jdk_65_method_56_65) (by decide) (by decide) (XS.iload X0.here X0.ex rfl (hb hby d_jdk_65_method_56_8) rfl (XS.iload X0.here X0.ex rfl (hb hby d_jdk_65_method_56_10) rfl (XS.icmpYes X0.here X0.ex rfl (pc0 := 12) (pc' := 68) rfl (hb hby d_jdk_65_method_56_12) rfl (cd_t (cd := .gt) (x := (1 : Int32)) (y := (0 : Int32)) (by decide)) (by decide) (by decide) k)))))) ?_
        show Goes _ _ _ _ T0 (mkF m 68 #[.val (.ref b), .val (.int (0 : Int32)), .val (.int (2 : Int32)), .val (.long q), .second, .val (.int (1 : Int32)), .val (.int (0 : Int32)), .val (.int (1 : Int32)), .val (.long y), .second] [])
        refine Goes.go (fun _ k => XS.iload X0.here X0.ex rfl (hb hby d_jdk_65_method_56_68) rfl (XS.iconst X0.here X0.ex rfl (hb hby d_jdk_65_method_56_70) (XS.iadd X0.here X0.ex rfl (hb hby d_jdk_65_method_56_71) rfl k))) ?_
        show Goes _ _ _ _ T0 (mkF m 72 #[.val (.ref b), .val (.int (0 : Int32)), .val (.int (2 : Int32)), .val (.long q), .second, .val (.int (1 : Int32)), .val (.int (0 : Int32)), .val (.int (1 : Int32)), .val (.long y), .second] [(.int ((1 : Int32) + (1 : Int32)))])
        refine Goes.cast (congrArg (fun zq_ => (mkF m 72 #[.val (.ref b), .val (.int (0 : Int32)), .val (.int (2 : Int32)), .val (.long q), .second, .val (.int (1 : Int32)), .val (.int (0 : Int32)), .val (.int (1 : Int32)), .val (.long y), .second] [(.int zq_)])) (show (((1 : Int32) + (1 : Int32)) : Int32) = (2 : Int32) from by decide)) ?_
        show Goes _ _ _ _ T0 (mkF m 72 #[.val (.ref b), .val (.int (0 : Int32)), .val (.int (2 : Int32)), .val (.long q), .second, .val (.int (1 : Int32)), .val (.int (0 : Int32)), .val (.int (1 : Int32)), .val (.long y), .second] [(.int (2 : Int32))])
        refine Goes.go (fun _ k => XS.ineg X0.here X0.ex rfl (hb hby d_jdk_65_method_56_72) rfl k) ?_
        show Goes _ _ _ _ T0 (mkF m 73 #[.val (.ref b), .val (.int (0 : Int32)), .val (.int (2 : Int32)), .val (.long q), .second, .val (.int (1 : Int32)), .val (.int (0 : Int32)), .val (.int (1 : Int32)), .val (.long y), .second] [(.int (-(2 : Int32)))])
        have ex : ¬ q = x := fun e0 => by have e1 := congrArg Int64.toInt e0; simp only [Int64.lt_iff_toInt_lt] at *; omega
        have ey : ¬ q = y := fun e0 => by have e1 := congrArg Int64.toInt e0; simp only [Int64.lt_iff_toInt_lt] at *; omega
        refine Goes.outN X0 (fun q => by rw [hret] at q; cases q) hlk (X0.rI hret (hb hby d_jdk_65_method_56_73)) ?_ (by decide) (by decide)
        exact ⟨Ext.oKeepOf X0.ext [], (-(2 : Int32)), rfl, Or.inl ⟨by decide, by simp [ex, ey]⟩⟩
    · have hk1 : (lcmpW y q) < (0 : Int32) := Classical.not_not.mp hk1
      show Goes _ _ _ _ T0 (mkF m 37 #[.val (.ref b), .val (.int (0 : Int32)), .val (.int (2 : Int32)), .val (.long q), .second, .val (.int (1 : Int32)), .val (.int (1 : Int32)), .val (.int (1 : Int32)), .val (.long y), .second] [])
      rw [lw_lt] at hk1
      refine Goes.go (fun _ k => XS.iload X0.here X0.ex rfl (hb hby d_jdk_65_method_56_37) rfl (XS.iconst X0.here X0.ex rfl (hb hby d_jdk_65_method_56_39) (XS.iadd X0.here X0.ex rfl (hb hby d_jdk_65_method_56_40) rfl k))) ?_
      show Goes _ _ _ _ T0 (mkF m 41 #[.val (.ref b), .val (.int (0 : Int32)), .val (.int (2 : Int32)), .val (.long q), .second, .val (.int (1 : Int32)), .val (.int (1 : Int32)), .val (.int (1 : Int32)), .val (.long y), .second] [(.int ((1 : Int32) + (1 : Int32)))])
      refine Goes.cast (congrArg (fun zq_ => (mkF m 41 #[.val (.ref b), .val (.int (0 : Int32)), .val (.int (2 : Int32)), .val (.long q), .second, .val (.int (1 : Int32)), .val (.int (1 : Int32)), .val (.int (1 : Int32)), .val (.long y), .second] [(.int zq_)])) (show (((1 : Int32) + (1 : Int32)) : Int32) = (2 : Int32) from by decide)) ?_
      show Goes _ _ _ _ T0 (mkF m 41 #[.val (.ref b), .val (.int (0 : Int32)), .val (.int (2 : Int32)), .val (.long q), .second, .val (.int (1 : Int32)), .val (.int (1 : Int32)), .val (.int (1 : Int32)), .val (.long y), .second] [(.int (2 : Int32))])
      refine Goes.go (fun _ k => XS.istore X0.here X0.ex rfl (hb hby d_jdk_65_method_56_41) rfl (l' := #[.val (.ref b), .val (.int (0 : Int32)), .val (.int (2 : Int32)), .val (.long q), .second, .val (.int (2 : Int32)), .val (.int (1 : Int32)), .val (.int (1 : Int32)), .val (.long y), .second]) rfl (XS.goto X0.here X0.ex rfl (pc0 := 43) (pc' := 65) rfl (hb hby d_jdk_65_method_56_43) (by decide) (by decide) (XS.goto X0.here X0.ex rfl (pc0 := 65) (pc' := 8) rfl (hb hby d_jdk_65_method_56_65) (by decide) (by decide) (XS.iload X0.here X0.ex rfl (hb hby d_jdk_65_method_56_8) rfl (XS.iload X0.here X0.ex rfl (hb hby d_jdk_65_method_56_10) rfl (XS.icmpYes X0.here X0.ex rfl (pc0 := 12) (pc' := 68) rfl (hb hby d_jdk_65_method_56_12) rfl (cd_t (cd := .gt) (x := (2 : Int32)) (y := (1 : Int32)) (by decide)) (by decide) (by decide) k)))))) ?_
      show Goes _ _ _ _ T0 (mkF m 68 #[.val (.ref b), .val (.int (0 : Int32)), .val (.int (2 : Int32)), .val (.long q), .second, .val (.int (2 : Int32)), .val (.int (1 : Int32)), .val (.int (1 : Int32)), .val (.long y), .second] [])
      refine Goes.go (fun _ k => XS.iload X0.here X0.ex rfl (hb hby d_jdk_65_method_56_68) rfl (XS.iconst X0.here X0.ex rfl (hb hby d_jdk_65_method_56_70) (XS.iadd X0.here X0.ex rfl (hb hby d_jdk_65_method_56_71) rfl k))) ?_
      show Goes _ _ _ _ T0 (mkF m 72 #[.val (.ref b), .val (.int (0 : Int32)), .val (.int (2 : Int32)), .val (.long q), .second, .val (.int (2 : Int32)), .val (.int (1 : Int32)), .val (.int (1 : Int32)), .val (.long y), .second] [(.int ((2 : Int32) + (1 : Int32)))])
      refine Goes.cast (congrArg (fun zq_ => (mkF m 72 #[.val (.ref b), .val (.int (0 : Int32)), .val (.int (2 : Int32)), .val (.long q), .second, .val (.int (2 : Int32)), .val (.int (1 : Int32)), .val (.int (1 : Int32)), .val (.long y), .second] [(.int zq_)])) (show (((2 : Int32) + (1 : Int32)) : Int32) = (3 : Int32) from by decide)) ?_
      show Goes _ _ _ _ T0 (mkF m 72 #[.val (.ref b), .val (.int (0 : Int32)), .val (.int (2 : Int32)), .val (.long q), .second, .val (.int (2 : Int32)), .val (.int (1 : Int32)), .val (.int (1 : Int32)), .val (.long y), .second] [(.int (3 : Int32))])
      refine Goes.go (fun _ k => XS.ineg X0.here X0.ex rfl (hb hby d_jdk_65_method_56_72) rfl k) ?_
      show Goes _ _ _ _ T0 (mkF m 73 #[.val (.ref b), .val (.int (0 : Int32)), .val (.int (2 : Int32)), .val (.long q), .second, .val (.int (2 : Int32)), .val (.int (1 : Int32)), .val (.int (1 : Int32)), .val (.long y), .second] [(.int (-(3 : Int32)))])
      have ex : ¬ q = x := fun e0 => by have e1 := congrArg Int64.toInt e0; simp only [Int64.lt_iff_toInt_lt] at *; omega
      have ey : ¬ q = y := fun e0 => by have e1 := congrArg Int64.toInt e0; simp only [Int64.lt_iff_toInt_lt] at *; omega
      refine Goes.outN X0 (fun q => by rw [hret] at q; cases q) hlk (X0.rI hret (hb hby d_jdk_65_method_56_73)) ?_ (by decide) (by decide)
      exact ⟨Ext.oKeepOf X0.ext [], (-(3 : Int32)), rfl, Or.inl ⟨by decide, by simp [ex, ey]⟩⟩
set_option maxRecDepth 65536 in
set_option maxHeartbeats 40000000 in
theorem own_bs_0 (l : Launch) (Z : State) (a0 : Array Value) (hw : ∀ d ∈ tables_1, d.before a0 Z = true) (h0 : Heap) (hO : Ext Z.heap h0) (b : Addr) (kA : ClassId) (q : Int64) (V : Arv Z h0 b kA .long (0 : Int32) [] (.long (0 : Int64)))  :
    CtrN l Z (⟨"java/util/Arrays", "binarySearch", "([JJ)I"⟩ : MethodName) jdk_65_method_54_code 3 (some .int) ({ frames := 1, cells := 0, slots := 0, locals := 21 } : Room) #[(.ref b), (.long q)] h0 (fun v h' => Keep h0 h' [] ∧ ∃ r, v = some (.int r) ∧ ((r < 0 ∧ ¬ False) ∨ (¬ r < 0 ∧ False))) := by
  refine CtrN.of (plainFor_of_name pn_0) hO ?_
  intro p e s m below meth c T0 X0 hsh hby hml hret hlk hnm
  refine Goes.cast (ef_own_bs_0 m b q) ?_
  show Goes _ _ _ _ T0 (mkF m 0 #[.val (.ref b), .val (.long q), .second] [])
  refine Goes.go (fun _ k => XS.aloadN X0.here X0.ex rfl (hb hby d_jdk_65_method_54_0) rfl rfl (XS.iconst X0.here X0.ex rfl (hb hby d_jdk_65_method_54_1) (XS.aloadN X0.here X0.ex rfl (hb hby d_jdk_65_method_54_2) rfl rfl k))) ?_
  show Goes _ _ _ _ T0 (mkF m 3 #[.val (.ref b), .val (.long q), .second] [(.ref b), (.int (0 : Int32)), (.ref b)])
  refine Goes.go (X0.alen V rfl rfl (hb hby d_jdk_65_method_54_3)) ?_
  show Goes _ _ _ _ T0 (mkF m 4 #[.val (.ref b), .val (.long q), .second] [(.int (0 : Int32)), (.int (0 : Int32)), (.ref b)])
  refine Goes.go (fun _ k => XS.lloadN X0.here X0.ex rfl (hb hby d_jdk_65_method_54_4) rfl k) ?_
  show Goes _ _ _ _ T0 (mkF m 5 #[.val (.ref b), .val (.long q), .second] [(.long q), (.int (0 : Int32)), (.int (0 : Int32)), (.ref b)])
  refine Wk.static (hm' := fun _ => h0) (y := (⟨"java/util/Arrays", "binarySearch0", "([JIIJ)I"⟩ : MethodName)) (W := 0) (kc := 0) (ks := 0) (argsL := [(.ref b), (.int (0 : Int32)), (.int (0 : Int32)), (.long q)]) (rest := []) (as' := #[(.ref b), (.int (0 : Int32)), (.int (0 : Int32)), (.long q)]) (ws := []) X0 (w_39 hw) (w_40 hw) (w_37 hw) (w_41 hw) (by decide) (CtrN.pays (own_bs0_0 l Z a0 hw h0 X0.old b kA q  V ) (w_41 hw) (w_37 hw) (by decide) (by decide)) (fun v h' L q => ⟨q.2, q.1.1⟩) all0 (fun _ => Mark.stay all0) rfl (by rw [hml]; rfl) (lenOf pd_0 rfl) rfl rfl (by show 2 * 0 + _ ≤ _; exact Nat.le_of_eq rfl) (hb hby d_jdk_65_method_54_5) (by decide) (by decide) ?_
  intro T1 h1 v1 L1 X1 q1 K1
  obtain ⟨⟨-, r1, rfl, hr1⟩, -⟩ := q1
  show Goes _ _ _ _ T1 (mkF m 8 #[.val (.ref b), .val (.long q), .second] [(.int r1)])
  refine Goes.outN X1 (fun q => by rw [hret] at q; cases q) hlk (X1.rI hret (hb hby d_jdk_65_method_54_8)) ?_ (by decide) (by decide)
  exact ⟨K1, r1, rfl, hr1⟩
set_option maxRecDepth 65536 in
set_option maxHeartbeats 40000000 in
theorem own_bs_1 (l : Launch) (Z : State) (a0 : Array Value) (hw : ∀ d ∈ tables_1, d.before a0 Z = true) (h0 : Heap) (hO : Ext Z.heap h0) (b : Addr) (kA : ClassId) (q : Int64) (x : Int64) (V : Arv Z h0 b kA .long (1 : Int32) [(.long x)] (.long (0 : Int64)))  :
    CtrN l Z (⟨"java/util/Arrays", "binarySearch", "([JJ)I"⟩ : MethodName) jdk_65_method_54_code 3 (some .int) ({ frames := 1, cells := 0, slots := 0, locals := 21 } : Room) #[(.ref b), (.long q)] h0 (fun v h' => Keep h0 h' [] ∧ ∃ r, v = some (.int r) ∧ ((r < 0 ∧ ¬ (q = x)) ∨ (¬ r < 0 ∧ (q = x)))) := by
  refine CtrN.of (plainFor_of_name pn_0) hO ?_
  intro p e s m below meth c T0 X0 hsh hby hml hret hlk hnm
  refine Goes.cast (ef_own_bs_1 m b q) ?_
  show Goes _ _ _ _ T0 (mkF m 0 #[.val (.ref b), .val (.long q), .second] [])
  refine Goes.go (fun _ k => XS.aloadN X0.here X0.ex rfl (hb hby d_jdk_65_method_54_0) rfl rfl (XS.iconst X0.here X0.ex rfl (hb hby d_jdk_65_method_54_1) (XS.aloadN X0.here X0.ex rfl (hb hby d_jdk_65_method_54_2) rfl rfl k))) ?_
  show Goes _ _ _ _ T0 (mkF m 3 #[.val (.ref b), .val (.long q), .second] [(.ref b), (.int (0 : Int32)), (.ref b)])
  refine Goes.go (X0.alen V rfl rfl (hb hby d_jdk_65_method_54_3)) ?_
  show Goes _ _ _ _ T0 (mkF m 4 #[.val (.ref b), .val (.long q), .second] [(.int (1 : Int32)), (.int (0 : Int32)), (.ref b)])
  refine Goes.go (fun _ k => XS.lloadN X0.here X0.ex rfl (hb hby d_jdk_65_method_54_4) rfl k) ?_
  show Goes _ _ _ _ T0 (mkF m 5 #[.val (.ref b), .val (.long q), .second] [(.long q), (.int (1 : Int32)), (.int (0 : Int32)), (.ref b)])
  refine Wk.static (hm' := fun _ => h0) (y := (⟨"java/util/Arrays", "binarySearch0", "([JIIJ)I"⟩ : MethodName)) (W := 0) (kc := 0) (ks := 0) (argsL := [(.ref b), (.int (0 : Int32)), (.int (1 : Int32)), (.long q)]) (rest := []) (as' := #[(.ref b), (.int (0 : Int32)), (.int (1 : Int32)), (.long q)]) (ws := []) X0 (w_39 hw) (w_40 hw) (w_37 hw) (w_41 hw) (by decide) (CtrN.pays (own_bs0_1 l Z a0 hw h0 X0.old b kA q x V ) (w_41 hw) (w_37 hw) (by decide) (by decide)) (fun v h' L q => ⟨q.2, q.1.1⟩) all0 (fun _ => Mark.stay all0) rfl (by rw [hml]; rfl) (lenOf pd_0 rfl) rfl rfl (by show 2 * 0 + _ ≤ _; exact Nat.le_of_eq rfl) (hb hby d_jdk_65_method_54_5) (by decide) (by decide) ?_
  intro T2 h2 v2 L2 X2 q2 K2
  obtain ⟨⟨-, r2, rfl, hr2⟩, -⟩ := q2
  show Goes _ _ _ _ T2 (mkF m 8 #[.val (.ref b), .val (.long q), .second] [(.int r2)])
  refine Goes.outN X2 (fun q => by rw [hret] at q; cases q) hlk (X2.rI hret (hb hby d_jdk_65_method_54_8)) ?_ (by decide) (by decide)
  exact ⟨K2, r2, rfl, hr2⟩
set_option maxRecDepth 65536 in
set_option maxHeartbeats 40000000 in
theorem own_bs_2 (l : Launch) (Z : State) (a0 : Array Value) (hw : ∀ d ∈ tables_1, d.before a0 Z = true) (h0 : Heap) (hO : Ext Z.heap h0) (b : Addr) (kA : ClassId) (q : Int64) (x : Int64) (y : Int64) (V : Arv Z h0 b kA .long (2 : Int32) [(.long x), (.long y)] (.long (0 : Int64))) (s1 : x < y) :
    CtrN l Z (⟨"java/util/Arrays", "binarySearch", "([JJ)I"⟩ : MethodName) jdk_65_method_54_code 3 (some .int) ({ frames := 1, cells := 0, slots := 0, locals := 21 } : Room) #[(.ref b), (.long q)] h0 (fun v h' => Keep h0 h' [] ∧ ∃ r, v = some (.int r) ∧ ((r < 0 ∧ ¬ (q = x ∨ q = y)) ∨ (¬ r < 0 ∧ (q = x ∨ q = y)))) := by
  refine CtrN.of (plainFor_of_name pn_0) hO ?_
  intro p e s m below meth c T0 X0 hsh hby hml hret hlk hnm
  refine Goes.cast (ef_own_bs_2 m b q) ?_
  show Goes _ _ _ _ T0 (mkF m 0 #[.val (.ref b), .val (.long q), .second] [])
  refine Goes.go (fun _ k => XS.aloadN X0.here X0.ex rfl (hb hby d_jdk_65_method_54_0) rfl rfl (XS.iconst X0.here X0.ex rfl (hb hby d_jdk_65_method_54_1) (XS.aloadN X0.here X0.ex rfl (hb hby d_jdk_65_method_54_2) rfl rfl k))) ?_
  show Goes _ _ _ _ T0 (mkF m 3 #[.val (.ref b), .val (.long q), .second] [(.ref b), (.int (0 : Int32)), (.ref b)])
  refine Goes.go (X0.alen V rfl rfl (hb hby d_jdk_65_method_54_3)) ?_
  show Goes _ _ _ _ T0 (mkF m 4 #[.val (.ref b), .val (.long q), .second] [(.int (2 : Int32)), (.int (0 : Int32)), (.ref b)])
  refine Goes.go (fun _ k => XS.lloadN X0.here X0.ex rfl (hb hby d_jdk_65_method_54_4) rfl k) ?_
  show Goes _ _ _ _ T0 (mkF m 5 #[.val (.ref b), .val (.long q), .second] [(.long q), (.int (2 : Int32)), (.int (0 : Int32)), (.ref b)])
  refine Wk.static (hm' := fun _ => h0) (y := (⟨"java/util/Arrays", "binarySearch0", "([JIIJ)I"⟩ : MethodName)) (W := 0) (kc := 0) (ks := 0) (argsL := [(.ref b), (.int (0 : Int32)), (.int (2 : Int32)), (.long q)]) (rest := []) (as' := #[(.ref b), (.int (0 : Int32)), (.int (2 : Int32)), (.long q)]) (ws := []) X0 (w_39 hw) (w_40 hw) (w_37 hw) (w_41 hw) (by decide) (CtrN.pays (own_bs0_2 l Z a0 hw h0 X0.old b kA q x y V s1) (w_41 hw) (w_37 hw) (by decide) (by decide)) (fun v h' L q => ⟨q.2, q.1.1⟩) all0 (fun _ => Mark.stay all0) rfl (by rw [hml]; rfl) (lenOf pd_0 rfl) rfl rfl (by show 2 * 0 + _ ≤ _; exact Nat.le_of_eq rfl) (hb hby d_jdk_65_method_54_5) (by decide) (by decide) ?_
  intro T3 h3 v3 L3 X3 q3 K3
  obtain ⟨⟨-, r3, rfl, hr3⟩, -⟩ := q3
  show Goes _ _ _ _ T3 (mkF m 8 #[.val (.ref b), .val (.long q), .second] [(.int r3)])
  refine Goes.outN X3 (fun q => by rw [hret] at q; cases q) hlk (X3.rI hret (hb hby d_jdk_65_method_54_8)) ?_ (by decide) (by decide)
  exact ⟨K3, r3, rfl, hr3⟩
set_option maxRecDepth 65536 in
set_option maxHeartbeats 40000000 in
theorem own_ct_0 (l : Launch) (Z : State) (a0 : Array Value) (hw : ∀ d ∈ tables_1, d.before a0 Z = true) (h0 : Heap) (hO : Ext Z.heap h0) (o : Addr) (fi : Int64) (la : Int64) (b : Addr) (kA : ClassId) (q : Int64) (Ff : Fld Z h0 o "com/example/assent/assent/log/CrashSet" "first" "J" (.long fi)) (Fl : Fld Z h0 o "com/example/assent/assent/log/CrashSet" "last" "J" (.long la)) (Fc : Fld Z h0 o "com/example/assent/assent/log/CrashSet" "committed" "[J" (.ref b)) (V : Arv Z h0 b kA .long (0 : Int32) [] (.long (0 : Int64)))  :
    CtrN l Z (⟨"com/example/assent/assent/log/CrashSet", "contains", "(J)Z"⟩ : MethodName) prog_16_method_7_code 3 (some .boolean) ({ frames := 2, cells := 0, slots := 0, locals := 35 } : Room) #[(.ref o), (.long q)] h0 (fun v h' => Keep h0 h' [] ∧ ((v = some (.int (1 : Int32)) ∧ (¬ q < fi ∧ ¬ la < q ∧ ¬ False)) ∨ (v = some (.int (0 : Int32)) ∧ ¬ (¬ q < fi ∧ ¬ la < q ∧ ¬ False)))) := by
  refine CtrN.of (plainFor_of_name pn_1) hO ?_
  intro p e s m below meth c T0 X0 hsh hby hml hret hlk hnm
  refine Goes.cast (ef_own_ct_0 m o q) ?_
  show Goes _ _ _ _ T0 (mkF m 0 #[.val (.ref o), .val (.long q), .second] [])
  refine Goes.go (fun _ k => XS.lloadN X0.here X0.ex rfl (hb hby d_prog_16_method_7_0) rfl (XS.aloadN X0.here X0.ex rfl (hb hby d_prog_16_method_7_1) rfl rfl k)) ?_
  show Goes _ _ _ _ T0 (mkF m 2 #[.val (.ref o), .val (.long q), .second] [(.ref o), (.long q)])
  refine Wk.getF X0 (host := "") (Or.inl (w_15 hw)) Via.refl Ff rfl rfl (hb hby d_prog_16_method_7_2) ?_
  intro T4 X4
  show Goes _ _ _ _ T4 (mkF m 5 #[.val (.ref o), .val (.long q), .second] [(.long fi), (.long q)])
  refine Goes.go (fun _ k => XS.lcmp X4.here X4.ex rfl (hb hby d_prog_16_method_7_5) rfl k) ?_
  show Goes _ _ _ _ T4 (mkF m 6 #[.val (.ref o), .val (.long q), .second] [(.int (lcmpW q fi))])
  refine Goes.ifc (pc' := 33) X4.here X4.ex (hb hby d_prog_16_method_7_6) (by decide) (by decide) (fun h1 => ?_) (fun h1 => ?_)
  · have h1 : (lcmpW q fi) < (0 : Int32) := h1
    show Goes _ _ _ _ T4 (mkF m 33 #[.val (.ref o), .val (.long q), .second] [])
    rw [lw_lt] at h1
    refine Goes.go (fun _ k => XS.iconst X4.here X4.ex rfl (hb hby d_prog_16_method_7_33) k) ?_
    show Goes _ _ _ _ T4 (mkF m 34 #[.val (.ref o), .val (.long q), .second] [(.int (0 : Int32))])
    refine Goes.outN X4 (fun q => by rw [hret] at q; cases q) hlk (X4.rB hret (by simp) (hb hby d_prog_16_method_7_34)) ?_ (by decide) (by decide)
    exact ⟨Ext.oKeepOf X4.ext [], Or.inr ⟨rfl, fun z => z.1 h1⟩⟩
  · have h1 : ¬ ((lcmpW q fi) < (0 : Int32)) := h1
    show Goes _ _ _ _ T4 (mkF m 9 #[.val (.ref o), .val (.long q), .second] [])
    rw [lw_lt] at h1
    refine Goes.go (fun _ k => XS.lloadN X4.here X4.ex rfl (hb hby d_prog_16_method_7_9) rfl (XS.aloadN X4.here X4.ex rfl (hb hby d_prog_16_method_7_10) rfl rfl k)) ?_
    show Goes _ _ _ _ T4 (mkF m 11 #[.val (.ref o), .val (.long q), .second] [(.ref o), (.long q)])
    refine Wk.getF X4 (host := "") (Or.inl (w_17 hw)) Via.refl Fl rfl rfl (hb hby d_prog_16_method_7_11) ?_
    intro T5 X5
    show Goes _ _ _ _ T5 (mkF m 14 #[.val (.ref o), .val (.long q), .second] [(.long la), (.long q)])
    refine Goes.go (fun _ k => XS.lcmp X5.here X5.ex rfl (hb hby d_prog_16_method_7_14) rfl k) ?_
    show Goes _ _ _ _ T5 (mkF m 15 #[.val (.ref o), .val (.long q), .second] [(.int (lcmpW q la))])
    refine Goes.ifc (pc' := 33) X5.here X5.ex (hb hby d_prog_16_method_7_15) (by decide) (by decide) (fun h2 => ?_) (fun h2 => ?_)
    · have h2 : (0 : Int32) < (lcmpW q la) := h2
      show Goes _ _ _ _ T5 (mkF m 33 #[.val (.ref o), .val (.long q), .second] [])
      rw [lw_gt] at h2
      refine Goes.go (fun _ k => XS.iconst X5.here X5.ex rfl (hb hby d_prog_16_method_7_33) k) ?_
      show Goes _ _ _ _ T5 (mkF m 34 #[.val (.ref o), .val (.long q), .second] [(.int (0 : Int32))])
      refine Goes.outN X5 (fun q => by rw [hret] at q; cases q) hlk (X5.rB hret (by simp) (hb hby d_prog_16_method_7_34)) ?_ (by decide) (by decide)
      exact ⟨Ext.oKeepOf X5.ext [], Or.inr ⟨rfl, fun z => z.2.1 h2⟩⟩
    · have h2 : ¬ ((0 : Int32) < (lcmpW q la)) := h2
      show Goes _ _ _ _ T5 (mkF m 18 #[.val (.ref o), .val (.long q), .second] [])
      rw [lw_gt] at h2
      refine Goes.go (fun _ k => XS.aloadN X5.here X5.ex rfl (hb hby d_prog_16_method_7_18) rfl rfl k) ?_
      show Goes _ _ _ _ T5 (mkF m 19 #[.val (.ref o), .val (.long q), .second] [(.ref o)])
      refine Wk.getF X5 (host := "") (Or.inl (w_28 hw)) Via.refl Fc rfl rfl (hb hby d_prog_16_method_7_19) ?_
      intro T6 X6
      show Goes _ _ _ _ T6 (mkF m 22 #[.val (.ref o), .val (.long q), .second] [(.ref b)])
      refine Goes.go (fun _ k => XS.lloadN X6.here X6.ex rfl (hb hby d_prog_16_method_7_22) rfl k) ?_
      show Goes _ _ _ _ T6 (mkF m 23 #[.val (.ref o), .val (.long q), .second] [(.long q), (.ref b)])
      refine Wk.static (hm' := fun _ => h0) (y := (⟨"java/util/Arrays", "binarySearch", "([JJ)I"⟩ : MethodName)) (W := 0) (kc := 0) (ks := 0) (argsL := [(.ref b), (.long q)]) (rest := []) (as' := #[(.ref b), (.long q)]) (ws := []) X6 (w_35 hw) (w_36 hw) (w_37 hw) (w_38 hw) (by decide) (CtrN.pays (own_bs_0 l Z a0 hw h0 X6.old b kA q  V ) (w_38 hw) (w_37 hw) (by decide) (by decide)) (fun v h' L q => ⟨q.2, q.1.1⟩) all0 (fun _ => Mark.stay all0) rfl (by rw [hml]; rfl) (lenOf pd_1 rfl) rfl rfl (by show 2 * 0 + _ ≤ _; exact Nat.le_of_eq rfl) (hb hby d_prog_16_method_7_23) (by decide) (by decide) ?_
      intro T7 h7 v7 L7 X7 q7 K7
      obtain ⟨⟨-, r7, rfl, hr7⟩, -⟩ := q7
      show Goes _ _ _ _ T7 (mkF m 26 #[.val (.ref o), .val (.long q), .second] [(.int r7)])
      refine Goes.ifc (pc' := 33) X7.here X7.ex (hb hby d_prog_16_method_7_26) (by decide) (by decide) (fun hc26 => ?_) (fun hc26 => ?_)
      · have hc26 : ¬ (r7 < (0 : Int32)) := hc26
        show Goes _ _ _ _ T7 (mkF m 33 #[.val (.ref o), .val (.long q), .second] [])
        refine Goes.go (fun _ k => XS.iconst X7.here X7.ex rfl (hb hby d_prog_16_method_7_33) k) ?_
        show Goes _ _ _ _ T7 (mkF m 34 #[.val (.ref o), .val (.long q), .second] [(.int (0 : Int32))])
        refine Goes.outN X7 (fun q => by rw [hret] at q; cases q) hlk (X7.rB hret (by simp) (hb hby d_prog_16_method_7_34)) ?_ (by decide) (by decide)
        exact ⟨K7, Or.inr ⟨rfl, fun q => (hr7.elim (fun z => hc26 z.1) (fun z => q.2.2 z.2))⟩⟩
      · have hc26 : r7 < (0 : Int32) := Classical.not_not.mp hc26
        show Goes _ _ _ _ T7 (mkF m 29 #[.val (.ref o), .val (.long q), .second] [])
        refine Goes.go (fun _ k => XS.iconst X7.here X7.ex rfl (hb hby d_prog_16_method_7_29) (XS.goto X7.here X7.ex rfl (pc0 := 30) (pc' := 34) rfl (hb hby d_prog_16_method_7_30) (by decide) (by decide) k)) ?_
        show Goes _ _ _ _ T7 (mkF m 34 #[.val (.ref o), .val (.long q), .second] [(.int (1 : Int32))])
        refine Goes.outN X7 (fun q => by rw [hret] at q; cases q) hlk (X7.rB hret (by simp) (hb hby d_prog_16_method_7_34)) ?_ (by decide) (by decide)
        exact ⟨K7, Or.inl ⟨rfl, h1, h2, (hr7.elim (fun z => z.2) (fun z => absurd hc26 z.1))⟩⟩
set_option maxRecDepth 65536 in
set_option maxHeartbeats 40000000 in
theorem own_ct_1 (l : Launch) (Z : State) (a0 : Array Value) (hw : ∀ d ∈ tables_1, d.before a0 Z = true) (h0 : Heap) (hO : Ext Z.heap h0) (o : Addr) (fi : Int64) (la : Int64) (b : Addr) (kA : ClassId) (q : Int64) (x : Int64) (Ff : Fld Z h0 o "com/example/assent/assent/log/CrashSet" "first" "J" (.long fi)) (Fl : Fld Z h0 o "com/example/assent/assent/log/CrashSet" "last" "J" (.long la)) (Fc : Fld Z h0 o "com/example/assent/assent/log/CrashSet" "committed" "[J" (.ref b)) (V : Arv Z h0 b kA .long (1 : Int32) [(.long x)] (.long (0 : Int64)))  :
    CtrN l Z (⟨"com/example/assent/assent/log/CrashSet", "contains", "(J)Z"⟩ : MethodName) prog_16_method_7_code 3 (some .boolean) ({ frames := 2, cells := 0, slots := 0, locals := 35 } : Room) #[(.ref o), (.long q)] h0 (fun v h' => Keep h0 h' [] ∧ ((v = some (.int (1 : Int32)) ∧ (¬ q < fi ∧ ¬ la < q ∧ ¬ (q = x))) ∨ (v = some (.int (0 : Int32)) ∧ ¬ (¬ q < fi ∧ ¬ la < q ∧ ¬ (q = x))))) := by
  refine CtrN.of (plainFor_of_name pn_1) hO ?_
  intro p e s m below meth c T0 X0 hsh hby hml hret hlk hnm
  refine Goes.cast (ef_own_ct_1 m o q) ?_
  show Goes _ _ _ _ T0 (mkF m 0 #[.val (.ref o), .val (.long q), .second] [])
  refine Goes.go (fun _ k => XS.lloadN X0.here X0.ex rfl (hb hby d_prog_16_method_7_0) rfl (XS.aloadN X0.here X0.ex rfl (hb hby d_prog_16_method_7_1) rfl rfl k)) ?_
  show Goes _ _ _ _ T0 (mkF m 2 #[.val (.ref o), .val (.long q), .second] [(.ref o), (.long q)])
  refine Wk.getF X0 (host := "") (Or.inl (w_15 hw)) Via.refl Ff rfl rfl (hb hby d_prog_16_method_7_2) ?_
  intro T8 X8
  show Goes _ _ _ _ T8 (mkF m 5 #[.val (.ref o), .val (.long q), .second] [(.long fi), (.long q)])
  refine Goes.go (fun _ k => XS.lcmp X8.here X8.ex rfl (hb hby d_prog_16_method_7_5) rfl k) ?_
  show Goes _ _ _ _ T8 (mkF m 6 #[.val (.ref o), .val (.long q), .second] [(.int (lcmpW q fi))])
  refine Goes.ifc (pc' := 33) X8.here X8.ex (hb hby d_prog_16_method_7_6) (by decide) (by decide) (fun h1 => ?_) (fun h1 => ?_)
  · have h1 : (lcmpW q fi) < (0 : Int32) := h1
    show Goes _ _ _ _ T8 (mkF m 33 #[.val (.ref o), .val (.long q), .second] [])
    rw [lw_lt] at h1
    refine Goes.go (fun _ k => XS.iconst X8.here X8.ex rfl (hb hby d_prog_16_method_7_33) k) ?_
    show Goes _ _ _ _ T8 (mkF m 34 #[.val (.ref o), .val (.long q), .second] [(.int (0 : Int32))])
    refine Goes.outN X8 (fun q => by rw [hret] at q; cases q) hlk (X8.rB hret (by simp) (hb hby d_prog_16_method_7_34)) ?_ (by decide) (by decide)
    exact ⟨Ext.oKeepOf X8.ext [], Or.inr ⟨rfl, fun z => z.1 h1⟩⟩
  · have h1 : ¬ ((lcmpW q fi) < (0 : Int32)) := h1
    show Goes _ _ _ _ T8 (mkF m 9 #[.val (.ref o), .val (.long q), .second] [])
    rw [lw_lt] at h1
    refine Goes.go (fun _ k => XS.lloadN X8.here X8.ex rfl (hb hby d_prog_16_method_7_9) rfl (XS.aloadN X8.here X8.ex rfl (hb hby d_prog_16_method_7_10) rfl rfl k)) ?_
    show Goes _ _ _ _ T8 (mkF m 11 #[.val (.ref o), .val (.long q), .second] [(.ref o), (.long q)])
    refine Wk.getF X8 (host := "") (Or.inl (w_17 hw)) Via.refl Fl rfl rfl (hb hby d_prog_16_method_7_11) ?_
    intro T9 X9
    show Goes _ _ _ _ T9 (mkF m 14 #[.val (.ref o), .val (.long q), .second] [(.long la), (.long q)])
    refine Goes.go (fun _ k => XS.lcmp X9.here X9.ex rfl (hb hby d_prog_16_method_7_14) rfl k) ?_
    show Goes _ _ _ _ T9 (mkF m 15 #[.val (.ref o), .val (.long q), .second] [(.int (lcmpW q la))])
    refine Goes.ifc (pc' := 33) X9.here X9.ex (hb hby d_prog_16_method_7_15) (by decide) (by decide) (fun h2 => ?_) (fun h2 => ?_)
    · have h2 : (0 : Int32) < (lcmpW q la) := h2
      show Goes _ _ _ _ T9 (mkF m 33 #[.val (.ref o), .val (.long q), .second] [])
      rw [lw_gt] at h2
      refine Goes.go (fun _ k => XS.iconst X9.here X9.ex rfl (hb hby d_prog_16_method_7_33) k) ?_
      show Goes _ _ _ _ T9 (mkF m 34 #[.val (.ref o), .val (.long q), .second] [(.int (0 : Int32))])
      refine Goes.outN X9 (fun q => by rw [hret] at q; cases q) hlk (X9.rB hret (by simp) (hb hby d_prog_16_method_7_34)) ?_ (by decide) (by decide)
      exact ⟨Ext.oKeepOf X9.ext [], Or.inr ⟨rfl, fun z => z.2.1 h2⟩⟩
    · have h2 : ¬ ((0 : Int32) < (lcmpW q la)) := h2
      show Goes _ _ _ _ T9 (mkF m 18 #[.val (.ref o), .val (.long q), .second] [])
      rw [lw_gt] at h2
      refine Goes.go (fun _ k => XS.aloadN X9.here X9.ex rfl (hb hby d_prog_16_method_7_18) rfl rfl k) ?_
      show Goes _ _ _ _ T9 (mkF m 19 #[.val (.ref o), .val (.long q), .second] [(.ref o)])
      refine Wk.getF X9 (host := "") (Or.inl (w_28 hw)) Via.refl Fc rfl rfl (hb hby d_prog_16_method_7_19) ?_
      intro T10 X10
      show Goes _ _ _ _ T10 (mkF m 22 #[.val (.ref o), .val (.long q), .second] [(.ref b)])
      refine Goes.go (fun _ k => XS.lloadN X10.here X10.ex rfl (hb hby d_prog_16_method_7_22) rfl k) ?_
      show Goes _ _ _ _ T10 (mkF m 23 #[.val (.ref o), .val (.long q), .second] [(.long q), (.ref b)])
      refine Wk.static (hm' := fun _ => h0) (y := (⟨"java/util/Arrays", "binarySearch", "([JJ)I"⟩ : MethodName)) (W := 0) (kc := 0) (ks := 0) (argsL := [(.ref b), (.long q)]) (rest := []) (as' := #[(.ref b), (.long q)]) (ws := []) X10 (w_35 hw) (w_36 hw) (w_37 hw) (w_38 hw) (by decide) (CtrN.pays (own_bs_1 l Z a0 hw h0 X10.old b kA q x V ) (w_38 hw) (w_37 hw) (by decide) (by decide)) (fun v h' L q => ⟨q.2, q.1.1⟩) all0 (fun _ => Mark.stay all0) rfl (by rw [hml]; rfl) (lenOf pd_1 rfl) rfl rfl (by show 2 * 0 + _ ≤ _; exact Nat.le_of_eq rfl) (hb hby d_prog_16_method_7_23) (by decide) (by decide) ?_
      intro T11 h11 v11 L11 X11 q11 K11
      obtain ⟨⟨-, r11, rfl, hr11⟩, -⟩ := q11
      show Goes _ _ _ _ T11 (mkF m 26 #[.val (.ref o), .val (.long q), .second] [(.int r11)])
      refine Goes.ifc (pc' := 33) X11.here X11.ex (hb hby d_prog_16_method_7_26) (by decide) (by decide) (fun hc26 => ?_) (fun hc26 => ?_)
      · have hc26 : ¬ (r11 < (0 : Int32)) := hc26
        show Goes _ _ _ _ T11 (mkF m 33 #[.val (.ref o), .val (.long q), .second] [])
        refine Goes.go (fun _ k => XS.iconst X11.here X11.ex rfl (hb hby d_prog_16_method_7_33) k) ?_
        show Goes _ _ _ _ T11 (mkF m 34 #[.val (.ref o), .val (.long q), .second] [(.int (0 : Int32))])
        refine Goes.outN X11 (fun q => by rw [hret] at q; cases q) hlk (X11.rB hret (by simp) (hb hby d_prog_16_method_7_34)) ?_ (by decide) (by decide)
        exact ⟨K11, Or.inr ⟨rfl, fun q => (hr11.elim (fun z => hc26 z.1) (fun z => q.2.2 z.2))⟩⟩
      · have hc26 : r11 < (0 : Int32) := Classical.not_not.mp hc26
        show Goes _ _ _ _ T11 (mkF m 29 #[.val (.ref o), .val (.long q), .second] [])
        refine Goes.go (fun _ k => XS.iconst X11.here X11.ex rfl (hb hby d_prog_16_method_7_29) (XS.goto X11.here X11.ex rfl (pc0 := 30) (pc' := 34) rfl (hb hby d_prog_16_method_7_30) (by decide) (by decide) k)) ?_
        show Goes _ _ _ _ T11 (mkF m 34 #[.val (.ref o), .val (.long q), .second] [(.int (1 : Int32))])
        refine Goes.outN X11 (fun q => by rw [hret] at q; cases q) hlk (X11.rB hret (by simp) (hb hby d_prog_16_method_7_34)) ?_ (by decide) (by decide)
        exact ⟨K11, Or.inl ⟨rfl, h1, h2, (hr11.elim (fun z => z.2) (fun z => absurd hc26 z.1))⟩⟩
set_option maxRecDepth 65536 in
set_option maxHeartbeats 40000000 in
theorem own_ct_2 (l : Launch) (Z : State) (a0 : Array Value) (hw : ∀ d ∈ tables_1, d.before a0 Z = true) (h0 : Heap) (hO : Ext Z.heap h0) (o : Addr) (fi : Int64) (la : Int64) (b : Addr) (kA : ClassId) (q : Int64) (x : Int64) (y : Int64) (Ff : Fld Z h0 o "com/example/assent/assent/log/CrashSet" "first" "J" (.long fi)) (Fl : Fld Z h0 o "com/example/assent/assent/log/CrashSet" "last" "J" (.long la)) (Fc : Fld Z h0 o "com/example/assent/assent/log/CrashSet" "committed" "[J" (.ref b)) (V : Arv Z h0 b kA .long (2 : Int32) [(.long x), (.long y)] (.long (0 : Int64))) (s1 : x < y) :
    CtrN l Z (⟨"com/example/assent/assent/log/CrashSet", "contains", "(J)Z"⟩ : MethodName) prog_16_method_7_code 3 (some .boolean) ({ frames := 2, cells := 0, slots := 0, locals := 35 } : Room) #[(.ref o), (.long q)] h0 (fun v h' => Keep h0 h' [] ∧ ((v = some (.int (1 : Int32)) ∧ (¬ q < fi ∧ ¬ la < q ∧ ¬ (q = x ∨ q = y))) ∨ (v = some (.int (0 : Int32)) ∧ ¬ (¬ q < fi ∧ ¬ la < q ∧ ¬ (q = x ∨ q = y))))) := by
  refine CtrN.of (plainFor_of_name pn_1) hO ?_
  intro p e s m below meth c T0 X0 hsh hby hml hret hlk hnm
  refine Goes.cast (ef_own_ct_2 m o q) ?_
  show Goes _ _ _ _ T0 (mkF m 0 #[.val (.ref o), .val (.long q), .second] [])
  refine Goes.go (fun _ k => XS.lloadN X0.here X0.ex rfl (hb hby d_prog_16_method_7_0) rfl (XS.aloadN X0.here X0.ex rfl (hb hby d_prog_16_method_7_1) rfl rfl k)) ?_
  show Goes _ _ _ _ T0 (mkF m 2 #[.val (.ref o), .val (.long q), .second] [(.ref o), (.long q)])
  refine Wk.getF X0 (host := "") (Or.inl (w_15 hw)) Via.refl Ff rfl rfl (hb hby d_prog_16_method_7_2) ?_
  intro T12 X12
  show Goes _ _ _ _ T12 (mkF m 5 #[.val (.ref o), .val (.long q), .second] [(.long fi), (.long q)])
  refine Goes.go (fun _ k => XS.lcmp X12.here X12.ex rfl (hb hby d_prog_16_method_7_5) rfl k) ?_
  show Goes _ _ _ _ T12 (mkF m 6 #[.val (.ref o), .val (.long q), .second] [(.int (lcmpW q fi))])
  refine Goes.ifc (pc' := 33) X12.here X12.ex (hb hby d_prog_16_method_7_6) (by decide) (by decide) (fun h1 => ?_) (fun h1 => ?_)
  · have h1 : (lcmpW q fi) < (0 : Int32) := h1
    show Goes _ _ _ _ T12 (mkF m 33 #[.val (.ref o), .val (.long q), .second] [])
    rw [lw_lt] at h1
    refine Goes.go (fun _ k => XS.iconst X12.here X12.ex rfl (hb hby d_prog_16_method_7_33) k) ?_
    show Goes _ _ _ _ T12 (mkF m 34 #[.val (.ref o), .val (.long q), .second] [(.int (0 : Int32))])
    refine Goes.outN X12 (fun q => by rw [hret] at q; cases q) hlk (X12.rB hret (by simp) (hb hby d_prog_16_method_7_34)) ?_ (by decide) (by decide)
    exact ⟨Ext.oKeepOf X12.ext [], Or.inr ⟨rfl, fun z => z.1 h1⟩⟩
  · have h1 : ¬ ((lcmpW q fi) < (0 : Int32)) := h1
    show Goes _ _ _ _ T12 (mkF m 9 #[.val (.ref o), .val (.long q), .second] [])
    rw [lw_lt] at h1
    refine Goes.go (fun _ k => XS.lloadN X12.here X12.ex rfl (hb hby d_prog_16_method_7_9) rfl (XS.aloadN X12.here X12.ex rfl (hb hby d_prog_16_method_7_10) rfl rfl k)) ?_
    show Goes _ _ _ _ T12 (mkF m 11 #[.val (.ref o), .val (.long q), .second] [(.ref o), (.long q)])
    refine Wk.getF X12 (host := "") (Or.inl (w_17 hw)) Via.refl Fl rfl rfl (hb hby d_prog_16_method_7_11) ?_
    intro T13 X13
    show Goes _ _ _ _ T13 (mkF m 14 #[.val (.ref o), .val (.long q), .second] [(.long la), (.long q)])
    refine Goes.go (fun _ k => XS.lcmp X13.here X13.ex rfl (hb hby d_prog_16_method_7_14) rfl k) ?_
    show Goes _ _ _ _ T13 (mkF m 15 #[.val (.ref o), .val (.long q), .second] [(.int (lcmpW q la))])
    refine Goes.ifc (pc' := 33) X13.here X13.ex (hb hby d_prog_16_method_7_15) (by decide) (by decide) (fun h2 => ?_) (fun h2 => ?_)
    · have h2 : (0 : Int32) < (lcmpW q la) := h2
      show Goes _ _ _ _ T13 (mkF m 33 #[.val (.ref o), .val (.long q), .second] [])
      rw [lw_gt] at h2
      refine Goes.go (fun _ k => XS.iconst X13.here X13.ex rfl (hb hby d_prog_16_method_7_33) k) ?_
      show Goes _ _ _ _ T13 (mkF m 34 #[.val (.ref o), .val (.long q), .second] [(.int (0 : Int32))])
      refine Goes.outN X13 (fun q => by rw [hret] at q; cases q) hlk (X13.rB hret (by simp) (hb hby d_prog_16_method_7_34)) ?_ (by decide) (by decide)
      exact ⟨Ext.oKeepOf X13.ext [], Or.inr ⟨rfl, fun z => z.2.1 h2⟩⟩
    · have h2 : ¬ ((0 : Int32) < (lcmpW q la)) := h2
      show Goes _ _ _ _ T13 (mkF m 18 #[.val (.ref o), .val (.long q), .second] [])
      rw [lw_gt] at h2
      refine Goes.go (fun _ k => XS.aloadN X13.here X13.ex rfl (hb hby d_prog_16_method_7_18) rfl rfl k) ?_
      show Goes _ _ _ _ T13 (mkF m 19 #[.val (.ref o), .val (.long q), .second] [(.ref o)])
      refine Wk.getF X13 (host := "") (Or.inl (w_28 hw)) Via.refl Fc rfl rfl (hb hby d_prog_16_method_7_19) ?_
      intro T14 X14
      show Goes _ _ _ _ T14 (mkF m 22 #[.val (.ref o), .val (.long q), .second] [(.ref b)])
      refine Goes.go (fun _ k => XS.lloadN X14.here X14.ex rfl (hb hby d_prog_16_method_7_22) rfl k) ?_
      show Goes _ _ _ _ T14 (mkF m 23 #[.val (.ref o), .val (.long q), .second] [(.long q), (.ref b)])
      refine Wk.static (hm' := fun _ => h0) (y := (⟨"java/util/Arrays", "binarySearch", "([JJ)I"⟩ : MethodName)) (W := 0) (kc := 0) (ks := 0) (argsL := [(.ref b), (.long q)]) (rest := []) (as' := #[(.ref b), (.long q)]) (ws := []) X14 (w_35 hw) (w_36 hw) (w_37 hw) (w_38 hw) (by decide) (CtrN.pays (own_bs_2 l Z a0 hw h0 X14.old b kA q x y V s1) (w_38 hw) (w_37 hw) (by decide) (by decide)) (fun v h' L q => ⟨q.2, q.1.1⟩) all0 (fun _ => Mark.stay all0) rfl (by rw [hml]; rfl) (lenOf pd_1 rfl) rfl rfl (by show 2 * 0 + _ ≤ _; exact Nat.le_of_eq rfl) (hb hby d_prog_16_method_7_23) (by decide) (by decide) ?_
      intro T15 h15 v15 L15 X15 q15 K15
      obtain ⟨⟨-, r15, rfl, hr15⟩, -⟩ := q15
      show Goes _ _ _ _ T15 (mkF m 26 #[.val (.ref o), .val (.long q), .second] [(.int r15)])
      refine Goes.ifc (pc' := 33) X15.here X15.ex (hb hby d_prog_16_method_7_26) (by decide) (by decide) (fun hc26 => ?_) (fun hc26 => ?_)
      · have hc26 : ¬ (r15 < (0 : Int32)) := hc26
        show Goes _ _ _ _ T15 (mkF m 33 #[.val (.ref o), .val (.long q), .second] [])
        refine Goes.go (fun _ k => XS.iconst X15.here X15.ex rfl (hb hby d_prog_16_method_7_33) k) ?_
        show Goes _ _ _ _ T15 (mkF m 34 #[.val (.ref o), .val (.long q), .second] [(.int (0 : Int32))])
        refine Goes.outN X15 (fun q => by rw [hret] at q; cases q) hlk (X15.rB hret (by simp) (hb hby d_prog_16_method_7_34)) ?_ (by decide) (by decide)
        exact ⟨K15, Or.inr ⟨rfl, fun q => (hr15.elim (fun z => hc26 z.1) (fun z => q.2.2 z.2))⟩⟩
      · have hc26 : r15 < (0 : Int32) := Classical.not_not.mp hc26
        show Goes _ _ _ _ T15 (mkF m 29 #[.val (.ref o), .val (.long q), .second] [])
        refine Goes.go (fun _ k => XS.iconst X15.here X15.ex rfl (hb hby d_prog_16_method_7_29) (XS.goto X15.here X15.ex rfl (pc0 := 30) (pc' := 34) rfl (hb hby d_prog_16_method_7_30) (by decide) (by decide) k)) ?_
        show Goes _ _ _ _ T15 (mkF m 34 #[.val (.ref o), .val (.long q), .second] [(.int (1 : Int32))])
        refine Goes.outN X15 (fun q => by rw [hret] at q; cases q) hlk (X15.rB hret (by simp) (hb hby d_prog_16_method_7_34)) ?_ (by decide) (by decide)
        exact ⟨K15, Or.inl ⟨rfl, h1, h2, (hr15.elim (fun z => z.2) (fun z => absurd hc26 z.1))⟩⟩
set_option maxRecDepth 65536 in
set_option maxHeartbeats 40000000 in
theorem own_max (l : Launch) (Z : State) (a0 : Array Value) (hw : ∀ d ∈ tables_1, d.before a0 Z = true) (h0 : Heap) (hO : Ext Z.heap h0) (u : Int64) (v : Int64)  :
    CtrN l Z (⟨"java/lang/Math", "max", "(JJ)J"⟩ : MethodName) jdk_29_method_66_code 4 (some .long) ({ frames := 0, cells := 0, slots := 0, locals := 0 } : Room) #[(.long u), (.long v)] h0 (fun vv h' => Keep h0 h' [] ∧ vv = some (.long (if (lcmpW u v) < (0 : Int32) then v else u))) := by
  refine CtrN.of (by decide +kernel) hO ?_
  intro p e s m below meth c T0 X0 hsh hby hml hret hlk hnm
  refine Goes.cast (ef_own_max m u v) ?_
  show Goes _ _ _ _ T0 (mkF m 0 #[.val (.long u), .second, .val (.long v), .second] [])
  refine Goes.go (fun _ k => XS.lloadN X0.here X0.ex rfl (hb hby d_jdk_29_method_66_0) rfl (XS.lloadN X0.here X0.ex rfl (hb hby d_jdk_29_method_66_1) rfl (XS.lcmp X0.here X0.ex rfl (hb hby d_jdk_29_method_66_2) rfl k))) ?_
  show Goes _ _ _ _ T0 (mkF m 3 #[.val (.long u), .second, .val (.long v), .second] [(.int (lcmpW u v))])
  suffices hJ3 : Goes p.tables e below (EndN Z s (({ frames := 0, cells := 0, slots := 0, locals := 0 } : Room)).cells (({ frames := 0, cells := 0, slots := 0, locals := 0 } : Room)).slots (fun vv h' => Keep h0 h' [] ∧ vv = some (.long (if (lcmpW u v) < (0 : Int32) then v else u)))) T0 (mkF m 11 #[.val (.long u), .second, .val (.long v), .second] [(.long (if (lcmpW u v) < (0 : Int32) then v else u))]) by
    refine Goes.ifc (pc' := 10) X0.here X0.ex (hb hby d_jdk_29_method_66_3) (by decide) (by decide) (fun hr1 => ?_) (fun hr1 => ?_)
    · have hr1 : (lcmpW u v) < (0 : Int32) := hr1
      show Goes _ _ _ _ T0 (mkF m 10 #[.val (.long u), .second, .val (.long v), .second] [])
      refine Goes.go (fun _ k => XS.lloadN X0.here X0.ex rfl (hb hby d_jdk_29_method_66_10) rfl k) ?_
      show Goes _ _ _ _ T0 (mkF m 11 #[.val (.long u), .second, .val (.long v), .second] [(.long v)])
      (try simp only [if_pos hr1] at hJ3 ⊢)
      exact hJ3
    · have hr1 : ¬ ((lcmpW u v) < (0 : Int32)) := hr1
      show Goes _ _ _ _ T0 (mkF m 6 #[.val (.long u), .second, .val (.long v), .second] [])
      refine Goes.go (fun _ k => XS.lloadN X0.here X0.ex rfl (hb hby d_jdk_29_method_66_6) rfl (XS.goto X0.here X0.ex rfl (pc0 := 7) (pc' := 11) rfl (hb hby d_jdk_29_method_66_7) (by decide) (by decide) k)) ?_
      show Goes _ _ _ _ T0 (mkF m 11 #[.val (.long u), .second, .val (.long v), .second] [(.long u)])
      (try simp only [if_neg hr1] at hJ3 ⊢)
      exact hJ3
  refine Goes.outN X0 (fun q => by rw [hret] at q; cases q) hlk (X0.rJ hret (hb hby d_jdk_29_method_66_11)) ?_ (by decide) (by decide)
  exact ⟨Ext.oKeepOf X0.ext [], rfl⟩
set_option maxRecDepth 65536 in
set_option maxHeartbeats 40000000 in
theorem own_ini_0 (l : Launch) (Z : State) (a0 : Array Value) (hw : ∀ d ∈ tables_1, d.before a0 Z = true) (h0 : Heap) (hO : Ext Z.heap h0) (o : Addr) (fi : Int64) (la : Int64) (b : Addr) (kA : ClassId) (E_o : Exa Z h0 o "com/example/assent/assent/log/CrashSet") (F_o_first : Fld Z h0 o "com/example/assent/assent/log/CrashSet" "first" "J" (.long (0 : Int64))) (F_o_last : Fld Z h0 o "com/example/assent/assent/log/CrashSet" "last" "J" (.long (0 : Int64))) (F_o_committed : Fld Z h0 o "com/example/assent/assent/log/CrashSet" "committed" "[J" .null) (gz_o : Z.heap.size ≤ o) (V : Arv Z h0 b kA .long (0 : Int32) [] (.long (0 : Int64))) (B : Exa Z h0 b "[J") (pa : ¬ fi < 1) (pb : ¬ la < fi)  (pw : ¬ (la - fi) < (0 : Int64)) :
    CtrN l Z (⟨"com/example/assent/assent/log/CrashSet", "<init>", "(JJ[J)V"⟩ : MethodName) prog_16_method_1_code 13 none ({ frames := 1, cells := 1, slots := 2, locals := 15 } : Room) #[(.ref o), (.long fi), (.long la), (.ref b)] h0 (fun v h' => Keep h0 h' [o] ∧ v = none ∧ Exa Z h' o "com/example/assent/assent/log/CrashSet" ∧ Fld Z h' o "com/example/assent/assent/log/CrashSet" "first" "J" (.long fi) ∧ Fld Z h' o "com/example/assent/assent/log/CrashSet" "last" "J" (.long la) ∧ ∃ b' k', Fld Z h' o "com/example/assent/assent/log/CrashSet" "committed" "[J" (.ref b') ∧ Arv Z h' b' k' .long (0 : Int32) [] (.long (0 : Int64))) := by
  refine CtrN.of (plainFor_of_name pn_1) hO ?_
  intro p e s m below meth c T0 X0 hsh hby hml hret hlk hnm
  refine Goes.cast (ef_own_ini_0 m o fi la b) ?_
  show Goes _ _ _ _ T0 (mkF m 0 #[.val (.ref o), .val (.long fi), .second, .val (.long la), .second, .val (.ref b), .unset, .unset, .unset, .unset, .unset, .unset, .unset] [])
  refine Goes.go (fun _ k => XS.aloadN X0.here X0.ex rfl (hb hby d_prog_16_method_1_0) rfl rfl k) ?_
  show Goes _ _ _ _ T0 (mkF m 1 #[.val (.ref o), .val (.long fi), .second, .val (.long la), .second, .val (.ref b), .unset, .unset, .unset, .unset, .unset, .unset, .unset] [(.ref o)])
  have K0 : Keep h0 h0 [o] := Keep.refl _ _
  refine Wk.initO X0 (w_12 hw) (w_13 hw) (w_14 hw) rfl (by rw [hml]; rfl) rfl (hb hby d_prog_16_method_1_1) (by decide) (W := 0) (by show 2 * 0 + _ ≤ _; exact Nat.le_of_eq rfl) (by decide) ?_
  intro T16 X16
  show Goes _ _ _ _ T16 (mkF m 4 #[.val (.ref o), .val (.long fi), .second, .val (.long la), .second, .val (.ref b), .unset, .unset, .unset, .unset, .unset, .unset, .unset] [])
  refine Goes.go (fun _ k => XS.lloadN X16.here X16.ex rfl (hb hby d_prog_16_method_1_4) rfl (XS.lconst X16.here X16.ex rfl (hb hby d_prog_16_method_1_5) (XS.lcmp X16.here X16.ex rfl (hb hby d_prog_16_method_1_6) rfl k))) ?_
  show Goes _ _ _ _ T16 (mkF m 7 #[.val (.ref o), .val (.long fi), .second, .val (.long la), .second, .val (.ref b), .unset, .unset, .unset, .unset, .unset, .unset, .unset] [(.int (lcmpW fi (1 : Int64)))])
  refine Goes.go (fun _ k => XS.ifNo X16.here X16.ex rfl (hb hby d_prog_16_method_1_7) rfl ((if0 _ _).trans (cd_f (cd := .lt) (x := (lcmpW fi (1 : Int64))) (y := (0 : Int32)) ((fun q => pa ((lw_lt _ _).mp q))))) k) ?_
  show Goes _ _ _ _ T16 (mkF m 10 #[.val (.ref o), .val (.long fi), .second, .val (.long la), .second, .val (.ref b), .unset, .unset, .unset, .unset, .unset, .unset, .unset] [])
  refine Goes.go (fun _ k => XS.lloadN X16.here X16.ex rfl (hb hby d_prog_16_method_1_10) rfl (XS.lloadN X16.here X16.ex rfl (hb hby d_prog_16_method_1_11) rfl (XS.lcmp X16.here X16.ex rfl (hb hby d_prog_16_method_1_12) rfl k))) ?_
  show Goes _ _ _ _ T16 (mkF m 13 #[.val (.ref o), .val (.long fi), .second, .val (.long la), .second, .val (.ref b), .unset, .unset, .unset, .unset, .unset, .unset, .unset] [(.int (lcmpW fi la))])
  refine Goes.go (fun _ k => XS.ifYes X16.here X16.ex rfl (pc0 := 13) (pc' := 31) rfl (hb hby d_prog_16_method_1_13) rfl ((if0 _ _).trans (cd_t (cd := .le) (x := (lcmpW fi la)) (y := (0 : Int32)) ((fun q => pb ((lw_gt _ _).mp q))))) (by decide) (by decide) k) ?_
  show Goes _ _ _ _ T16 (mkF m 31 #[.val (.ref o), .val (.long fi), .second, .val (.long la), .second, .val (.ref b), .unset, .unset, .unset, .unset, .unset, .unset, .unset] [])
  refine Goes.go (fun _ k => XS.lloadN X16.here X16.ex rfl (hb hby d_prog_16_method_1_31) rfl (XS.lconst X16.here X16.ex rfl (hb hby d_prog_16_method_1_32) (XS.lsub X16.here X16.ex rfl (hb hby d_prog_16_method_1_33) rfl (XS.lstore X16.here X16.ex rfl (hb hby d_prog_16_method_1_34) rfl (l' := #[.val (.ref o), .val (.long fi), .second, .val (.long la), .second, .val (.ref b), .val (.long (fi - (1 : Int64))), .second, .unset, .unset, .unset, .unset, .unset]) rfl (XS.aload X16.here X16.ex rfl (hb hby d_prog_16_method_1_36) rfl rfl (XS.astore X16.here X16.ex rfl (hb hby d_prog_16_method_1_38) rfl rfl (l' := #[.val (.ref o), .val (.long fi), .second, .val (.long la), .second, .val (.ref b), .val (.long (fi - (1 : Int64))), .second, .val (.ref b), .unset, .unset, .unset, .unset]) rfl k)))))) ?_
  show Goes _ _ _ _ T16 (mkF m 40 #[.val (.ref o), .val (.long fi), .second, .val (.long la), .second, .val (.ref b), .val (.long (fi - (1 : Int64))), .second, .val (.ref b), .unset, .unset, .unset, .unset] [])
  refine Goes.go (fun _ k => XS.aload X16.here X16.ex rfl (hb hby d_prog_16_method_1_40) rfl rfl k) ?_
  show Goes _ _ _ _ T16 (mkF m 42 #[.val (.ref o), .val (.long fi), .second, .val (.long la), .second, .val (.ref b), .val (.long (fi - (1 : Int64))), .second, .val (.ref b), .unset, .unset, .unset, .unset] [(.ref b)])
  refine Goes.go (X16.alen V rfl rfl (hb hby d_prog_16_method_1_42)) ?_
  show Goes _ _ _ _ T16 (mkF m 43 #[.val (.ref o), .val (.long fi), .second, .val (.long la), .second, .val (.ref b), .val (.long (fi - (1 : Int64))), .second, .val (.ref b), .unset, .unset, .unset, .unset] [(.int (0 : Int32))])
  refine Goes.go (fun _ k => XS.istore X16.here X16.ex rfl (hb hby d_prog_16_method_1_43) rfl (l' := #[.val (.ref o), .val (.long fi), .second, .val (.long la), .second, .val (.ref b), .val (.long (fi - (1 : Int64))), .second, .val (.ref b), .val (.int (0 : Int32)), .unset, .unset, .unset]) rfl (XS.iconst X16.here X16.ex rfl (hb hby d_prog_16_method_1_45) (XS.istore X16.here X16.ex rfl (hb hby d_prog_16_method_1_46) rfl (l' := #[.val (.ref o), .val (.long fi), .second, .val (.long la), .second, .val (.ref b), .val (.long (fi - (1 : Int64))), .second, .val (.ref b), .val (.int (0 : Int32)), .val (.int (0 : Int32)), .unset, .unset]) rfl (XS.iload X16.here X16.ex rfl (hb hby d_prog_16_method_1_48) rfl (XS.iload X16.here X16.ex rfl (hb hby d_prog_16_method_1_50) rfl (XS.icmpYes X16.here X16.ex rfl (pc0 := 52) (pc' := 107) rfl (hb hby d_prog_16_method_1_52) rfl (cd_t (cd := .ge) (x := (0 : Int32)) (y := (0 : Int32)) (by decide)) (by decide) (by decide) k)))))) ?_
  show Goes _ _ _ _ T16 (mkF m 107 #[.val (.ref o), .val (.long fi), .second, .val (.long la), .second, .val (.ref b), .val (.long (fi - (1 : Int64))), .second, .val (.ref b), .val (.int (0 : Int32)), .val (.int (0 : Int32)), .unset, .unset] [])
  refine Goes.go (fun _ k => XS.aload X16.here X16.ex rfl (hb hby d_prog_16_method_1_107) rfl rfl k) ?_
  show Goes _ _ _ _ T16 (mkF m 109 #[.val (.ref o), .val (.long fi), .second, .val (.long la), .second, .val (.ref b), .val (.long (fi - (1 : Int64))), .second, .val (.ref b), .val (.int (0 : Int32)), .val (.int (0 : Int32)), .unset, .unset] [(.ref b)])
  refine Goes.go (X16.alen V rfl rfl (hb hby d_prog_16_method_1_109)) ?_
  show Goes _ _ _ _ T16 (mkF m 110 #[.val (.ref o), .val (.long fi), .second, .val (.long la), .second, .val (.ref b), .val (.long (fi - (1 : Int64))), .second, .val (.ref b), .val (.int (0 : Int32)), .val (.int (0 : Int32)), .unset, .unset] [(.int (0 : Int32))])
  refine Goes.go (fun _ k => XS.i2l X16.here X16.ex rfl (hb hby d_prog_16_method_1_110) rfl k) ?_
  show Goes _ _ _ _ T16 (mkF m 111 #[.val (.ref o), .val (.long fi), .second, .val (.long la), .second, .val (.ref b), .val (.long (fi - (1 : Int64))), .second, .val (.ref b), .val (.int (0 : Int32)), .val (.int (0 : Int32)), .unset, .unset] [(.long ((0 : Int32).toInt64))])
  refine Goes.cast (congrArg (fun zq_ => (mkF m 111 #[.val (.ref o), .val (.long fi), .second, .val (.long la), .second, .val (.ref b), .val (.long (fi - (1 : Int64))), .second, .val (.ref b), .val (.int (0 : Int32)), .val (.int (0 : Int32)), .unset, .unset] [(.long zq_)])) (show (((0 : Int32).toInt64) : Int64) = (0 : Int64) from by decide)) ?_
  show Goes _ _ _ _ T16 (mkF m 111 #[.val (.ref o), .val (.long fi), .second, .val (.long la), .second, .val (.ref b), .val (.long (fi - (1 : Int64))), .second, .val (.ref b), .val (.int (0 : Int32)), .val (.int (0 : Int32)), .unset, .unset] [(.long (0 : Int64))])
  refine Goes.go (fun _ k => XS.lloadN X16.here X16.ex rfl (hb hby d_prog_16_method_1_111) rfl (XS.lloadN X16.here X16.ex rfl (hb hby d_prog_16_method_1_112) rfl (XS.lsub X16.here X16.ex rfl (hb hby d_prog_16_method_1_113) rfl (XS.lcmp X16.here X16.ex rfl (hb hby d_prog_16_method_1_114) rfl k)))) ?_
  show Goes _ _ _ _ T16 (mkF m 115 #[.val (.ref o), .val (.long fi), .second, .val (.long la), .second, .val (.ref b), .val (.long (fi - (1 : Int64))), .second, .val (.ref b), .val (.int (0 : Int32)), .val (.int (0 : Int32)), .unset, .unset] [(.int (lcmpW (0 : Int64) (la - fi)))])
  refine Goes.go (fun _ k => XS.ifYes X16.here X16.ex rfl (pc0 := 115) (pc' := 133) rfl (hb hby d_prog_16_method_1_115) rfl ((if0 _ _).trans (cd_t (cd := .le) (x := (lcmpW (0 : Int64) (la - fi))) (y := (0 : Int32)) ((fun q => pw ((lw_gt _ _).mp q))))) (by decide) (by decide) k) ?_
  show Goes _ _ _ _ T16 (mkF m 133 #[.val (.ref o), .val (.long fi), .second, .val (.long la), .second, .val (.ref b), .val (.long (fi - (1 : Int64))), .second, .val (.ref b), .val (.int (0 : Int32)), .val (.int (0 : Int32)), .unset, .unset] [])
  refine Goes.go (fun _ k => XS.aloadN X16.here X16.ex rfl (hb hby d_prog_16_method_1_133) rfl rfl (XS.lloadN X16.here X16.ex rfl (hb hby d_prog_16_method_1_134) rfl k)) ?_
  show Goes _ _ _ _ T16 (mkF m 135 #[.val (.ref o), .val (.long fi), .second, .val (.long la), .second, .val (.ref b), .val (.long (fi - (1 : Int64))), .second, .val (.ref b), .val (.int (0 : Int32)), .val (.int (0 : Int32)), .unset, .unset] [(.long fi), (.ref o)])
  have nbo : b ≠ o := (Exa.neArv E_o V (w_7 hw)).symm
  refine Wk.putF (hm' := fun h' => h') X16 (host := "") (Or.inl (w_15 hw)) Via.refl F_o_first E_o (Or.inr ⟨(w_16 hw), rfl, hnm⟩) (w_7 hw) (ty := .long) (by decide) rfl rfl gz_o (fun _ => Mark.anew (allS (Or.inr SafeA.nil) all0)) rfl rfl (hb hby d_prog_16_method_1_135) ?_
  intro T17 h17 X17 W17
  have F17 := F_o_first.same W17
  replace E_o := E_o.wr W17
  replace V := V.other W17 nbo
  replace B := B.wr W17
  replace F_o_last := F_o_last.other W17 (Or.inr (slot_ne (Or.inr (w_18 hw)) (Or.inr (w_16 hw)) (by decide) (t := .long) (t' := .long) (by decide) (by decide)))
  replace F_o_committed := F_o_committed.other W17 (Or.inr (slot_ne (Or.inr (w_29 hw)) (Or.inr (w_16 hw)) (by decide) (t := (.array .long)) (t' := .long) (by decide) (by decide)))
  clear F_o_first; have F_o_first := F17
  show Goes _ _ _ _ T17 (mkF m 138 #[.val (.ref o), .val (.long fi), .second, .val (.long la), .second, .val (.ref b), .val (.long (fi - (1 : Int64))), .second, .val (.ref b), .val (.int (0 : Int32)), .val (.int (0 : Int32)), .unset, .unset] [])
  replace K0 := K0.wr W17 (Or.inl (List.mem_of_getElem? (i := 0) rfl))
  refine Goes.go (fun _ k => XS.aloadN X17.here X17.ex rfl (hb hby d_prog_16_method_1_138) rfl rfl (XS.lloadN X17.here X17.ex rfl (hb hby d_prog_16_method_1_139) rfl k)) ?_
  show Goes _ _ _ _ T17 (mkF m 140 #[.val (.ref o), .val (.long fi), .second, .val (.long la), .second, .val (.ref b), .val (.long (fi - (1 : Int64))), .second, .val (.ref b), .val (.int (0 : Int32)), .val (.int (0 : Int32)), .unset, .unset] [(.long la), (.ref o)])
  refine Wk.putF (hm' := fun h' => h') X17 (host := "") (Or.inl (w_17 hw)) Via.refl F_o_last E_o (Or.inr ⟨(w_18 hw), rfl, hnm⟩) (w_7 hw) (ty := .long) (by decide) rfl rfl gz_o (fun _ => Mark.anew (allS (Or.inr SafeA.nil) all0)) rfl rfl (hb hby d_prog_16_method_1_140) ?_
  intro T18 h18 X18 W18
  have F18 := F_o_last.same W18
  replace E_o := E_o.wr W18
  replace V := V.other W18 nbo
  replace B := B.wr W18
  replace F_o_committed := F_o_committed.other W18 (Or.inr (slot_ne (Or.inr (w_29 hw)) (Or.inr (w_18 hw)) (by decide) (t := (.array .long)) (t' := .long) (by decide) (by decide)))
  replace F_o_first := F_o_first.other W18 (Or.inr (slot_ne (Or.inr (w_16 hw)) (Or.inr (w_18 hw)) (by decide) (t := .long) (t' := .long) (by decide) (by decide)))
  clear F_o_last; have F_o_last := F18
  show Goes _ _ _ _ T18 (mkF m 143 #[.val (.ref o), .val (.long fi), .second, .val (.long la), .second, .val (.ref b), .val (.long (fi - (1 : Int64))), .second, .val (.ref b), .val (.int (0 : Int32)), .val (.int (0 : Int32)), .unset, .unset] [])
  replace K0 := K0.wr W18 (Or.inl (List.mem_of_getElem? (i := 0) rfl))
  refine Goes.go (fun _ k => XS.aloadN X18.here X18.ex rfl (hb hby d_prog_16_method_1_143) rfl rfl (XS.aload X18.here X18.ex rfl (hb hby d_prog_16_method_1_144) rfl rfl k)) ?_
  show Goes _ _ _ _ T18 (mkF m 146 #[.val (.ref o), .val (.long fi), .second, .val (.long la), .second, .val (.ref b), .val (.long (fi - (1 : Int64))), .second, .val (.ref b), .val (.int (0 : Int32)), .val (.int (0 : Int32)), .unset, .unset] [(.ref b), (.ref o)])
  refine Wk.cloneV (ad := "[J") X18 (w_19 hw) (w_20 hw) (w_24 hw) (w_22 hw) (w_23 hw) (w_25 hw) V B rfl (by rw [hml]; rfl) rfl (hb hby d_prog_16_method_1_146) (by decide) (W := 1) (by show 2 * 0 + _ ≤ _; exact Nat.le_of_eq rfl) (by decide) (cap := 0) (by decide) (by decide) (by decide) ?_
  intro T19 h19 b19 g19 X19 E19 V19 B19
  replace E_o := E_o.ext E19
  replace V := V.ext E19
  replace B := B.ext E19
  replace F_o_committed := F_o_committed.ext E19
  replace F_o_first := F_o_first.ext E19
  replace F_o_last := F_o_last.ext E19
  replace K0 := K0.ext E19
  show Goes _ _ _ _ T19 (mkF m 149 #[.val (.ref o), .val (.long fi), .second, .val (.long la), .second, .val (.ref b), .val (.long (fi - (1 : Int64))), .second, .val (.ref b), .val (.int (0 : Int32)), .val (.int (0 : Int32)), .unset, .unset] [(.ref b19), (.ref o)])
  refine Wk.castY X19 (w_26 hw) (Ins.self B19) rfl rfl (hb hby d_prog_16_method_1_149) ?_
  intro T20 X20
  show Goes _ _ _ _ T20 (mkF m 152 #[.val (.ref o), .val (.long fi), .second, .val (.long la), .second, .val (.ref b), .val (.long (fi - (1 : Int64))), .second, .val (.ref b), .val (.int (0 : Int32)), .val (.int (0 : Int32)), .unset, .unset] [(.ref b19), (.ref o)])
  have nco : b19 ≠ o := (Exa.neArv E_o V19 (w_7 hw)).symm
  refine Wk.putF (hm' := fun h' => h') X20 (host := "") (Or.inl (w_28 hw)) Via.refl F_o_committed E_o (Or.inr ⟨(w_29 hw), rfl, hnm⟩) (w_7 hw) (ty := (.array .long)) (by decide) rfl rfl gz_o (fun _ => Mark.anew (allS (Or.inr SafeA.nil) all0)) rfl rfl (hb hby d_prog_16_method_1_152) ?_
  intro T21 h21 X21 W21
  have F21 := F_o_committed.same W21
  replace E_o := E_o.wr W21
  replace V := V.other W21 nbo
  replace B := B.wr W21
  replace F_o_first := F_o_first.other W21 (Or.inr (slot_ne (Or.inr (w_16 hw)) (Or.inr (w_29 hw)) (by decide) (t := .long) (t' := (.array .long)) (by decide) (by decide)))
  replace F_o_last := F_o_last.other W21 (Or.inr (slot_ne (Or.inr (w_18 hw)) (Or.inr (w_29 hw)) (by decide) (t := .long) (t' := (.array .long)) (by decide) (by decide)))
  replace V19 := V19.other W21 nco
  replace B19 := B19.wr W21
  clear F_o_committed; have F_o_committed := F21
  show Goes _ _ _ _ T21 (mkF m 155 #[.val (.ref o), .val (.long fi), .second, .val (.long la), .second, .val (.ref b), .val (.long (fi - (1 : Int64))), .second, .val (.ref b), .val (.int (0 : Int32)), .val (.int (0 : Int32)), .unset, .unset] [])
  replace K0 := K0.wr W21 (Or.inl (List.mem_of_getElem? (i := 0) rfl))
  refine Goes.outN X21 (fun _ => rfl) hlk (X21.rV hret (hb hby d_prog_16_method_1_155)) ?_ (by decide) (by decide)
  exact ⟨K0, rfl, E_o, F_o_first, F_o_last, b19, kA, F_o_committed, V19⟩
set_option maxRecDepth 65536 in
set_option maxHeartbeats 40000000 in
theorem own_ini_1 (l : Launch) (Z : State) (a0 : Array Value) (hw : ∀ d ∈ tables_1, d.before a0 Z = true) (h0 : Heap) (hO : Ext Z.heap h0) (o : Addr) (fi : Int64) (la : Int64) (b : Addr) (kA : ClassId) (x : Int64) (E_o : Exa Z h0 o "com/example/assent/assent/log/CrashSet") (F_o_first : Fld Z h0 o "com/example/assent/assent/log/CrashSet" "first" "J" (.long (0 : Int64))) (F_o_last : Fld Z h0 o "com/example/assent/assent/log/CrashSet" "last" "J" (.long (0 : Int64))) (F_o_committed : Fld Z h0 o "com/example/assent/assent/log/CrashSet" "committed" "[J" .null) (gz_o : Z.heap.size ≤ o) (V : Arv Z h0 b kA .long (1 : Int32) [(.long x)] (.long (0 : Int64))) (B : Exa Z h0 b "[J") (pa : ¬ fi < 1) (pb : ¬ la < fi) (p1 : fi - 1 < x) (p2 : ¬ la < x) (pw : ¬ (la - fi) < (1 : Int64)) :
    CtrN l Z (⟨"com/example/assent/assent/log/CrashSet", "<init>", "(JJ[J)V"⟩ : MethodName) prog_16_method_1_code 13 none ({ frames := 1, cells := 1, slots := 2, locals := 15 } : Room) #[(.ref o), (.long fi), (.long la), (.ref b)] h0 (fun v h' => Keep h0 h' [o] ∧ v = none ∧ Exa Z h' o "com/example/assent/assent/log/CrashSet" ∧ Fld Z h' o "com/example/assent/assent/log/CrashSet" "first" "J" (.long fi) ∧ Fld Z h' o "com/example/assent/assent/log/CrashSet" "last" "J" (.long la) ∧ ∃ b' k', Fld Z h' o "com/example/assent/assent/log/CrashSet" "committed" "[J" (.ref b') ∧ Arv Z h' b' k' .long (1 : Int32) [(.long x)] (.long (0 : Int64))) := by
  refine CtrN.of (plainFor_of_name pn_1) hO ?_
  intro p e s m below meth c T0 X0 hsh hby hml hret hlk hnm
  refine Goes.cast (ef_own_ini_1 m o fi la b) ?_
  show Goes _ _ _ _ T0 (mkF m 0 #[.val (.ref o), .val (.long fi), .second, .val (.long la), .second, .val (.ref b), .unset, .unset, .unset, .unset, .unset, .unset, .unset] [])
  refine Goes.go (fun _ k => XS.aloadN X0.here X0.ex rfl (hb hby d_prog_16_method_1_0) rfl rfl k) ?_
  show Goes _ _ _ _ T0 (mkF m 1 #[.val (.ref o), .val (.long fi), .second, .val (.long la), .second, .val (.ref b), .unset, .unset, .unset, .unset, .unset, .unset, .unset] [(.ref o)])
  have K0 : Keep h0 h0 [o] := Keep.refl _ _
  refine Wk.initO X0 (w_12 hw) (w_13 hw) (w_14 hw) rfl (by rw [hml]; rfl) rfl (hb hby d_prog_16_method_1_1) (by decide) (W := 0) (by show 2 * 0 + _ ≤ _; exact Nat.le_of_eq rfl) (by decide) ?_
  intro T22 X22
  show Goes _ _ _ _ T22 (mkF m 4 #[.val (.ref o), .val (.long fi), .second, .val (.long la), .second, .val (.ref b), .unset, .unset, .unset, .unset, .unset, .unset, .unset] [])
  refine Goes.go (fun _ k => XS.lloadN X22.here X22.ex rfl (hb hby d_prog_16_method_1_4) rfl (XS.lconst X22.here X22.ex rfl (hb hby d_prog_16_method_1_5) (XS.lcmp X22.here X22.ex rfl (hb hby d_prog_16_method_1_6) rfl k))) ?_
  show Goes _ _ _ _ T22 (mkF m 7 #[.val (.ref o), .val (.long fi), .second, .val (.long la), .second, .val (.ref b), .unset, .unset, .unset, .unset, .unset, .unset, .unset] [(.int (lcmpW fi (1 : Int64)))])
  refine Goes.go (fun _ k => XS.ifNo X22.here X22.ex rfl (hb hby d_prog_16_method_1_7) rfl ((if0 _ _).trans (cd_f (cd := .lt) (x := (lcmpW fi (1 : Int64))) (y := (0 : Int32)) ((fun q => pa ((lw_lt _ _).mp q))))) k) ?_
  show Goes _ _ _ _ T22 (mkF m 10 #[.val (.ref o), .val (.long fi), .second, .val (.long la), .second, .val (.ref b), .unset, .unset, .unset, .unset, .unset, .unset, .unset] [])
  refine Goes.go (fun _ k => XS.lloadN X22.here X22.ex rfl (hb hby d_prog_16_method_1_10) rfl (XS.lloadN X22.here X22.ex rfl (hb hby d_prog_16_method_1_11) rfl (XS.lcmp X22.here X22.ex rfl (hb hby d_prog_16_method_1_12) rfl k))) ?_
  show Goes _ _ _ _ T22 (mkF m 13 #[.val (.ref o), .val (.long fi), .second, .val (.long la), .second, .val (.ref b), .unset, .unset, .unset, .unset, .unset, .unset, .unset] [(.int (lcmpW fi la))])
  refine Goes.go (fun _ k => XS.ifYes X22.here X22.ex rfl (pc0 := 13) (pc' := 31) rfl (hb hby d_prog_16_method_1_13) rfl ((if0 _ _).trans (cd_t (cd := .le) (x := (lcmpW fi la)) (y := (0 : Int32)) ((fun q => pb ((lw_gt _ _).mp q))))) (by decide) (by decide) k) ?_
  show Goes _ _ _ _ T22 (mkF m 31 #[.val (.ref o), .val (.long fi), .second, .val (.long la), .second, .val (.ref b), .unset, .unset, .unset, .unset, .unset, .unset, .unset] [])
  refine Goes.go (fun _ k => XS.lloadN X22.here X22.ex rfl (hb hby d_prog_16_method_1_31) rfl (XS.lconst X22.here X22.ex rfl (hb hby d_prog_16_method_1_32) (XS.lsub X22.here X22.ex rfl (hb hby d_prog_16_method_1_33) rfl (XS.lstore X22.here X22.ex rfl (hb hby d_prog_16_method_1_34) rfl (l' := #[.val (.ref o), .val (.long fi), .second, .val (.long la), .second, .val (.ref b), .val (.long (fi - (1 : Int64))), .second, .unset, .unset, .unset, .unset, .unset]) rfl (XS.aload X22.here X22.ex rfl (hb hby d_prog_16_method_1_36) rfl rfl (XS.astore X22.here X22.ex rfl (hb hby d_prog_16_method_1_38) rfl rfl (l' := #[.val (.ref o), .val (.long fi), .second, .val (.long la), .second, .val (.ref b), .val (.long (fi - (1 : Int64))), .second, .val (.ref b), .unset, .unset, .unset, .unset]) rfl k)))))) ?_
  show Goes _ _ _ _ T22 (mkF m 40 #[.val (.ref o), .val (.long fi), .second, .val (.long la), .second, .val (.ref b), .val (.long (fi - (1 : Int64))), .second, .val (.ref b), .unset, .unset, .unset, .unset] [])
  refine Goes.go (fun _ k => XS.aload X22.here X22.ex rfl (hb hby d_prog_16_method_1_40) rfl rfl k) ?_
  show Goes _ _ _ _ T22 (mkF m 42 #[.val (.ref o), .val (.long fi), .second, .val (.long la), .second, .val (.ref b), .val (.long (fi - (1 : Int64))), .second, .val (.ref b), .unset, .unset, .unset, .unset] [(.ref b)])
  refine Goes.go (X22.alen V rfl rfl (hb hby d_prog_16_method_1_42)) ?_
  show Goes _ _ _ _ T22 (mkF m 43 #[.val (.ref o), .val (.long fi), .second, .val (.long la), .second, .val (.ref b), .val (.long (fi - (1 : Int64))), .second, .val (.ref b), .unset, .unset, .unset, .unset] [(.int (1 : Int32))])
  refine Goes.go (fun _ k => XS.istore X22.here X22.ex rfl (hb hby d_prog_16_method_1_43) rfl (l' := #[.val (.ref o), .val (.long fi), .second, .val (.long la), .second, .val (.ref b), .val (.long (fi - (1 : Int64))), .second, .val (.ref b), .val (.int (1 : Int32)), .unset, .unset, .unset]) rfl (XS.iconst X22.here X22.ex rfl (hb hby d_prog_16_method_1_45) (XS.istore X22.here X22.ex rfl (hb hby d_prog_16_method_1_46) rfl (l' := #[.val (.ref o), .val (.long fi), .second, .val (.long la), .second, .val (.ref b), .val (.long (fi - (1 : Int64))), .second, .val (.ref b), .val (.int (1 : Int32)), .val (.int (0 : Int32)), .unset, .unset]) rfl (XS.iload X22.here X22.ex rfl (hb hby d_prog_16_method_1_48) rfl (XS.iload X22.here X22.ex rfl (hb hby d_prog_16_method_1_50) rfl (XS.icmpNo X22.here X22.ex rfl (hb hby d_prog_16_method_1_52) rfl (cd_f (cd := .ge) (x := (0 : Int32)) (y := (1 : Int32)) (by decide)) k)))))) ?_
  show Goes _ _ _ _ T22 (mkF m 55 #[.val (.ref o), .val (.long fi), .second, .val (.long la), .second, .val (.ref b), .val (.long (fi - (1 : Int64))), .second, .val (.ref b), .val (.int (1 : Int32)), .val (.int (0 : Int32)), .unset, .unset] [])
  refine Goes.go (fun _ k => XS.aload X22.here X22.ex rfl (hb hby d_prog_16_method_1_55) rfl rfl (XS.iload X22.here X22.ex rfl (hb hby d_prog_16_method_1_57) rfl k)) ?_
  show Goes _ _ _ _ T22 (mkF m 59 #[.val (.ref o), .val (.long fi), .second, .val (.long la), .second, .val (.ref b), .val (.long (fi - (1 : Int64))), .second, .val (.ref b), .val (.int (1 : Int32)), .val (.int (0 : Int32)), .unset, .unset] [(.int (0 : Int32)), (.ref b)])
  refine Goes.go (X22.laload V ⟨by decide, by decide⟩ (v := .long x) rfl rfl rfl (hb hby d_prog_16_method_1_59)) ?_
  show Goes _ _ _ _ T22 (mkF m 60 #[.val (.ref o), .val (.long fi), .second, .val (.long la), .second, .val (.ref b), .val (.long (fi - (1 : Int64))), .second, .val (.ref b), .val (.int (1 : Int32)), .val (.int (0 : Int32)), .unset, .unset] [(.long x)])
  refine Goes.go (fun _ k => XS.lstore X22.here X22.ex rfl (hb hby d_prog_16_method_1_60) rfl (l' := #[.val (.ref o), .val (.long fi), .second, .val (.long la), .second, .val (.ref b), .val (.long (fi - (1 : Int64))), .second, .val (.ref b), .val (.int (1 : Int32)), .val (.int (0 : Int32)), .val (.long x), .second]) rfl (XS.lload X22.here X22.ex rfl (hb hby d_prog_16_method_1_62) rfl (XS.lload X22.here X22.ex rfl (hb hby d_prog_16_method_1_64) rfl (XS.lcmp X22.here X22.ex rfl (hb hby d_prog_16_method_1_66) rfl k)))) ?_
  show Goes _ _ _ _ T22 (mkF m 67 #[.val (.ref o), .val (.long fi), .second, .val (.long la), .second, .val (.ref b), .val (.long (fi - (1 : Int64))), .second, .val (.ref b), .val (.int (1 : Int32)), .val (.int (0 : Int32)), .val (.long x), .second] [(.int (lcmpW x (fi - (1 : Int64))))])
  refine Goes.go (fun _ k => XS.ifNo X22.here X22.ex rfl (hb hby d_prog_16_method_1_67) rfl ((if0 _ _).trans (cd_f (cd := .le) (x := (lcmpW x (fi - (1 : Int64)))) (y := (0 : Int32)) ((fun q => absurd ((lw_gt _ _).mpr p1) q)))) k) ?_
  show Goes _ _ _ _ T22 (mkF m 70 #[.val (.ref o), .val (.long fi), .second, .val (.long la), .second, .val (.ref b), .val (.long (fi - (1 : Int64))), .second, .val (.ref b), .val (.int (1 : Int32)), .val (.int (0 : Int32)), .val (.long x), .second] [])
  refine Goes.go (fun _ k => XS.lload X22.here X22.ex rfl (hb hby d_prog_16_method_1_70) rfl (XS.lloadN X22.here X22.ex rfl (hb hby d_prog_16_method_1_72) rfl (XS.lcmp X22.here X22.ex rfl (hb hby d_prog_16_method_1_73) rfl k))) ?_
  show Goes _ _ _ _ T22 (mkF m 74 #[.val (.ref o), .val (.long fi), .second, .val (.long la), .second, .val (.ref b), .val (.long (fi - (1 : Int64))), .second, .val (.ref b), .val (.int (1 : Int32)), .val (.int (0 : Int32)), .val (.long x), .second] [(.int (lcmpW x la))])
  refine Goes.go (fun _ k => XS.ifYes X22.here X22.ex rfl (pc0 := 74) (pc' := 97) rfl (hb hby d_prog_16_method_1_74) rfl ((if0 _ _).trans (cd_t (cd := .le) (x := (lcmpW x la)) (y := (0 : Int32)) ((fun q => p2 ((lw_gt _ _).mp q))))) (by decide) (by decide) k) ?_
  show Goes _ _ _ _ T22 (mkF m 97 #[.val (.ref o), .val (.long fi), .second, .val (.long la), .second, .val (.ref b), .val (.long (fi - (1 : Int64))), .second, .val (.ref b), .val (.int (1 : Int32)), .val (.int (0 : Int32)), .val (.long x), .second] [])
  refine Goes.go (fun _ k => XS.lload X22.here X22.ex rfl (hb hby d_prog_16_method_1_97) rfl (XS.lstore X22.here X22.ex rfl (hb hby d_prog_16_method_1_99) rfl (l' := #[.val (.ref o), .val (.long fi), .second, .val (.long la), .second, .val (.ref b), .val (.long x), .second, .val (.ref b), .val (.int (1 : Int32)), .val (.int (0 : Int32)), .val (.long x), .second]) rfl (XS.iinc X22.here X22.ex rfl (hb hby d_prog_16_method_1_101) rfl (l' := #[.val (.ref o), .val (.long fi), .second, .val (.long la), .second, .val (.ref b), .val (.long x), .second, .val (.ref b), .val (.int (1 : Int32)), .val (.int ((0 : Int32) + (1 : Int32))), .val (.long x), .second]) rfl k))) ?_
  show Goes _ _ _ _ T22 (mkF m 104 #[.val (.ref o), .val (.long fi), .second, .val (.long la), .second, .val (.ref b), .val (.long x), .second, .val (.ref b), .val (.int (1 : Int32)), .val (.int ((0 : Int32) + (1 : Int32))), .val (.long x), .second] [])
  refine Goes.cast (congrArg (fun zq_ => (mkF m 104 #[.val (.ref o), .val (.long fi), .second, .val (.long la), .second, .val (.ref b), .val (.long x), .second, .val (.ref b), .val (.int (1 : Int32)), .val (.int zq_), .val (.long x), .second] [])) (show (((0 : Int32) + (1 : Int32)) : Int32) = (1 : Int32) from by decide)) ?_
  show Goes _ _ _ _ T22 (mkF m 104 #[.val (.ref o), .val (.long fi), .second, .val (.long la), .second, .val (.ref b), .val (.long x), .second, .val (.ref b), .val (.int (1 : Int32)), .val (.int (1 : Int32)), .val (.long x), .second] [])
  refine Goes.go (fun _ k => XS.goto X22.here X22.ex rfl (pc0 := 104) (pc' := 48) rfl (hb hby d_prog_16_method_1_104) (by decide) (by decide) (XS.iload X22.here X22.ex rfl (hb hby d_prog_16_method_1_48) rfl (XS.iload X22.here X22.ex rfl (hb hby d_prog_16_method_1_50) rfl (XS.icmpYes X22.here X22.ex rfl (pc0 := 52) (pc' := 107) rfl (hb hby d_prog_16_method_1_52) rfl (cd_t (cd := .ge) (x := (1 : Int32)) (y := (1 : Int32)) (by decide)) (by decide) (by decide) (XS.aload X22.here X22.ex rfl (hb hby d_prog_16_method_1_107) rfl rfl k))))) ?_
  show Goes _ _ _ _ T22 (mkF m 109 #[.val (.ref o), .val (.long fi), .second, .val (.long la), .second, .val (.ref b), .val (.long x), .second, .val (.ref b), .val (.int (1 : Int32)), .val (.int (1 : Int32)), .val (.long x), .second] [(.ref b)])
  refine Goes.go (X22.alen V rfl rfl (hb hby d_prog_16_method_1_109)) ?_
  show Goes _ _ _ _ T22 (mkF m 110 #[.val (.ref o), .val (.long fi), .second, .val (.long la), .second, .val (.ref b), .val (.long x), .second, .val (.ref b), .val (.int (1 : Int32)), .val (.int (1 : Int32)), .val (.long x), .second] [(.int (1 : Int32))])
  refine Goes.go (fun _ k => XS.i2l X22.here X22.ex rfl (hb hby d_prog_16_method_1_110) rfl k) ?_
  show Goes _ _ _ _ T22 (mkF m 111 #[.val (.ref o), .val (.long fi), .second, .val (.long la), .second, .val (.ref b), .val (.long x), .second, .val (.ref b), .val (.int (1 : Int32)), .val (.int (1 : Int32)), .val (.long x), .second] [(.long ((1 : Int32).toInt64))])
  refine Goes.cast (congrArg (fun zq_ => (mkF m 111 #[.val (.ref o), .val (.long fi), .second, .val (.long la), .second, .val (.ref b), .val (.long x), .second, .val (.ref b), .val (.int (1 : Int32)), .val (.int (1 : Int32)), .val (.long x), .second] [(.long zq_)])) (show (((1 : Int32).toInt64) : Int64) = (1 : Int64) from by decide)) ?_
  show Goes _ _ _ _ T22 (mkF m 111 #[.val (.ref o), .val (.long fi), .second, .val (.long la), .second, .val (.ref b), .val (.long x), .second, .val (.ref b), .val (.int (1 : Int32)), .val (.int (1 : Int32)), .val (.long x), .second] [(.long (1 : Int64))])
  refine Goes.go (fun _ k => XS.lloadN X22.here X22.ex rfl (hb hby d_prog_16_method_1_111) rfl (XS.lloadN X22.here X22.ex rfl (hb hby d_prog_16_method_1_112) rfl (XS.lsub X22.here X22.ex rfl (hb hby d_prog_16_method_1_113) rfl (XS.lcmp X22.here X22.ex rfl (hb hby d_prog_16_method_1_114) rfl k)))) ?_
  show Goes _ _ _ _ T22 (mkF m 115 #[.val (.ref o), .val (.long fi), .second, .val (.long la), .second, .val (.ref b), .val (.long x), .second, .val (.ref b), .val (.int (1 : Int32)), .val (.int (1 : Int32)), .val (.long x), .second] [(.int (lcmpW (1 : Int64) (la - fi)))])
  refine Goes.go (fun _ k => XS.ifYes X22.here X22.ex rfl (pc0 := 115) (pc' := 133) rfl (hb hby d_prog_16_method_1_115) rfl ((if0 _ _).trans (cd_t (cd := .le) (x := (lcmpW (1 : Int64) (la - fi))) (y := (0 : Int32)) ((fun q => pw ((lw_gt _ _).mp q))))) (by decide) (by decide) k) ?_
  show Goes _ _ _ _ T22 (mkF m 133 #[.val (.ref o), .val (.long fi), .second, .val (.long la), .second, .val (.ref b), .val (.long x), .second, .val (.ref b), .val (.int (1 : Int32)), .val (.int (1 : Int32)), .val (.long x), .second] [])
  refine Goes.go (fun _ k => XS.aloadN X22.here X22.ex rfl (hb hby d_prog_16_method_1_133) rfl rfl (XS.lloadN X22.here X22.ex rfl (hb hby d_prog_16_method_1_134) rfl k)) ?_
  show Goes _ _ _ _ T22 (mkF m 135 #[.val (.ref o), .val (.long fi), .second, .val (.long la), .second, .val (.ref b), .val (.long x), .second, .val (.ref b), .val (.int (1 : Int32)), .val (.int (1 : Int32)), .val (.long x), .second] [(.long fi), (.ref o)])
  have nbo : b ≠ o := (Exa.neArv E_o V (w_7 hw)).symm
  refine Wk.putF (hm' := fun h' => h') X22 (host := "") (Or.inl (w_15 hw)) Via.refl F_o_first E_o (Or.inr ⟨(w_16 hw), rfl, hnm⟩) (w_7 hw) (ty := .long) (by decide) rfl rfl gz_o (fun _ => Mark.anew (allS (Or.inr SafeA.nil) all0)) rfl rfl (hb hby d_prog_16_method_1_135) ?_
  intro T23 h23 X23 W23
  have F23 := F_o_first.same W23
  replace E_o := E_o.wr W23
  replace V := V.other W23 nbo
  replace B := B.wr W23
  replace F_o_last := F_o_last.other W23 (Or.inr (slot_ne (Or.inr (w_18 hw)) (Or.inr (w_16 hw)) (by decide) (t := .long) (t' := .long) (by decide) (by decide)))
  replace F_o_committed := F_o_committed.other W23 (Or.inr (slot_ne (Or.inr (w_29 hw)) (Or.inr (w_16 hw)) (by decide) (t := (.array .long)) (t' := .long) (by decide) (by decide)))
  clear F_o_first; have F_o_first := F23
  show Goes _ _ _ _ T23 (mkF m 138 #[.val (.ref o), .val (.long fi), .second, .val (.long la), .second, .val (.ref b), .val (.long x), .second, .val (.ref b), .val (.int (1 : Int32)), .val (.int (1 : Int32)), .val (.long x), .second] [])
  replace K0 := K0.wr W23 (Or.inl (List.mem_of_getElem? (i := 0) rfl))
  refine Goes.go (fun _ k => XS.aloadN X23.here X23.ex rfl (hb hby d_prog_16_method_1_138) rfl rfl (XS.lloadN X23.here X23.ex rfl (hb hby d_prog_16_method_1_139) rfl k)) ?_
  show Goes _ _ _ _ T23 (mkF m 140 #[.val (.ref o), .val (.long fi), .second, .val (.long la), .second, .val (.ref b), .val (.long x), .second, .val (.ref b), .val (.int (1 : Int32)), .val (.int (1 : Int32)), .val (.long x), .second] [(.long la), (.ref o)])
  refine Wk.putF (hm' := fun h' => h') X23 (host := "") (Or.inl (w_17 hw)) Via.refl F_o_last E_o (Or.inr ⟨(w_18 hw), rfl, hnm⟩) (w_7 hw) (ty := .long) (by decide) rfl rfl gz_o (fun _ => Mark.anew (allS (Or.inr SafeA.nil) all0)) rfl rfl (hb hby d_prog_16_method_1_140) ?_
  intro T24 h24 X24 W24
  have F24 := F_o_last.same W24
  replace E_o := E_o.wr W24
  replace V := V.other W24 nbo
  replace B := B.wr W24
  replace F_o_committed := F_o_committed.other W24 (Or.inr (slot_ne (Or.inr (w_29 hw)) (Or.inr (w_18 hw)) (by decide) (t := (.array .long)) (t' := .long) (by decide) (by decide)))
  replace F_o_first := F_o_first.other W24 (Or.inr (slot_ne (Or.inr (w_16 hw)) (Or.inr (w_18 hw)) (by decide) (t := .long) (t' := .long) (by decide) (by decide)))
  clear F_o_last; have F_o_last := F24
  show Goes _ _ _ _ T24 (mkF m 143 #[.val (.ref o), .val (.long fi), .second, .val (.long la), .second, .val (.ref b), .val (.long x), .second, .val (.ref b), .val (.int (1 : Int32)), .val (.int (1 : Int32)), .val (.long x), .second] [])
  replace K0 := K0.wr W24 (Or.inl (List.mem_of_getElem? (i := 0) rfl))
  refine Goes.go (fun _ k => XS.aloadN X24.here X24.ex rfl (hb hby d_prog_16_method_1_143) rfl rfl (XS.aload X24.here X24.ex rfl (hb hby d_prog_16_method_1_144) rfl rfl k)) ?_
  show Goes _ _ _ _ T24 (mkF m 146 #[.val (.ref o), .val (.long fi), .second, .val (.long la), .second, .val (.ref b), .val (.long x), .second, .val (.ref b), .val (.int (1 : Int32)), .val (.int (1 : Int32)), .val (.long x), .second] [(.ref b), (.ref o)])
  refine Wk.cloneV (ad := "[J") X24 (w_19 hw) (w_20 hw) (w_24 hw) (w_22 hw) (w_23 hw) (w_25 hw) V B rfl (by rw [hml]; rfl) rfl (hb hby d_prog_16_method_1_146) (by decide) (W := 1) (by show 2 * 0 + _ ≤ _; exact Nat.le_of_eq rfl) (by decide) (cap := 1) (by decide) (by decide) (by decide) ?_
  intro T25 h25 b25 g25 X25 E25 V25 B25
  replace E_o := E_o.ext E25
  replace V := V.ext E25
  replace B := B.ext E25
  replace F_o_committed := F_o_committed.ext E25
  replace F_o_first := F_o_first.ext E25
  replace F_o_last := F_o_last.ext E25
  replace K0 := K0.ext E25
  show Goes _ _ _ _ T25 (mkF m 149 #[.val (.ref o), .val (.long fi), .second, .val (.long la), .second, .val (.ref b), .val (.long x), .second, .val (.ref b), .val (.int (1 : Int32)), .val (.int (1 : Int32)), .val (.long x), .second] [(.ref b25), (.ref o)])
  refine Wk.castY X25 (w_26 hw) (Ins.self B25) rfl rfl (hb hby d_prog_16_method_1_149) ?_
  intro T26 X26
  show Goes _ _ _ _ T26 (mkF m 152 #[.val (.ref o), .val (.long fi), .second, .val (.long la), .second, .val (.ref b), .val (.long x), .second, .val (.ref b), .val (.int (1 : Int32)), .val (.int (1 : Int32)), .val (.long x), .second] [(.ref b25), (.ref o)])
  have nco : b25 ≠ o := (Exa.neArv E_o V25 (w_7 hw)).symm
  refine Wk.putF (hm' := fun h' => h') X26 (host := "") (Or.inl (w_28 hw)) Via.refl F_o_committed E_o (Or.inr ⟨(w_29 hw), rfl, hnm⟩) (w_7 hw) (ty := (.array .long)) (by decide) rfl rfl gz_o (fun _ => Mark.anew (allS (Or.inr SafeA.nil) all0)) rfl rfl (hb hby d_prog_16_method_1_152) ?_
  intro T27 h27 X27 W27
  have F27 := F_o_committed.same W27
  replace E_o := E_o.wr W27
  replace V := V.other W27 nbo
  replace B := B.wr W27
  replace F_o_first := F_o_first.other W27 (Or.inr (slot_ne (Or.inr (w_16 hw)) (Or.inr (w_29 hw)) (by decide) (t := .long) (t' := (.array .long)) (by decide) (by decide)))
  replace F_o_last := F_o_last.other W27 (Or.inr (slot_ne (Or.inr (w_18 hw)) (Or.inr (w_29 hw)) (by decide) (t := .long) (t' := (.array .long)) (by decide) (by decide)))
  replace V25 := V25.other W27 nco
  replace B25 := B25.wr W27
  clear F_o_committed; have F_o_committed := F27
  show Goes _ _ _ _ T27 (mkF m 155 #[.val (.ref o), .val (.long fi), .second, .val (.long la), .second, .val (.ref b), .val (.long x), .second, .val (.ref b), .val (.int (1 : Int32)), .val (.int (1 : Int32)), .val (.long x), .second] [])
  replace K0 := K0.wr W27 (Or.inl (List.mem_of_getElem? (i := 0) rfl))
  refine Goes.outN X27 (fun _ => rfl) hlk (X27.rV hret (hb hby d_prog_16_method_1_155)) ?_ (by decide) (by decide)
  exact ⟨K0, rfl, E_o, F_o_first, F_o_last, b25, kA, F_o_committed, V25⟩
set_option maxRecDepth 65536 in
set_option maxHeartbeats 40000000 in
theorem own_ini_2 (l : Launch) (Z : State) (a0 : Array Value) (hw : ∀ d ∈ tables_1, d.before a0 Z = true) (h0 : Heap) (hO : Ext Z.heap h0) (o : Addr) (fi : Int64) (la : Int64) (b : Addr) (kA : ClassId) (x : Int64) (y : Int64) (E_o : Exa Z h0 o "com/example/assent/assent/log/CrashSet") (F_o_first : Fld Z h0 o "com/example/assent/assent/log/CrashSet" "first" "J" (.long (0 : Int64))) (F_o_last : Fld Z h0 o "com/example/assent/assent/log/CrashSet" "last" "J" (.long (0 : Int64))) (F_o_committed : Fld Z h0 o "com/example/assent/assent/log/CrashSet" "committed" "[J" .null) (gz_o : Z.heap.size ≤ o) (V : Arv Z h0 b kA .long (2 : Int32) [(.long x), (.long y)] (.long (0 : Int64))) (B : Exa Z h0 b "[J") (pa : ¬ fi < 1) (pb : ¬ la < fi) (p1 : fi - 1 < x) (p2 : ¬ la < x) (p3 : x < y) (p4 : ¬ la < y) (pw : ¬ (la - fi) < (2 : Int64)) :
    CtrN l Z (⟨"com/example/assent/assent/log/CrashSet", "<init>", "(JJ[J)V"⟩ : MethodName) prog_16_method_1_code 13 none ({ frames := 1, cells := 1, slots := 2, locals := 15 } : Room) #[(.ref o), (.long fi), (.long la), (.ref b)] h0 (fun v h' => Keep h0 h' [o] ∧ v = none ∧ Exa Z h' o "com/example/assent/assent/log/CrashSet" ∧ Fld Z h' o "com/example/assent/assent/log/CrashSet" "first" "J" (.long fi) ∧ Fld Z h' o "com/example/assent/assent/log/CrashSet" "last" "J" (.long la) ∧ ∃ b' k', Fld Z h' o "com/example/assent/assent/log/CrashSet" "committed" "[J" (.ref b') ∧ Arv Z h' b' k' .long (2 : Int32) [(.long x), (.long y)] (.long (0 : Int64))) := by
  refine CtrN.of (plainFor_of_name pn_1) hO ?_
  intro p e s m below meth c T0 X0 hsh hby hml hret hlk hnm
  refine Goes.cast (ef_own_ini_2 m o fi la b) ?_
  show Goes _ _ _ _ T0 (mkF m 0 #[.val (.ref o), .val (.long fi), .second, .val (.long la), .second, .val (.ref b), .unset, .unset, .unset, .unset, .unset, .unset, .unset] [])
  refine Goes.go (fun _ k => XS.aloadN X0.here X0.ex rfl (hb hby d_prog_16_method_1_0) rfl rfl k) ?_
  show Goes _ _ _ _ T0 (mkF m 1 #[.val (.ref o), .val (.long fi), .second, .val (.long la), .second, .val (.ref b), .unset, .unset, .unset, .unset, .unset, .unset, .unset] [(.ref o)])
  have K0 : Keep h0 h0 [o] := Keep.refl _ _
  refine Wk.initO X0 (w_12 hw) (w_13 hw) (w_14 hw) rfl (by rw [hml]; rfl) rfl (hb hby d_prog_16_method_1_1) (by decide) (W := 0) (by show 2 * 0 + _ ≤ _; exact Nat.le_of_eq rfl) (by decide) ?_
  intro T28 X28
  show Goes _ _ _ _ T28 (mkF m 4 #[.val (.ref o), .val (.long fi), .second, .val (.long la), .second, .val (.ref b), .unset, .unset, .unset, .unset, .unset, .unset, .unset] [])
  refine Goes.go (fun _ k => XS.lloadN X28.here X28.ex rfl (hb hby d_prog_16_method_1_4) rfl (XS.lconst X28.here X28.ex rfl (hb hby d_prog_16_method_1_5) (XS.lcmp X28.here X28.ex rfl (hb hby d_prog_16_method_1_6) rfl k))) ?_
  show Goes _ _ _ _ T28 (mkF m 7 #[.val (.ref o), .val (.long fi), .second, .val (.long la), .second, .val (.ref b), .unset, .unset, .unset, .unset, .unset, .unset, .unset] [(.int (lcmpW fi (1 : Int64)))])
  refine Goes.go (fun _ k => XS.ifNo X28.here X28.ex rfl (hb hby d_prog_16_method_1_7) rfl ((if0 _ _).trans (cd_f (cd := .lt) (x := (lcmpW fi (1 : Int64))) (y := (0 : Int32)) ((fun q => pa ((lw_lt _ _).mp q))))) k) ?_
  show Goes _ _ _ _ T28 (mkF m 10 #[.val (.ref o), .val (.long fi), .second, .val (.long la), .second, .val (.ref b), .unset, .unset, .unset, .unset, .unset, .unset, .unset] [])
  refine Goes.go (fun _ k => XS.lloadN X28.here X28.ex rfl (hb hby d_prog_16_method_1_10) rfl (XS.lloadN X28.here X28.ex rfl (hb hby d_prog_16_method_1_11) rfl (XS.lcmp X28.here X28.ex rfl (hb hby d_prog_16_method_1_12) rfl k))) ?_
  show Goes _ _ _ _ T28 (mkF m 13 #[.val (.ref o), .val (.long fi), .second, .val (.long la), .second, .val (.ref b), .unset, .unset, .unset, .unset, .unset, .unset, .unset] [(.int (lcmpW fi la))])
  refine Goes.go (fun _ k => XS.ifYes X28.here X28.ex rfl (pc0 := 13) (pc' := 31) rfl (hb hby d_prog_16_method_1_13) rfl ((if0 _ _).trans (cd_t (cd := .le) (x := (lcmpW fi la)) (y := (0 : Int32)) ((fun q => pb ((lw_gt _ _).mp q))))) (by decide) (by decide) k) ?_
  show Goes _ _ _ _ T28 (mkF m 31 #[.val (.ref o), .val (.long fi), .second, .val (.long la), .second, .val (.ref b), .unset, .unset, .unset, .unset, .unset, .unset, .unset] [])
  refine Goes.go (fun _ k => XS.lloadN X28.here X28.ex rfl (hb hby d_prog_16_method_1_31) rfl (XS.lconst X28.here X28.ex rfl (hb hby d_prog_16_method_1_32) (XS.lsub X28.here X28.ex rfl (hb hby d_prog_16_method_1_33) rfl (XS.lstore X28.here X28.ex rfl (hb hby d_prog_16_method_1_34) rfl (l' := #[.val (.ref o), .val (.long fi), .second, .val (.long la), .second, .val (.ref b), .val (.long (fi - (1 : Int64))), .second, .unset, .unset, .unset, .unset, .unset]) rfl (XS.aload X28.here X28.ex rfl (hb hby d_prog_16_method_1_36) rfl rfl (XS.astore X28.here X28.ex rfl (hb hby d_prog_16_method_1_38) rfl rfl (l' := #[.val (.ref o), .val (.long fi), .second, .val (.long la), .second, .val (.ref b), .val (.long (fi - (1 : Int64))), .second, .val (.ref b), .unset, .unset, .unset, .unset]) rfl k)))))) ?_
  show Goes _ _ _ _ T28 (mkF m 40 #[.val (.ref o), .val (.long fi), .second, .val (.long la), .second, .val (.ref b), .val (.long (fi - (1 : Int64))), .second, .val (.ref b), .unset, .unset, .unset, .unset] [])
  refine Goes.go (fun _ k => XS.aload X28.here X28.ex rfl (hb hby d_prog_16_method_1_40) rfl rfl k) ?_
  show Goes _ _ _ _ T28 (mkF m 42 #[.val (.ref o), .val (.long fi), .second, .val (.long la), .second, .val (.ref b), .val (.long (fi - (1 : Int64))), .second, .val (.ref b), .unset, .unset, .unset, .unset] [(.ref b)])
  refine Goes.go (X28.alen V rfl rfl (hb hby d_prog_16_method_1_42)) ?_
  show Goes _ _ _ _ T28 (mkF m 43 #[.val (.ref o), .val (.long fi), .second, .val (.long la), .second, .val (.ref b), .val (.long (fi - (1 : Int64))), .second, .val (.ref b), .unset, .unset, .unset, .unset] [(.int (2 : Int32))])
  refine Goes.go (fun _ k => XS.istore X28.here X28.ex rfl (hb hby d_prog_16_method_1_43) rfl (l' := #[.val (.ref o), .val (.long fi), .second, .val (.long la), .second, .val (.ref b), .val (.long (fi - (1 : Int64))), .second, .val (.ref b), .val (.int (2 : Int32)), .unset, .unset, .unset]) rfl (XS.iconst X28.here X28.ex rfl (hb hby d_prog_16_method_1_45) (XS.istore X28.here X28.ex rfl (hb hby d_prog_16_method_1_46) rfl (l' := #[.val (.ref o), .val (.long fi), .second, .val (.long la), .second, .val (.ref b), .val (.long (fi - (1 : Int64))), .second, .val (.ref b), .val (.int (2 : Int32)), .val (.int (0 : Int32)), .unset, .unset]) rfl (XS.iload X28.here X28.ex rfl (hb hby d_prog_16_method_1_48) rfl (XS.iload X28.here X28.ex rfl (hb hby d_prog_16_method_1_50) rfl (XS.icmpNo X28.here X28.ex rfl (hb hby d_prog_16_method_1_52) rfl (cd_f (cd := .ge) (x := (0 : Int32)) (y := (2 : Int32)) (by decide)) k)))))) ?_
  show Goes _ _ _ _ T28 (mkF m 55 #[.val (.ref o), .val (.long fi), .second, .val (.long la), .second, .val (.ref b), .val (.long (fi - (1 : Int64))), .second, .val (.ref b), .val (.int (2 : Int32)), .val (.int (0 : Int32)), .unset, .unset] [])
  refine Goes.go (fun _ k => XS.aload X28.here X28.ex rfl (hb hby d_prog_16_method_1_55) rfl rfl (XS.iload X28.here X28.ex rfl (hb hby d_prog_16_method_1_57) rfl k)) ?_
  show Goes _ _ _ _ T28 (mkF m 59 #[.val (.ref o), .val (.long fi), .second, .val (.long la), .second, .val (.ref b), .val (.long (fi - (1 : Int64))), .second, .val (.ref b), .val (.int (2 : Int32)), .val (.int (0 : Int32)), .unset, .unset] [(.int (0 : Int32)), (.ref b)])
  refine Goes.go (X28.laload V ⟨by decide, by decide⟩ (v := .long x) rfl rfl rfl (hb hby d_prog_16_method_1_59)) ?_
  show Goes _ _ _ _ T28 (mkF m 60 #[.val (.ref o), .val (.long fi), .second, .val (.long la), .second, .val (.ref b), .val (.long (fi - (1 : Int64))), .second, .val (.ref b), .val (.int (2 : Int32)), .val (.int (0 : Int32)), .unset, .unset] [(.long x)])
  refine Goes.go (fun _ k => XS.lstore X28.here X28.ex rfl (hb hby d_prog_16_method_1_60) rfl (l' := #[.val (.ref o), .val (.long fi), .second, .val (.long la), .second, .val (.ref b), .val (.long (fi - (1 : Int64))), .second, .val (.ref b), .val (.int (2 : Int32)), .val (.int (0 : Int32)), .val (.long x), .second]) rfl (XS.lload X28.here X28.ex rfl (hb hby d_prog_16_method_1_62) rfl (XS.lload X28.here X28.ex rfl (hb hby d_prog_16_method_1_64) rfl (XS.lcmp X28.here X28.ex rfl (hb hby d_prog_16_method_1_66) rfl k)))) ?_
  show Goes _ _ _ _ T28 (mkF m 67 #[.val (.ref o), .val (.long fi), .second, .val (.long la), .second, .val (.ref b), .val (.long (fi - (1 : Int64))), .second, .val (.ref b), .val (.int (2 : Int32)), .val (.int (0 : Int32)), .val (.long x), .second] [(.int (lcmpW x (fi - (1 : Int64))))])
  refine Goes.go (fun _ k => XS.ifNo X28.here X28.ex rfl (hb hby d_prog_16_method_1_67) rfl ((if0 _ _).trans (cd_f (cd := .le) (x := (lcmpW x (fi - (1 : Int64)))) (y := (0 : Int32)) ((fun q => absurd ((lw_gt _ _).mpr p1) q)))) k) ?_
  show Goes _ _ _ _ T28 (mkF m 70 #[.val (.ref o), .val (.long fi), .second, .val (.long la), .second, .val (.ref b), .val (.long (fi - (1 : Int64))), .second, .val (.ref b), .val (.int (2 : Int32)), .val (.int (0 : Int32)), .val (.long x), .second] [])
  refine Goes.go (fun _ k => XS.lload X28.here X28.ex rfl (hb hby d_prog_16_method_1_70) rfl (XS.lloadN X28.here X28.ex rfl (hb hby d_prog_16_method_1_72) rfl (XS.lcmp X28.here X28.ex rfl (hb hby d_prog_16_method_1_73) rfl k))) ?_
  show Goes _ _ _ _ T28 (mkF m 74 #[.val (.ref o), .val (.long fi), .second, .val (.long la), .second, .val (.ref b), .val (.long (fi - (1 : Int64))), .second, .val (.ref b), .val (.int (2 : Int32)), .val (.int (0 : Int32)), .val (.long x), .second] [(.int (lcmpW x la))])
  refine Goes.go (fun _ k => XS.ifYes X28.here X28.ex rfl (pc0 := 74) (pc' := 97) rfl (hb hby d_prog_16_method_1_74) rfl ((if0 _ _).trans (cd_t (cd := .le) (x := (lcmpW x la)) (y := (0 : Int32)) ((fun q => p2 ((lw_gt _ _).mp q))))) (by decide) (by decide) k) ?_
  show Goes _ _ _ _ T28 (mkF m 97 #[.val (.ref o), .val (.long fi), .second, .val (.long la), .second, .val (.ref b), .val (.long (fi - (1 : Int64))), .second, .val (.ref b), .val (.int (2 : Int32)), .val (.int (0 : Int32)), .val (.long x), .second] [])
  refine Goes.go (fun _ k => XS.lload X28.here X28.ex rfl (hb hby d_prog_16_method_1_97) rfl (XS.lstore X28.here X28.ex rfl (hb hby d_prog_16_method_1_99) rfl (l' := #[.val (.ref o), .val (.long fi), .second, .val (.long la), .second, .val (.ref b), .val (.long x), .second, .val (.ref b), .val (.int (2 : Int32)), .val (.int (0 : Int32)), .val (.long x), .second]) rfl (XS.iinc X28.here X28.ex rfl (hb hby d_prog_16_method_1_101) rfl (l' := #[.val (.ref o), .val (.long fi), .second, .val (.long la), .second, .val (.ref b), .val (.long x), .second, .val (.ref b), .val (.int (2 : Int32)), .val (.int ((0 : Int32) + (1 : Int32))), .val (.long x), .second]) rfl k))) ?_
  show Goes _ _ _ _ T28 (mkF m 104 #[.val (.ref o), .val (.long fi), .second, .val (.long la), .second, .val (.ref b), .val (.long x), .second, .val (.ref b), .val (.int (2 : Int32)), .val (.int ((0 : Int32) + (1 : Int32))), .val (.long x), .second] [])
  refine Goes.cast (congrArg (fun zq_ => (mkF m 104 #[.val (.ref o), .val (.long fi), .second, .val (.long la), .second, .val (.ref b), .val (.long x), .second, .val (.ref b), .val (.int (2 : Int32)), .val (.int zq_), .val (.long x), .second] [])) (show (((0 : Int32) + (1 : Int32)) : Int32) = (1 : Int32) from by decide)) ?_
  show Goes _ _ _ _ T28 (mkF m 104 #[.val (.ref o), .val (.long fi), .second, .val (.long la), .second, .val (.ref b), .val (.long x), .second, .val (.ref b), .val (.int (2 : Int32)), .val (.int (1 : Int32)), .val (.long x), .second] [])
  refine Goes.go (fun _ k => XS.goto X28.here X28.ex rfl (pc0 := 104) (pc' := 48) rfl (hb hby d_prog_16_method_1_104) (by decide) (by decide) (XS.iload X28.here X28.ex rfl (hb hby d_prog_16_method_1_48) rfl (XS.iload X28.here X28.ex rfl (hb hby d_prog_16_method_1_50) rfl (XS.icmpNo X28.here X28.ex rfl (hb hby d_prog_16_method_1_52) rfl (cd_f (cd := .ge) (x := (1 : Int32)) (y := (2 : Int32)) (by decide)) (XS.aload X28.here X28.ex rfl (hb hby d_prog_16_method_1_55) rfl rfl (XS.iload X28.here X28.ex rfl (hb hby d_prog_16_method_1_57) rfl k)))))) ?_
  show Goes _ _ _ _ T28 (mkF m 59 #[.val (.ref o), .val (.long fi), .second, .val (.long la), .second, .val (.ref b), .val (.long x), .second, .val (.ref b), .val (.int (2 : Int32)), .val (.int (1 : Int32)), .val (.long x), .second] [(.int (1 : Int32)), (.ref b)])
  refine Goes.go (X28.laload V ⟨by decide, by decide⟩ (v := .long y) rfl rfl rfl (hb hby d_prog_16_method_1_59)) ?_
  show Goes _ _ _ _ T28 (mkF m 60 #[.val (.ref o), .val (.long fi), .second, .val (.long la), .second, .val (.ref b), .val (.long x), .second, .val (.ref b), .val (.int (2 : Int32)), .val (.int (1 : Int32)), .val (.long x), .second] [(.long y)])
  refine Goes.go (fun _ k => XS.lstore X28.here X28.ex rfl (hb hby d_prog_16_method_1_60) rfl (l' := #[.val (.ref o), .val (.long fi), .second, .val (.long la), .second, .val (.ref b), .val (.long x), .second, .val (.ref b), .val (.int (2 : Int32)), .val (.int (1 : Int32)), .val (.long y), .second]) rfl (XS.lload X28.here X28.ex rfl (hb hby d_prog_16_method_1_62) rfl (XS.lload X28.here X28.ex rfl (hb hby d_prog_16_method_1_64) rfl (XS.lcmp X28.here X28.ex rfl (hb hby d_prog_16_method_1_66) rfl k)))) ?_
  show Goes _ _ _ _ T28 (mkF m 67 #[.val (.ref o), .val (.long fi), .second, .val (.long la), .second, .val (.ref b), .val (.long x), .second, .val (.ref b), .val (.int (2 : Int32)), .val (.int (1 : Int32)), .val (.long y), .second] [(.int (lcmpW y x))])
  refine Goes.go (fun _ k => XS.ifNo X28.here X28.ex rfl (hb hby d_prog_16_method_1_67) rfl ((if0 _ _).trans (cd_f (cd := .le) (x := (lcmpW y x)) (y := (0 : Int32)) ((fun q => absurd ((lw_gt _ _).mpr p3) q)))) k) ?_
  show Goes _ _ _ _ T28 (mkF m 70 #[.val (.ref o), .val (.long fi), .second, .val (.long la), .second, .val (.ref b), .val (.long x), .second, .val (.ref b), .val (.int (2 : Int32)), .val (.int (1 : Int32)), .val (.long y), .second] [])
  refine Goes.go (fun _ k => XS.lload X28.here X28.ex rfl (hb hby d_prog_16_method_1_70) rfl (XS.lloadN X28.here X28.ex rfl (hb hby d_prog_16_method_1_72) rfl (XS.lcmp X28.here X28.ex rfl (hb hby d_prog_16_method_1_73) rfl k))) ?_
  show Goes _ _ _ _ T28 (mkF m 74 #[.val (.ref o), .val (.long fi), .second, .val (.long la), .second, .val (.ref b), .val (.long x), .second, .val (.ref b), .val (.int (2 : Int32)), .val (.int (1 : Int32)), .val (.long y), .second] [(.int (lcmpW y la))])
  refine Goes.go (fun _ k => XS.ifYes X28.here X28.ex rfl (pc0 := 74) (pc' := 97) rfl (hb hby d_prog_16_method_1_74) rfl ((if0 _ _).trans (cd_t (cd := .le) (x := (lcmpW y la)) (y := (0 : Int32)) ((fun q => p4 ((lw_gt _ _).mp q))))) (by decide) (by decide) k) ?_
  show Goes _ _ _ _ T28 (mkF m 97 #[.val (.ref o), .val (.long fi), .second, .val (.long la), .second, .val (.ref b), .val (.long x), .second, .val (.ref b), .val (.int (2 : Int32)), .val (.int (1 : Int32)), .val (.long y), .second] [])
  refine Goes.go (fun _ k => XS.lload X28.here X28.ex rfl (hb hby d_prog_16_method_1_97) rfl (XS.lstore X28.here X28.ex rfl (hb hby d_prog_16_method_1_99) rfl (l' := #[.val (.ref o), .val (.long fi), .second, .val (.long la), .second, .val (.ref b), .val (.long y), .second, .val (.ref b), .val (.int (2 : Int32)), .val (.int (1 : Int32)), .val (.long y), .second]) rfl (XS.iinc X28.here X28.ex rfl (hb hby d_prog_16_method_1_101) rfl (l' := #[.val (.ref o), .val (.long fi), .second, .val (.long la), .second, .val (.ref b), .val (.long y), .second, .val (.ref b), .val (.int (2 : Int32)), .val (.int ((1 : Int32) + (1 : Int32))), .val (.long y), .second]) rfl k))) ?_
  show Goes _ _ _ _ T28 (mkF m 104 #[.val (.ref o), .val (.long fi), .second, .val (.long la), .second, .val (.ref b), .val (.long y), .second, .val (.ref b), .val (.int (2 : Int32)), .val (.int ((1 : Int32) + (1 : Int32))), .val (.long y), .second] [])
  refine Goes.cast (congrArg (fun zq_ => (mkF m 104 #[.val (.ref o), .val (.long fi), .second, .val (.long la), .second, .val (.ref b), .val (.long y), .second, .val (.ref b), .val (.int (2 : Int32)), .val (.int zq_), .val (.long y), .second] [])) (show (((1 : Int32) + (1 : Int32)) : Int32) = (2 : Int32) from by decide)) ?_
  show Goes _ _ _ _ T28 (mkF m 104 #[.val (.ref o), .val (.long fi), .second, .val (.long la), .second, .val (.ref b), .val (.long y), .second, .val (.ref b), .val (.int (2 : Int32)), .val (.int (2 : Int32)), .val (.long y), .second] [])
  refine Goes.go (fun _ k => XS.goto X28.here X28.ex rfl (pc0 := 104) (pc' := 48) rfl (hb hby d_prog_16_method_1_104) (by decide) (by decide) (XS.iload X28.here X28.ex rfl (hb hby d_prog_16_method_1_48) rfl (XS.iload X28.here X28.ex rfl (hb hby d_prog_16_method_1_50) rfl (XS.icmpYes X28.here X28.ex rfl (pc0 := 52) (pc' := 107) rfl (hb hby d_prog_16_method_1_52) rfl (cd_t (cd := .ge) (x := (2 : Int32)) (y := (2 : Int32)) (by decide)) (by decide) (by decide) (XS.aload X28.here X28.ex rfl (hb hby d_prog_16_method_1_107) rfl rfl k))))) ?_
  show Goes _ _ _ _ T28 (mkF m 109 #[.val (.ref o), .val (.long fi), .second, .val (.long la), .second, .val (.ref b), .val (.long y), .second, .val (.ref b), .val (.int (2 : Int32)), .val (.int (2 : Int32)), .val (.long y), .second] [(.ref b)])
  refine Goes.go (X28.alen V rfl rfl (hb hby d_prog_16_method_1_109)) ?_
  show Goes _ _ _ _ T28 (mkF m 110 #[.val (.ref o), .val (.long fi), .second, .val (.long la), .second, .val (.ref b), .val (.long y), .second, .val (.ref b), .val (.int (2 : Int32)), .val (.int (2 : Int32)), .val (.long y), .second] [(.int (2 : Int32))])
  refine Goes.go (fun _ k => XS.i2l X28.here X28.ex rfl (hb hby d_prog_16_method_1_110) rfl k) ?_
  show Goes _ _ _ _ T28 (mkF m 111 #[.val (.ref o), .val (.long fi), .second, .val (.long la), .second, .val (.ref b), .val (.long y), .second, .val (.ref b), .val (.int (2 : Int32)), .val (.int (2 : Int32)), .val (.long y), .second] [(.long ((2 : Int32).toInt64))])
  refine Goes.cast (congrArg (fun zq_ => (mkF m 111 #[.val (.ref o), .val (.long fi), .second, .val (.long la), .second, .val (.ref b), .val (.long y), .second, .val (.ref b), .val (.int (2 : Int32)), .val (.int (2 : Int32)), .val (.long y), .second] [(.long zq_)])) (show (((2 : Int32).toInt64) : Int64) = (2 : Int64) from by decide)) ?_
  show Goes _ _ _ _ T28 (mkF m 111 #[.val (.ref o), .val (.long fi), .second, .val (.long la), .second, .val (.ref b), .val (.long y), .second, .val (.ref b), .val (.int (2 : Int32)), .val (.int (2 : Int32)), .val (.long y), .second] [(.long (2 : Int64))])
  refine Goes.go (fun _ k => XS.lloadN X28.here X28.ex rfl (hb hby d_prog_16_method_1_111) rfl (XS.lloadN X28.here X28.ex rfl (hb hby d_prog_16_method_1_112) rfl (XS.lsub X28.here X28.ex rfl (hb hby d_prog_16_method_1_113) rfl (XS.lcmp X28.here X28.ex rfl (hb hby d_prog_16_method_1_114) rfl k)))) ?_
  show Goes _ _ _ _ T28 (mkF m 115 #[.val (.ref o), .val (.long fi), .second, .val (.long la), .second, .val (.ref b), .val (.long y), .second, .val (.ref b), .val (.int (2 : Int32)), .val (.int (2 : Int32)), .val (.long y), .second] [(.int (lcmpW (2 : Int64) (la - fi)))])
  refine Goes.go (fun _ k => XS.ifYes X28.here X28.ex rfl (pc0 := 115) (pc' := 133) rfl (hb hby d_prog_16_method_1_115) rfl ((if0 _ _).trans (cd_t (cd := .le) (x := (lcmpW (2 : Int64) (la - fi))) (y := (0 : Int32)) ((fun q => pw ((lw_gt _ _).mp q))))) (by decide) (by decide) k) ?_
  show Goes _ _ _ _ T28 (mkF m 133 #[.val (.ref o), .val (.long fi), .second, .val (.long la), .second, .val (.ref b), .val (.long y), .second, .val (.ref b), .val (.int (2 : Int32)), .val (.int (2 : Int32)), .val (.long y), .second] [])
  refine Goes.go (fun _ k => XS.aloadN X28.here X28.ex rfl (hb hby d_prog_16_method_1_133) rfl rfl (XS.lloadN X28.here X28.ex rfl (hb hby d_prog_16_method_1_134) rfl k)) ?_
  show Goes _ _ _ _ T28 (mkF m 135 #[.val (.ref o), .val (.long fi), .second, .val (.long la), .second, .val (.ref b), .val (.long y), .second, .val (.ref b), .val (.int (2 : Int32)), .val (.int (2 : Int32)), .val (.long y), .second] [(.long fi), (.ref o)])
  have nbo : b ≠ o := (Exa.neArv E_o V (w_7 hw)).symm
  refine Wk.putF (hm' := fun h' => h') X28 (host := "") (Or.inl (w_15 hw)) Via.refl F_o_first E_o (Or.inr ⟨(w_16 hw), rfl, hnm⟩) (w_7 hw) (ty := .long) (by decide) rfl rfl gz_o (fun _ => Mark.anew (allS (Or.inr SafeA.nil) all0)) rfl rfl (hb hby d_prog_16_method_1_135) ?_
  intro T29 h29 X29 W29
  have F29 := F_o_first.same W29
  replace E_o := E_o.wr W29
  replace V := V.other W29 nbo
  replace B := B.wr W29
  replace F_o_last := F_o_last.other W29 (Or.inr (slot_ne (Or.inr (w_18 hw)) (Or.inr (w_16 hw)) (by decide) (t := .long) (t' := .long) (by decide) (by decide)))
  replace F_o_committed := F_o_committed.other W29 (Or.inr (slot_ne (Or.inr (w_29 hw)) (Or.inr (w_16 hw)) (by decide) (t := (.array .long)) (t' := .long) (by decide) (by decide)))
  clear F_o_first; have F_o_first := F29
  show Goes _ _ _ _ T29 (mkF m 138 #[.val (.ref o), .val (.long fi), .second, .val (.long la), .second, .val (.ref b), .val (.long y), .second, .val (.ref b), .val (.int (2 : Int32)), .val (.int (2 : Int32)), .val (.long y), .second] [])
  replace K0 := K0.wr W29 (Or.inl (List.mem_of_getElem? (i := 0) rfl))
  refine Goes.go (fun _ k => XS.aloadN X29.here X29.ex rfl (hb hby d_prog_16_method_1_138) rfl rfl (XS.lloadN X29.here X29.ex rfl (hb hby d_prog_16_method_1_139) rfl k)) ?_
  show Goes _ _ _ _ T29 (mkF m 140 #[.val (.ref o), .val (.long fi), .second, .val (.long la), .second, .val (.ref b), .val (.long y), .second, .val (.ref b), .val (.int (2 : Int32)), .val (.int (2 : Int32)), .val (.long y), .second] [(.long la), (.ref o)])
  refine Wk.putF (hm' := fun h' => h') X29 (host := "") (Or.inl (w_17 hw)) Via.refl F_o_last E_o (Or.inr ⟨(w_18 hw), rfl, hnm⟩) (w_7 hw) (ty := .long) (by decide) rfl rfl gz_o (fun _ => Mark.anew (allS (Or.inr SafeA.nil) all0)) rfl rfl (hb hby d_prog_16_method_1_140) ?_
  intro T30 h30 X30 W30
  have F30 := F_o_last.same W30
  replace E_o := E_o.wr W30
  replace V := V.other W30 nbo
  replace B := B.wr W30
  replace F_o_committed := F_o_committed.other W30 (Or.inr (slot_ne (Or.inr (w_29 hw)) (Or.inr (w_18 hw)) (by decide) (t := (.array .long)) (t' := .long) (by decide) (by decide)))
  replace F_o_first := F_o_first.other W30 (Or.inr (slot_ne (Or.inr (w_16 hw)) (Or.inr (w_18 hw)) (by decide) (t := .long) (t' := .long) (by decide) (by decide)))
  clear F_o_last; have F_o_last := F30
  show Goes _ _ _ _ T30 (mkF m 143 #[.val (.ref o), .val (.long fi), .second, .val (.long la), .second, .val (.ref b), .val (.long y), .second, .val (.ref b), .val (.int (2 : Int32)), .val (.int (2 : Int32)), .val (.long y), .second] [])
  replace K0 := K0.wr W30 (Or.inl (List.mem_of_getElem? (i := 0) rfl))
  refine Goes.go (fun _ k => XS.aloadN X30.here X30.ex rfl (hb hby d_prog_16_method_1_143) rfl rfl (XS.aload X30.here X30.ex rfl (hb hby d_prog_16_method_1_144) rfl rfl k)) ?_
  show Goes _ _ _ _ T30 (mkF m 146 #[.val (.ref o), .val (.long fi), .second, .val (.long la), .second, .val (.ref b), .val (.long y), .second, .val (.ref b), .val (.int (2 : Int32)), .val (.int (2 : Int32)), .val (.long y), .second] [(.ref b), (.ref o)])
  refine Wk.cloneV (ad := "[J") X30 (w_19 hw) (w_20 hw) (w_24 hw) (w_22 hw) (w_23 hw) (w_25 hw) V B rfl (by rw [hml]; rfl) rfl (hb hby d_prog_16_method_1_146) (by decide) (W := 1) (by show 2 * 0 + _ ≤ _; exact Nat.le_of_eq rfl) (by decide) (cap := 2) (by decide) (by decide) (by decide) ?_
  intro T31 h31 b31 g31 X31 E31 V31 B31
  replace E_o := E_o.ext E31
  replace V := V.ext E31
  replace B := B.ext E31
  replace F_o_committed := F_o_committed.ext E31
  replace F_o_first := F_o_first.ext E31
  replace F_o_last := F_o_last.ext E31
  replace K0 := K0.ext E31
  show Goes _ _ _ _ T31 (mkF m 149 #[.val (.ref o), .val (.long fi), .second, .val (.long la), .second, .val (.ref b), .val (.long y), .second, .val (.ref b), .val (.int (2 : Int32)), .val (.int (2 : Int32)), .val (.long y), .second] [(.ref b31), (.ref o)])
  refine Wk.castY X31 (w_26 hw) (Ins.self B31) rfl rfl (hb hby d_prog_16_method_1_149) ?_
  intro T32 X32
  show Goes _ _ _ _ T32 (mkF m 152 #[.val (.ref o), .val (.long fi), .second, .val (.long la), .second, .val (.ref b), .val (.long y), .second, .val (.ref b), .val (.int (2 : Int32)), .val (.int (2 : Int32)), .val (.long y), .second] [(.ref b31), (.ref o)])
  have nco : b31 ≠ o := (Exa.neArv E_o V31 (w_7 hw)).symm
  refine Wk.putF (hm' := fun h' => h') X32 (host := "") (Or.inl (w_28 hw)) Via.refl F_o_committed E_o (Or.inr ⟨(w_29 hw), rfl, hnm⟩) (w_7 hw) (ty := (.array .long)) (by decide) rfl rfl gz_o (fun _ => Mark.anew (allS (Or.inr SafeA.nil) all0)) rfl rfl (hb hby d_prog_16_method_1_152) ?_
  intro T33 h33 X33 W33
  have F33 := F_o_committed.same W33
  replace E_o := E_o.wr W33
  replace V := V.other W33 nbo
  replace B := B.wr W33
  replace F_o_first := F_o_first.other W33 (Or.inr (slot_ne (Or.inr (w_16 hw)) (Or.inr (w_29 hw)) (by decide) (t := .long) (t' := (.array .long)) (by decide) (by decide)))
  replace F_o_last := F_o_last.other W33 (Or.inr (slot_ne (Or.inr (w_18 hw)) (Or.inr (w_29 hw)) (by decide) (t := .long) (t' := (.array .long)) (by decide) (by decide)))
  replace V31 := V31.other W33 nco
  replace B31 := B31.wr W33
  clear F_o_committed; have F_o_committed := F33
  show Goes _ _ _ _ T33 (mkF m 155 #[.val (.ref o), .val (.long fi), .second, .val (.long la), .second, .val (.ref b), .val (.long y), .second, .val (.ref b), .val (.int (2 : Int32)), .val (.int (2 : Int32)), .val (.long y), .second] [])
  replace K0 := K0.wr W33 (Or.inl (List.mem_of_getElem? (i := 0) rfl))
  refine Goes.outN X33 (fun _ => rfl) hlk (X33.rV hret (hb hby d_prog_16_method_1_155)) ?_ (by decide) (by decide)
  exact ⟨K0, rfl, E_o, F_o_first, F_o_last, b31, kA, F_o_committed, V31⟩
set_option maxRecDepth 65536 in
set_option maxHeartbeats 40000000 in
theorem own_law (l : Launch) (Z : State) (a0 : Array Value) (hw : ∀ d ∈ tables_1, d.before a0 Z = true) (h0 : Heap) (hO : Ext Z.heap h0) (i0 : Int64) (i1 : Int64) (i2 : Int64) (i3 : Int64) (i4 : Int64) (i5 : Int32)  :
    CtrN l Z x code maxLocals ret room_1 #[(.long i0), (.long i1), (.long i2), (.long i3), (.long i4), (.int i5)] h0 (fun v h' => v = some (.int (1 : Int32))) := by
  refine CtrN.of (plainFor_of_name pn_2) hO ?_
  intro p e s m below meth c T0 X0 hsh hby hml hret hlk hnm
  refine Goes.cast (ef_own_law m i0 i1 i2 i3 i4 i5) ?_
  show Goes _ _ _ _ T0 (mkF m 0 #[.val (.long i0), .second, .val (.long i1), .second, .val (.long i2), .second, .val (.long i3), .second, .val (.long i4), .second, .val (.int i5), .unset, .unset, .unset, .unset, .unset, .unset, .unset, .unset, .unset, .unset, .unset, .unset, .unset, .unset, .unset, .unset, .unset, .unset, .unset] [])
  refine Goes.go (fun _ k => XS.lconst X0.here X0.ex rfl (hb hby at_0) (XS.lloadN X0.here X0.ex rfl (hb hby at_1) rfl k)) ?_
  show Goes _ _ _ _ T0 (mkF m 2 #[.val (.long i0), .second, .val (.long i1), .second, .val (.long i2), .second, .val (.long i3), .second, .val (.long i4), .second, .val (.int i5), .unset, .unset, .unset, .unset, .unset, .unset, .unset, .unset, .unset, .unset, .unset, .unset, .unset, .unset, .unset, .unset, .unset, .unset, .unset] [(.long i0), (.long (1 : Int64))])
  refine Goes.go (X0.ldcL (w_0 hw) rfl (hb hby at_2)) ?_
  show Goes _ _ _ _ T0 (mkF m 5 #[.val (.long i0), .second, .val (.long i1), .second, .val (.long i2), .second, .val (.long i3), .second, .val (.long i4), .second, .val (.int i5), .unset, .unset, .unset, .unset, .unset, .unset, .unset, .unset, .unset, .unset, .unset, .unset, .unset, .unset, .unset, .unset, .unset, .unset, .unset] [(.long (9223372036854775807 : Int64)), (.long i0), (.long (1 : Int64))])
  refine Goes.go (fun _ k => XS.land X0.here X0.ex rfl (hb hby at_5) rfl k) ?_
  show Goes _ _ _ _ T0 (mkF m 6 #[.val (.long i0), .second, .val (.long i1), .second, .val (.long i2), .second, .val (.long i3), .second, .val (.long i4), .second, .val (.int i5), .unset, .unset, .unset, .unset, .unset, .unset, .unset, .unset, .unset, .unset, .unset, .unset, .unset, .unset, .unset, .unset, .unset, .unset, .unset] [(.long (i0 &&& (9223372036854775807 : Int64))), (.long (1 : Int64))])
  refine Wk.static (hm' := fun _ => h0) (y := (⟨"java/lang/Math", "max", "(JJ)J"⟩ : MethodName)) (W := 0) (kc := 0) (ks := 0) (argsL := [(.long (1 : Int64)), (.long (i0 &&& (9223372036854775807 : Int64)))]) (rest := []) (as' := #[(.long (1 : Int64)), (.long (i0 &&& (9223372036854775807 : Int64)))]) (ws := []) X0 (w_1 hw) (w_2 hw) (w_3 hw) (w_4 hw) (by decide) (CtrN.pays (own_max l Z a0 hw h0 X0.old (1 : Int64) (i0 &&& (9223372036854775807 : Int64))) (w_4 hw) (w_3 hw) (by decide) (by decide)) (fun v h' L q => ⟨q.2, q.1.1⟩) all0 (fun _ => Mark.stay all0) rfl (by rw [hml]; rfl) (lenOf pd_2 rfl) rfl rfl (by show 2 * 0 + _ ≤ _; exact Nat.le_of_eq rfl) (hb hby at_6) (by decide) (by decide) ?_
  intro T34 h34 v34 L34 X34 q34 K34
  obtain ⟨⟨-, rfl⟩, -⟩ := q34
  show Goes _ _ _ _ T34 (mkF m 9 #[.val (.long i0), .second, .val (.long i1), .second, .val (.long i2), .second, .val (.long i3), .second, .val (.long i4), .second, .val (.int i5), .unset, .unset, .unset, .unset, .unset, .unset, .unset, .unset, .unset, .unset, .unset, .unset, .unset, .unset, .unset, .unset, .unset, .unset, .unset] [(.long (if (lcmpW (1 : Int64) (i0 &&& (9223372036854775807 : Int64))) < (0 : Int32) then (i0 &&& (9223372036854775807 : Int64)) else (1 : Int64)))])
  obtain ⟨fi, hfi⟩ : ∃ z : Int64, z = (if (lcmpW (1 : Int64) (i0 &&& (9223372036854775807 : Int64))) < (0 : Int32) then (i0 &&& (9223372036854775807 : Int64)) else (1 : Int64)) := ⟨_, rfl⟩
  refine Goes.cast (show (mkF m 9 #[.val (.long i0), .second, .val (.long i1), .second, .val (.long i2), .second, .val (.long i3), .second, .val (.long i4), .second, .val (.int i5), .unset, .unset, .unset, .unset, .unset, .unset, .unset, .unset, .unset, .unset, .unset, .unset, .unset, .unset, .unset, .unset, .unset, .unset, .unset] [(.long (if (lcmpW (1 : Int64) (i0 &&& (9223372036854775807 : Int64))) < (0 : Int32) then (i0 &&& (9223372036854775807 : Int64)) else (1 : Int64)))]) = (mkF m 9 #[.val (.long i0), .second, .val (.long i1), .second, .val (.long i2), .second, .val (.long i3), .second, .val (.long i4), .second, .val (.int i5), .unset, .unset, .unset, .unset, .unset, .unset, .unset, .unset, .unset, .unset, .unset, .unset, .unset, .unset, .unset, .unset, .unset, .unset, .unset] [(.long fi)]) from by rw [hfi]) ?_
  show Goes _ _ _ _ T34 (mkF m 9 #[.val (.long i0), .second, .val (.long i1), .second, .val (.long i2), .second, .val (.long i3), .second, .val (.long i4), .second, .val (.int i5), .unset, .unset, .unset, .unset, .unset, .unset, .unset, .unset, .unset, .unset, .unset, .unset, .unset, .unset, .unset, .unset, .unset, .unset, .unset] [(.long fi)])
  have af : 1 ≤ fi.toInt := by rw [hfi]; exact own_first _
  refine Goes.go (fun _ k => XS.lstore X34.here X34.ex rfl (hb hby at_9) rfl (l' := #[.val (.long i0), .second, .val (.long i1), .second, .val (.long i2), .second, .val (.long i3), .second, .val (.long i4), .second, .val (.int i5), .val (.long fi), .second, .unset, .unset, .unset, .unset, .unset, .unset, .unset, .unset, .unset, .unset, .unset, .unset, .unset, .unset, .unset, .unset, .unset]) rfl (XS.lloadN X34.here X34.ex rfl (hb hby at_11) rfl k)) ?_
  show Goes _ _ _ _ T34 (mkF m 12 #[.val (.long i0), .second, .val (.long i1), .second, .val (.long i2), .second, .val (.long i3), .second, .val (.long i4), .second, .val (.int i5), .val (.long fi), .second, .unset, .unset, .unset, .unset, .unset, .unset, .unset, .unset, .unset, .unset, .unset, .unset, .unset, .unset, .unset, .unset, .unset] [(.long i1)])
  refine Goes.go (X34.ldcL (w_0 hw) rfl (hb hby at_12)) ?_
  show Goes _ _ _ _ T34 (mkF m 15 #[.val (.long i0), .second, .val (.long i1), .second, .val (.long i2), .second, .val (.long i3), .second, .val (.long i4), .second, .val (.int i5), .val (.long fi), .second, .unset, .unset, .unset, .unset, .unset, .unset, .unset, .unset, .unset, .unset, .unset, .unset, .unset, .unset, .unset, .unset, .unset] [(.long (9223372036854775807 : Int64)), (.long i1)])
  refine Goes.go (fun _ k => XS.land X34.here X34.ex rfl (hb hby at_15) rfl k) ?_
  show Goes _ _ _ _ T34 (mkF m 16 #[.val (.long i0), .second, .val (.long i1), .second, .val (.long i2), .second, .val (.long i3), .second, .val (.long i4), .second, .val (.int i5), .val (.long fi), .second, .unset, .unset, .unset, .unset, .unset, .unset, .unset, .unset, .unset, .unset, .unset, .unset, .unset, .unset, .unset, .unset, .unset] [(.long (i1 &&& (9223372036854775807 : Int64)))])
  refine Goes.go (X34.ldcL (w_0 hw) rfl (hb hby at_16)) ?_
  show Goes _ _ _ _ T34 (mkF m 19 #[.val (.long i0), .second, .val (.long i1), .second, .val (.long i2), .second, .val (.long i3), .second, .val (.long i4), .second, .val (.int i5), .val (.long fi), .second, .unset, .unset, .unset, .unset, .unset, .unset, .unset, .unset, .unset, .unset, .unset, .unset, .unset, .unset, .unset, .unset, .unset] [(.long (9223372036854775807 : Int64)), (.long (i1 &&& (9223372036854775807 : Int64)))])
  refine Goes.go (fun _ k => XS.lload X34.here X34.ex rfl (hb hby at_19) rfl (XS.lsub X34.here X34.ex rfl (hb hby at_21) rfl (XS.lconst X34.here X34.ex rfl (hb hby at_22) (XS.ladd X34.here X34.ex rfl (hb hby at_23) rfl k)))) ?_
  show Goes _ _ _ _ T34 (mkF m 24 #[.val (.long i0), .second, .val (.long i1), .second, .val (.long i2), .second, .val (.long i3), .second, .val (.long i4), .second, .val (.int i5), .val (.long fi), .second, .unset, .unset, .unset, .unset, .unset, .unset, .unset, .unset, .unset, .unset, .unset, .unset, .unset, .unset, .unset, .unset, .unset] [(.long (((9223372036854775807 : Int64) - fi) + (1 : Int64))), (.long (i1 &&& (9223372036854775807 : Int64)))])
  have ad := own_div fi af
  have nd : ¬ ((((9223372036854775807 : Int64) - fi) + (1 : Int64)) = (0 : Int64)) := own_nz (by rw [ad]; have := own_le fi; omega)
  refine Goes.go (fun _ k => XS.lrem X34.here X34.ex rfl (hb hby at_24) rfl nd (XS.lstore X34.here X34.ex rfl (hb hby at_25) rfl (l' := #[.val (.long i0), .second, .val (.long i1), .second, .val (.long i2), .second, .val (.long i3), .second, .val (.long i4), .second, .val (.int i5), .val (.long fi), .second, .val (.long ((i1 &&& (9223372036854775807 : Int64)) - ((i1 &&& (9223372036854775807 : Int64)) / (((9223372036854775807 : Int64) - fi) + (1 : Int64))) * (((9223372036854775807 : Int64) - fi) + (1 : Int64)))), .second, .unset, .unset, .unset, .unset, .unset, .unset, .unset, .unset, .unset, .unset, .unset, .unset, .unset, .unset, .unset]) rfl k)) ?_
  show Goes _ _ _ _ T34 (mkF m 27 #[.val (.long i0), .second, .val (.long i1), .second, .val (.long i2), .second, .val (.long i3), .second, .val (.long i4), .second, .val (.int i5), .val (.long fi), .second, .val (.long ((i1 &&& (9223372036854775807 : Int64)) - ((i1 &&& (9223372036854775807 : Int64)) / (((9223372036854775807 : Int64) - fi) + (1 : Int64))) * (((9223372036854775807 : Int64) - fi) + (1 : Int64)))), .second, .unset, .unset, .unset, .unset, .unset, .unset, .unset, .unset, .unset, .unset, .unset, .unset, .unset, .unset, .unset] [])
  obtain ⟨wd, hwd⟩ : ∃ z : Int64, z = ((i1 &&& (9223372036854775807 : Int64)) - ((i1 &&& (9223372036854775807 : Int64)) / (((9223372036854775807 : Int64) - fi) + (1 : Int64))) * (((9223372036854775807 : Int64) - fi) + (1 : Int64))) := ⟨_, rfl⟩
  refine Goes.cast (show (mkF m 27 #[.val (.long i0), .second, .val (.long i1), .second, .val (.long i2), .second, .val (.long i3), .second, .val (.long i4), .second, .val (.int i5), .val (.long fi), .second, .val (.long ((i1 &&& (9223372036854775807 : Int64)) - ((i1 &&& (9223372036854775807 : Int64)) / (((9223372036854775807 : Int64) - fi) + (1 : Int64))) * (((9223372036854775807 : Int64) - fi) + (1 : Int64)))), .second, .unset, .unset, .unset, .unset, .unset, .unset, .unset, .unset, .unset, .unset, .unset, .unset, .unset, .unset, .unset] []) = (mkF m 27 #[.val (.long i0), .second, .val (.long i1), .second, .val (.long i2), .second, .val (.long i3), .second, .val (.long i4), .second, .val (.int i5), .val (.long fi), .second, .val (.long wd), .second, .unset, .unset, .unset, .unset, .unset, .unset, .unset, .unset, .unset, .unset, .unset, .unset, .unset, .unset, .unset] []) from by rw [hwd]) ?_
  show Goes _ _ _ _ T34 (mkF m 27 #[.val (.long i0), .second, .val (.long i1), .second, .val (.long i2), .second, .val (.long i3), .second, .val (.long i4), .second, .val (.int i5), .val (.long fi), .second, .val (.long wd), .second, .unset, .unset, .unset, .unset, .unset, .unset, .unset, .unset, .unset, .unset, .unset, .unset, .unset, .unset, .unset] [])
  have aw : 0 ≤ wd.toInt ∧ wd.toInt < 9223372036854775807 - fi.toInt + 1 := by rw [hwd, ← ad]; exact own_lrem _ _ (by rw [ad]; have := own_le fi; omega)
  refine Goes.go (fun _ k => XS.lload X34.here X34.ex rfl (hb hby at_27) rfl (XS.lload X34.here X34.ex rfl (hb hby at_29) rfl (XS.ladd X34.here X34.ex rfl (hb hby at_31) rfl (XS.lstore X34.here X34.ex rfl (hb hby at_32) rfl (l' := #[.val (.long i0), .second, .val (.long i1), .second, .val (.long i2), .second, .val (.long i3), .second, .val (.long i4), .second, .val (.int i5), .val (.long fi), .second, .val (.long wd), .second, .val (.long (fi + wd)), .second, .unset, .unset, .unset, .unset, .unset, .unset, .unset, .unset, .unset, .unset, .unset, .unset, .unset]) rfl k)))) ?_
  show Goes _ _ _ _ T34 (mkF m 34 #[.val (.long i0), .second, .val (.long i1), .second, .val (.long i2), .second, .val (.long i3), .second, .val (.long i4), .second, .val (.int i5), .val (.long fi), .second, .val (.long wd), .second, .val (.long (fi + wd)), .second, .unset, .unset, .unset, .unset, .unset, .unset, .unset, .unset, .unset, .unset, .unset, .unset, .unset] [])
  obtain ⟨la, hla⟩ : ∃ z : Int64, z = (fi + wd) := ⟨_, rfl⟩
  refine Goes.cast (show (mkF m 34 #[.val (.long i0), .second, .val (.long i1), .second, .val (.long i2), .second, .val (.long i3), .second, .val (.long i4), .second, .val (.int i5), .val (.long fi), .second, .val (.long wd), .second, .val (.long (fi + wd)), .second, .unset, .unset, .unset, .unset, .unset, .unset, .unset, .unset, .unset, .unset, .unset, .unset, .unset] []) = (mkF m 34 #[.val (.long i0), .second, .val (.long i1), .second, .val (.long i2), .second, .val (.long i3), .second, .val (.long i4), .second, .val (.int i5), .val (.long fi), .second, .val (.long wd), .second, .val (.long la), .second, .unset, .unset, .unset, .unset, .unset, .unset, .unset, .unset, .unset, .unset, .unset, .unset, .unset] []) from by rw [hla]) ?_
  show Goes _ _ _ _ T34 (mkF m 34 #[.val (.long i0), .second, .val (.long i1), .second, .val (.long i2), .second, .val (.long i3), .second, .val (.long i4), .second, .val (.int i5), .val (.long fi), .second, .val (.long wd), .second, .val (.long la), .second, .unset, .unset, .unset, .unset, .unset, .unset, .unset, .unset, .unset, .unset, .unset, .unset, .unset] [])
  have al : la.toInt = fi.toInt + wd.toInt := by rw [hla]; exact own_ladd _ _ (by have := own_le fi; omega) (by omega)
  refine Goes.go (fun _ k => XS.iload X34.here X34.ex rfl (hb hby at_34) rfl (XS.iconst X34.here X34.ex rfl (hb hby at_36) (XS.iand X34.here X34.ex rfl (hb hby at_37) rfl (XS.iconst X34.here X34.ex rfl (hb hby at_38) (XS.irem X34.here X34.ex rfl (hb hby at_39) rfl (by decide) (XS.istore X34.here X34.ex rfl (hb hby at_40) rfl (l' := #[.val (.long i0), .second, .val (.long i1), .second, .val (.long i2), .second, .val (.long i3), .second, .val (.long i4), .second, .val (.int i5), .val (.long fi), .second, .val (.long wd), .second, .val (.long la), .second, .val (.int ((i5 &&& (3 : Int32)) - ((i5 &&& (3 : Int32)) / (3 : Int32)) * (3 : Int32))), .unset, .unset, .unset, .unset, .unset, .unset, .unset, .unset, .unset, .unset, .unset, .unset]) rfl k)))))) ?_
  show Goes _ _ _ _ T34 (mkF m 42 #[.val (.long i0), .second, .val (.long i1), .second, .val (.long i2), .second, .val (.long i3), .second, .val (.long i4), .second, .val (.int i5), .val (.long fi), .second, .val (.long wd), .second, .val (.long la), .second, .val (.int ((i5 &&& (3 : Int32)) - ((i5 &&& (3 : Int32)) / (3 : Int32)) * (3 : Int32))), .unset, .unset, .unset, .unset, .unset, .unset, .unset, .unset, .unset, .unset, .unset, .unset] [])
  obtain ⟨k0, hk0⟩ : ∃ z : Int32, z = ((i5 &&& (3 : Int32)) - ((i5 &&& (3 : Int32)) / (3 : Int32)) * (3 : Int32)) := ⟨_, rfl⟩
  refine Goes.cast (show (mkF m 42 #[.val (.long i0), .second, .val (.long i1), .second, .val (.long i2), .second, .val (.long i3), .second, .val (.long i4), .second, .val (.int i5), .val (.long fi), .second, .val (.long wd), .second, .val (.long la), .second, .val (.int ((i5 &&& (3 : Int32)) - ((i5 &&& (3 : Int32)) / (3 : Int32)) * (3 : Int32))), .unset, .unset, .unset, .unset, .unset, .unset, .unset, .unset, .unset, .unset, .unset, .unset] []) = (mkF m 42 #[.val (.long i0), .second, .val (.long i1), .second, .val (.long i2), .second, .val (.long i3), .second, .val (.long i4), .second, .val (.int i5), .val (.long fi), .second, .val (.long wd), .second, .val (.long la), .second, .val (.int k0), .unset, .unset, .unset, .unset, .unset, .unset, .unset, .unset, .unset, .unset, .unset, .unset] []) from by rw [hk0]) ?_
  show Goes _ _ _ _ T34 (mkF m 42 #[.val (.long i0), .second, .val (.long i1), .second, .val (.long i2), .second, .val (.long i3), .second, .val (.long i4), .second, .val (.int i5), .val (.long fi), .second, .val (.long wd), .second, .val (.long la), .second, .val (.int k0), .unset, .unset, .unset, .unset, .unset, .unset, .unset, .unset, .unset, .unset, .unset, .unset] [])
  have r0 : k0 = 0 ∨ k0 = 1 ∨ k0 = 2 := by rw [hk0]; exact own_rem3 _
  refine Goes.go (fun _ k => XS.iload X34.here X34.ex rfl (hb hby at_42) rfl (XS.i2l X34.here X34.ex rfl (hb hby at_44) rfl (XS.lload X34.here X34.ex rfl (hb hby at_45) rfl (XS.lcmp X34.here X34.ex rfl (hb hby at_47) rfl k)))) ?_
  show Goes _ _ _ _ T34 (mkF m 48 #[.val (.long i0), .second, .val (.long i1), .second, .val (.long i2), .second, .val (.long i3), .second, .val (.long i4), .second, .val (.int i5), .val (.long fi), .second, .val (.long wd), .second, .val (.long la), .second, .val (.int k0), .unset, .unset, .unset, .unset, .unset, .unset, .unset, .unset, .unset, .unset, .unset, .unset] [(.int (lcmpW (k0.toInt64) wd))])
  suffices hJ48 : Goes p.tables e below (EndN Z s room_1.cells room_1.slots (fun v h' => v = some (.int (1 : Int32)))) T34 (mkF m 56 #[.val (.long i0), .second, .val (.long i1), .second, .val (.long i2), .second, .val (.long i3), .second, .val (.long i4), .second, .val (.int i5), .val (.long fi), .second, .val (.long wd), .second, .val (.long la), .second, .val (.int (if (0 : Int32) < (lcmpW (k0.toInt64) wd) then (wd.toInt32) else k0)), .unset, .unset, .unset, .unset, .unset, .unset, .unset, .unset, .unset, .unset, .unset, .unset] []) by
    refine Goes.ifc (pc' := 56) X34.here X34.ex (hb hby at_48) (by decide) (by decide) (fun hr1 => ?_) (fun hr1 => ?_)
    · have hr1 : ¬ ((0 : Int32) < (lcmpW (k0.toInt64) wd)) := hr1
      show Goes _ _ _ _ T34 (mkF m 56 #[.val (.long i0), .second, .val (.long i1), .second, .val (.long i2), .second, .val (.long i3), .second, .val (.long i4), .second, .val (.int i5), .val (.long fi), .second, .val (.long wd), .second, .val (.long la), .second, .val (.int k0), .unset, .unset, .unset, .unset, .unset, .unset, .unset, .unset, .unset, .unset, .unset, .unset] [])
      (try simp only [if_neg hr1] at hJ48 ⊢)
      exact hJ48
    · have hr1 : (0 : Int32) < (lcmpW (k0.toInt64) wd) := Classical.not_not.mp hr1
      show Goes _ _ _ _ T34 (mkF m 51 #[.val (.long i0), .second, .val (.long i1), .second, .val (.long i2), .second, .val (.long i3), .second, .val (.long i4), .second, .val (.int i5), .val (.long fi), .second, .val (.long wd), .second, .val (.long la), .second, .val (.int k0), .unset, .unset, .unset, .unset, .unset, .unset, .unset, .unset, .unset, .unset, .unset, .unset] [])
      refine Goes.go (fun _ k => XS.lload X34.here X34.ex rfl (hb hby at_51) rfl (XS.l2i X34.here X34.ex rfl (hb hby at_53) rfl (XS.istore X34.here X34.ex rfl (hb hby at_54) rfl (l' := #[.val (.long i0), .second, .val (.long i1), .second, .val (.long i2), .second, .val (.long i3), .second, .val (.long i4), .second, .val (.int i5), .val (.long fi), .second, .val (.long wd), .second, .val (.long la), .second, .val (.int (wd.toInt32)), .unset, .unset, .unset, .unset, .unset, .unset, .unset, .unset, .unset, .unset, .unset, .unset]) rfl k))) ?_
      show Goes _ _ _ _ T34 (mkF m 56 #[.val (.long i0), .second, .val (.long i1), .second, .val (.long i2), .second, .val (.long i3), .second, .val (.long i4), .second, .val (.int i5), .val (.long fi), .second, .val (.long wd), .second, .val (.long la), .second, .val (.int (wd.toInt32)), .unset, .unset, .unset, .unset, .unset, .unset, .unset, .unset, .unset, .unset, .unset, .unset] [])
      (try simp only [if_pos hr1] at hJ48 ⊢)
      exact hJ48
  obtain ⟨kk, hkk⟩ : ∃ z : Int32, z = (if (0 : Int32) < (lcmpW (k0.toInt64) wd) then (wd.toInt32) else k0) := ⟨_, rfl⟩
  refine Goes.cast (show (mkF m 56 #[.val (.long i0), .second, .val (.long i1), .second, .val (.long i2), .second, .val (.long i3), .second, .val (.long i4), .second, .val (.int i5), .val (.long fi), .second, .val (.long wd), .second, .val (.long la), .second, .val (.int (if (0 : Int32) < (lcmpW (k0.toInt64) wd) then (wd.toInt32) else k0)), .unset, .unset, .unset, .unset, .unset, .unset, .unset, .unset, .unset, .unset, .unset, .unset] []) = (mkF m 56 #[.val (.long i0), .second, .val (.long i1), .second, .val (.long i2), .second, .val (.long i3), .second, .val (.long i4), .second, .val (.int i5), .val (.long fi), .second, .val (.long wd), .second, .val (.long la), .second, .val (.int kk), .unset, .unset, .unset, .unset, .unset, .unset, .unset, .unset, .unset, .unset, .unset, .unset] []) from by rw [hkk]) ?_
  show Goes _ _ _ _ T34 (mkF m 56 #[.val (.long i0), .second, .val (.long i1), .second, .val (.long i2), .second, .val (.long i3), .second, .val (.long i4), .second, .val (.int i5), .val (.long fi), .second, .val (.long wd), .second, .val (.long la), .second, .val (.int kk), .unset, .unset, .unset, .unset, .unset, .unset, .unset, .unset, .unset, .unset, .unset, .unset] [])
  have rk := own_kk k0 wd r0 aw.1
  rw [← hkk] at rk
  obtain ⟨rk, bk⟩ := rk
  clear hkk
  refine Goes.go (fun _ k => XS.lload X34.here X34.ex rfl (hb hby at_56) rfl (XS.lstore X34.here X34.ex rfl (hb hby at_58) rfl (l' := #[.val (.long i0), .second, .val (.long i1), .second, .val (.long i2), .second, .val (.long i3), .second, .val (.long i4), .second, .val (.int i5), .val (.long fi), .second, .val (.long wd), .second, .val (.long la), .second, .val (.int kk), .val (.long fi), .second, .unset, .unset, .unset, .unset, .unset, .unset, .unset, .unset, .unset, .unset]) rfl (XS.lload X34.here X34.ex rfl (hb hby at_60) rfl (XS.lstore X34.here X34.ex rfl (hb hby at_62) rfl (l' := #[.val (.long i0), .second, .val (.long i1), .second, .val (.long i2), .second, .val (.long i3), .second, .val (.long i4), .second, .val (.int i5), .val (.long fi), .second, .val (.long wd), .second, .val (.long la), .second, .val (.int kk), .val (.long fi), .second, .val (.long fi), .second, .unset, .unset, .unset, .unset, .unset, .unset, .unset, .unset]) rfl k)))) ?_
  show Goes _ _ _ _ T34 (mkF m 64 #[.val (.long i0), .second, .val (.long i1), .second, .val (.long i2), .second, .val (.long i3), .second, .val (.long i4), .second, .val (.int i5), .val (.long fi), .second, .val (.long wd), .second, .val (.long la), .second, .val (.int kk), .val (.long fi), .second, .val (.long fi), .second, .unset, .unset, .unset, .unset, .unset, .unset, .unset, .unset] [])
  rcases rk with rfl | rfl | rfl
  · show Goes _ _ _ _ T34 (mkF m 64 #[.val (.long i0), .second, .val (.long i1), .second, .val (.long i2), .second, .val (.long i3), .second, .val (.long i4), .second, .val (.int i5), .val (.long fi), .second, .val (.long wd), .second, .val (.long la), .second, .val (.int (0 : Int32)), .val (.long fi), .second, .val (.long fi), .second, .unset, .unset, .unset, .unset, .unset, .unset, .unset, .unset] [])
    refine Goes.go (fun _ k => XS.iload X34.here X34.ex rfl (hb hby at_64) rfl (XS.iconst X34.here X34.ex rfl (hb hby at_66) (XS.icmpYes X34.here X34.ex rfl (pc0 := 67) (pc' := 86) rfl (hb hby at_67) rfl (cd_t (cd := .ne) (x := (0 : Int32)) (y := (1 : Int32)) (by decide)) (by decide) (by decide) (XS.iload X34.here X34.ex rfl (hb hby at_86) rfl (XS.iconst X34.here X34.ex rfl (hb hby at_88) (XS.icmpYes X34.here X34.ex rfl (pc0 := 89) (pc' := 125) rfl (hb hby at_89) rfl (cd_t (cd := .ne) (x := (0 : Int32)) (y := (2 : Int32)) (by decide)) (by decide) (by decide) k)))))) ?_
    show Goes _ _ _ _ T34 (mkF m 125 #[.val (.long i0), .second, .val (.long i1), .second, .val (.long i2), .second, .val (.long i3), .second, .val (.long i4), .second, .val (.int i5), .val (.long fi), .second, .val (.long wd), .second, .val (.long la), .second, .val (.int (0 : Int32)), .val (.long fi), .second, .val (.long fi), .second, .unset, .unset, .unset, .unset, .unset, .unset, .unset, .unset] [])
    refine Goes.go (fun _ k => XS.iload X34.here X34.ex rfl (hb hby at_125) rfl (XS.ifNo X34.here X34.ex rfl (hb hby at_127) rfl ((if0 _ _).trans (cd_f (cd := .ne) (x := (0 : Int32)) (y := (0 : Int32)) (by decide))) (XS.iconst X34.here X34.ex rfl (hb hby at_130) k))) ?_
    show Goes _ _ _ _ T34 (mkF m 131 #[.val (.long i0), .second, .val (.long i1), .second, .val (.long i2), .second, .val (.long i3), .second, .val (.long i4), .second, .val (.int i5), .val (.long fi), .second, .val (.long wd), .second, .val (.long la), .second, .val (.int (0 : Int32)), .val (.long fi), .second, .val (.long fi), .second, .unset, .unset, .unset, .unset, .unset, .unset, .unset, .unset] [(.int (0 : Int32))])
    refine Wk.newA (aty := .long) X34 (w_5 hw) rfl (hb hby at_131) rfl (by decide) (cap := 0) (by decide) (by decide) (by decide) (by decide) ?_
    intro T35 h35 b35 k35 g35 X35 E35 A35 B_b35
    have V_b35 : Arv Z h35 b35 k35 .long (0 : Int32) [] (.long (0 : Int64)) := A35.pad (pad_rep [] (.long (0 : Int64)) 0)
    have gz_b35 : Z.heap.size ≤ b35 := g35 ▸ X34.old.1
    have gm_b35 : h0.size ≤ b35 := g35 ▸ X34.ext.1
    show Goes _ _ _ _ T35 (mkF m 133 #[.val (.long i0), .second, .val (.long i1), .second, .val (.long i2), .second, .val (.long i3), .second, .val (.long i4), .second, .val (.int i5), .val (.long fi), .second, .val (.long wd), .second, .val (.long la), .second, .val (.int (0 : Int32)), .val (.long fi), .second, .val (.long fi), .second, .unset, .unset, .unset, .unset, .unset, .unset, .unset, .unset] [(.ref b35)])
    refine Goes.go (fun _ k => XS.goto X35.here X35.ex rfl (pc0 := 133) (pc' := 166) rfl (hb hby at_133) (by decide) (by decide) (XS.astore X35.here X35.ex rfl (hb hby at_166) rfl rfl (l' := #[.val (.long i0), .second, .val (.long i1), .second, .val (.long i2), .second, .val (.long i3), .second, .val (.long i4), .second, .val (.int i5), .val (.long fi), .second, .val (.long wd), .second, .val (.long la), .second, .val (.int (0 : Int32)), .val (.long fi), .second, .val (.long fi), .second, .val (.ref b35), .unset, .unset, .unset, .unset, .unset, .unset, .unset]) rfl (XS.iload X35.here X35.ex rfl (hb hby at_168) rfl (XS.iconst X35.here X35.ex rfl (hb hby at_170) (XS.iushr X35.here X35.ex rfl (hb hby at_171) rfl (XS.bipush X35.here X35.ex rfl (hb hby at_172) k)))))) ?_
    show Goes _ _ _ _ T35 (mkF m 174 #[.val (.long i0), .second, .val (.long i1), .second, .val (.long i2), .second, .val (.long i3), .second, .val (.long i4), .second, .val (.int i5), .val (.long fi), .second, .val (.long wd), .second, .val (.long la), .second, .val (.int (0 : Int32)), .val (.long fi), .second, .val (.long fi), .second, .val (.ref b35), .unset, .unset, .unset, .unset, .unset, .unset, .unset] [(.int (7 : Int32)), (.int ((i5.toUInt32 >>> ((2 : Int32) &&& 31).toUInt32).toInt32))])
    refine Goes.go (fun _ k => XS.iand X35.here X35.ex rfl (hb hby at_174) rfl (XS.istore X35.here X35.ex rfl (hb hby at_175) rfl (l' := #[.val (.long i0), .second, .val (.long i1), .second, .val (.long i2), .second, .val (.long i3), .second, .val (.long i4), .second, .val (.int i5), .val (.long fi), .second, .val (.long wd), .second, .val (.long la), .second, .val (.int (0 : Int32)), .val (.long fi), .second, .val (.long fi), .second, .val (.ref b35), .val (.int (((i5.toUInt32 >>> ((2 : Int32) &&& 31).toUInt32).toInt32) &&& (7 : Int32))), .unset, .unset, .unset, .unset, .unset, .unset]) rfl (XS.lload X35.here X35.ex rfl (hb hby at_177) rfl (XS.lstore X35.here X35.ex rfl (hb hby at_179) rfl (l' := #[.val (.long i0), .second, .val (.long i1), .second, .val (.long i2), .second, .val (.long i3), .second, .val (.long i4), .second, .val (.int i5), .val (.long fi), .second, .val (.long wd), .second, .val (.long la), .second, .val (.int (0 : Int32)), .val (.long fi), .second, .val (.long fi), .second, .val (.ref b35), .val (.int (((i5.toUInt32 >>> ((2 : Int32) &&& 31).toUInt32).toInt32) &&& (7 : Int32))), .val (.long i4), .second, .unset, .unset, .unset, .unset]) rfl k)))) ?_
    show Goes _ _ _ _ T35 (mkF m 181 #[.val (.long i0), .second, .val (.long i1), .second, .val (.long i2), .second, .val (.long i3), .second, .val (.long i4), .second, .val (.int i5), .val (.long fi), .second, .val (.long wd), .second, .val (.long la), .second, .val (.int (0 : Int32)), .val (.long fi), .second, .val (.long fi), .second, .val (.ref b35), .val (.int (((i5.toUInt32 >>> ((2 : Int32) &&& 31).toUInt32).toInt32) &&& (7 : Int32))), .val (.long i4), .second, .unset, .unset, .unset, .unset] [])
    obtain ⟨mo, hmo⟩ : ∃ z : Int32, z = (((i5.toUInt32 >>> ((2 : Int32) &&& 31).toUInt32).toInt32) &&& (7 : Int32)) := ⟨_, rfl⟩
    refine Goes.cast (show (mkF m 181 #[.val (.long i0), .second, .val (.long i1), .second, .val (.long i2), .second, .val (.long i3), .second, .val (.long i4), .second, .val (.int i5), .val (.long fi), .second, .val (.long wd), .second, .val (.long la), .second, .val (.int (0 : Int32)), .val (.long fi), .second, .val (.long fi), .second, .val (.ref b35), .val (.int (((i5.toUInt32 >>> ((2 : Int32) &&& 31).toUInt32).toInt32) &&& (7 : Int32))), .val (.long i4), .second, .unset, .unset, .unset, .unset] []) = (mkF m 181 #[.val (.long i0), .second, .val (.long i1), .second, .val (.long i2), .second, .val (.long i3), .second, .val (.long i4), .second, .val (.int i5), .val (.long fi), .second, .val (.long wd), .second, .val (.long la), .second, .val (.int (0 : Int32)), .val (.long fi), .second, .val (.long fi), .second, .val (.ref b35), .val (.int mo), .val (.long i4), .second, .unset, .unset, .unset, .unset] []) from by rw [hmo]) ?_
    show Goes _ _ _ _ T35 (mkF m 181 #[.val (.long i0), .second, .val (.long i1), .second, .val (.long i2), .second, .val (.long i3), .second, .val (.long i4), .second, .val (.int i5), .val (.long fi), .second, .val (.long wd), .second, .val (.long la), .second, .val (.int (0 : Int32)), .val (.long fi), .second, .val (.long fi), .second, .val (.ref b35), .val (.int mo), .val (.long i4), .second, .unset, .unset, .unset, .unset] [])
    refine Goes.go (fun _ k => XS.iload X35.here X35.ex rfl (hb hby at_181) rfl (XS.iconst X35.here X35.ex rfl (hb hby at_183) k)) ?_
    show Goes _ _ _ _ T35 (mkF m 184 #[.val (.long i0), .second, .val (.long i1), .second, .val (.long i2), .second, .val (.long i3), .second, .val (.long i4), .second, .val (.int i5), .val (.long fi), .second, .val (.long wd), .second, .val (.long la), .second, .val (.int (0 : Int32)), .val (.long fi), .second, .val (.long fi), .second, .val (.ref b35), .val (.int mo), .val (.long i4), .second, .unset, .unset, .unset, .unset] [(.int (1 : Int32)), (.int mo)])
    suffices hJ184 : Goes p.tables e below (EndN Z s room_1.cells room_1.slots (fun v h' => v = some (.int (1 : Int32)))) T35 (mkF m 277 #[.val (.long i0), .second, .val (.long i1), .second, .val (.long i2), .second, .val (.long i3), .second, .val (.long i4), .second, .val (.int i5), .val (.long fi), .second, .val (.long wd), .second, .val (.long la), .second, .val (.int (0 : Int32)), .val (.long fi), .second, .val (.long fi), .second, .val (.ref b35), .val (.int mo), .val (.long (if mo = (1 : Int32) then (fi - (1 : Int64)) else (if mo = (2 : Int32) then fi else (if mo = (3 : Int32) then la else (if mo = (4 : Int32) then (la + (1 : Int64)) else (if mo = (5 : Int32) then fi else (if mo = (6 : Int32) then fi else (if mo = (7 : Int32) then (fi + (1 : Int64)) else i4)))))))), .second, .unset, .unset, .unset, .unset] []) by
      refine Goes.icmp (pc' := 196) X35.here X35.ex (hb hby at_184) (by decide) (by decide) (fun hr1 => ?_) (fun hr1 => ?_)
      · have hr1 : ¬ (mo = (1 : Int32)) := hr1
        show Goes _ _ _ _ T35 (mkF m 196 #[.val (.long i0), .second, .val (.long i1), .second, .val (.long i2), .second, .val (.long i3), .second, .val (.long i4), .second, .val (.int i5), .val (.long fi), .second, .val (.long wd), .second, .val (.long la), .second, .val (.int (0 : Int32)), .val (.long fi), .second, .val (.long fi), .second, .val (.ref b35), .val (.int mo), .val (.long i4), .second, .unset, .unset, .unset, .unset] [])
        refine Goes.go (fun _ k => XS.iload X35.here X35.ex rfl (hb hby at_196) rfl (XS.iconst X35.here X35.ex rfl (hb hby at_198) k)) ?_
        show Goes _ _ _ _ T35 (mkF m 199 #[.val (.long i0), .second, .val (.long i1), .second, .val (.long i2), .second, .val (.long i3), .second, .val (.long i4), .second, .val (.int i5), .val (.long fi), .second, .val (.long wd), .second, .val (.long la), .second, .val (.int (0 : Int32)), .val (.long fi), .second, .val (.long fi), .second, .val (.ref b35), .val (.int mo), .val (.long i4), .second, .unset, .unset, .unset, .unset] [(.int (2 : Int32)), (.int mo)])
        refine Goes.icmp (pc' := 209) X35.here X35.ex (hb hby at_199) (by decide) (by decide) (fun hr2 => ?_) (fun hr2 => ?_)
        · have hr2 : ¬ (mo = (2 : Int32)) := hr2
          show Goes _ _ _ _ T35 (mkF m 209 #[.val (.long i0), .second, .val (.long i1), .second, .val (.long i2), .second, .val (.long i3), .second, .val (.long i4), .second, .val (.int i5), .val (.long fi), .second, .val (.long wd), .second, .val (.long la), .second, .val (.int (0 : Int32)), .val (.long fi), .second, .val (.long fi), .second, .val (.ref b35), .val (.int mo), .val (.long i4), .second, .unset, .unset, .unset, .unset] [])
          refine Goes.go (fun _ k => XS.iload X35.here X35.ex rfl (hb hby at_209) rfl (XS.iconst X35.here X35.ex rfl (hb hby at_211) k)) ?_
          show Goes _ _ _ _ T35 (mkF m 212 #[.val (.long i0), .second, .val (.long i1), .second, .val (.long i2), .second, .val (.long i3), .second, .val (.long i4), .second, .val (.int i5), .val (.long fi), .second, .val (.long wd), .second, .val (.long la), .second, .val (.int (0 : Int32)), .val (.long fi), .second, .val (.long fi), .second, .val (.ref b35), .val (.int mo), .val (.long i4), .second, .unset, .unset, .unset, .unset] [(.int (3 : Int32)), (.int mo)])
          refine Goes.icmp (pc' := 222) X35.here X35.ex (hb hby at_212) (by decide) (by decide) (fun hr3 => ?_) (fun hr3 => ?_)
          · have hr3 : ¬ (mo = (3 : Int32)) := hr3
            show Goes _ _ _ _ T35 (mkF m 222 #[.val (.long i0), .second, .val (.long i1), .second, .val (.long i2), .second, .val (.long i3), .second, .val (.long i4), .second, .val (.int i5), .val (.long fi), .second, .val (.long wd), .second, .val (.long la), .second, .val (.int (0 : Int32)), .val (.long fi), .second, .val (.long fi), .second, .val (.ref b35), .val (.int mo), .val (.long i4), .second, .unset, .unset, .unset, .unset] [])
            refine Goes.go (fun _ k => XS.iload X35.here X35.ex rfl (hb hby at_222) rfl (XS.iconst X35.here X35.ex rfl (hb hby at_224) k)) ?_
            show Goes _ _ _ _ T35 (mkF m 225 #[.val (.long i0), .second, .val (.long i1), .second, .val (.long i2), .second, .val (.long i3), .second, .val (.long i4), .second, .val (.int i5), .val (.long fi), .second, .val (.long wd), .second, .val (.long la), .second, .val (.int (0 : Int32)), .val (.long fi), .second, .val (.long fi), .second, .val (.ref b35), .val (.int mo), .val (.long i4), .second, .unset, .unset, .unset, .unset] [(.int (4 : Int32)), (.int mo)])
            refine Goes.icmp (pc' := 237) X35.here X35.ex (hb hby at_225) (by decide) (by decide) (fun hr4 => ?_) (fun hr4 => ?_)
            · have hr4 : ¬ (mo = (4 : Int32)) := hr4
              show Goes _ _ _ _ T35 (mkF m 237 #[.val (.long i0), .second, .val (.long i1), .second, .val (.long i2), .second, .val (.long i3), .second, .val (.long i4), .second, .val (.int i5), .val (.long fi), .second, .val (.long wd), .second, .val (.long la), .second, .val (.int (0 : Int32)), .val (.long fi), .second, .val (.long fi), .second, .val (.ref b35), .val (.int mo), .val (.long i4), .second, .unset, .unset, .unset, .unset] [])
              refine Goes.go (fun _ k => XS.iload X35.here X35.ex rfl (hb hby at_237) rfl (XS.iconst X35.here X35.ex rfl (hb hby at_239) k)) ?_
              show Goes _ _ _ _ T35 (mkF m 240 #[.val (.long i0), .second, .val (.long i1), .second, .val (.long i2), .second, .val (.long i3), .second, .val (.long i4), .second, .val (.int i5), .val (.long fi), .second, .val (.long wd), .second, .val (.long la), .second, .val (.int (0 : Int32)), .val (.long fi), .second, .val (.long fi), .second, .val (.ref b35), .val (.int mo), .val (.long i4), .second, .unset, .unset, .unset, .unset] [(.int (5 : Int32)), (.int mo)])
              refine Goes.icmp (pc' := 250) X35.here X35.ex (hb hby at_240) (by decide) (by decide) (fun hr5 => ?_) (fun hr5 => ?_)
              · have hr5 : ¬ (mo = (5 : Int32)) := hr5
                show Goes _ _ _ _ T35 (mkF m 250 #[.val (.long i0), .second, .val (.long i1), .second, .val (.long i2), .second, .val (.long i3), .second, .val (.long i4), .second, .val (.int i5), .val (.long fi), .second, .val (.long wd), .second, .val (.long la), .second, .val (.int (0 : Int32)), .val (.long fi), .second, .val (.long fi), .second, .val (.ref b35), .val (.int mo), .val (.long i4), .second, .unset, .unset, .unset, .unset] [])
                refine Goes.go (fun _ k => XS.iload X35.here X35.ex rfl (hb hby at_250) rfl (XS.bipush X35.here X35.ex rfl (hb hby at_252) k)) ?_
                show Goes _ _ _ _ T35 (mkF m 254 #[.val (.long i0), .second, .val (.long i1), .second, .val (.long i2), .second, .val (.long i3), .second, .val (.long i4), .second, .val (.int i5), .val (.long fi), .second, .val (.long wd), .second, .val (.long la), .second, .val (.int (0 : Int32)), .val (.long fi), .second, .val (.long fi), .second, .val (.ref b35), .val (.int mo), .val (.long i4), .second, .unset, .unset, .unset, .unset] [(.int (6 : Int32)), (.int mo)])
                refine Goes.icmp (pc' := 264) X35.here X35.ex (hb hby at_254) (by decide) (by decide) (fun hr6 => ?_) (fun hr6 => ?_)
                · have hr6 : ¬ (mo = (6 : Int32)) := hr6
                  show Goes _ _ _ _ T35 (mkF m 264 #[.val (.long i0), .second, .val (.long i1), .second, .val (.long i2), .second, .val (.long i3), .second, .val (.long i4), .second, .val (.int i5), .val (.long fi), .second, .val (.long wd), .second, .val (.long la), .second, .val (.int (0 : Int32)), .val (.long fi), .second, .val (.long fi), .second, .val (.ref b35), .val (.int mo), .val (.long i4), .second, .unset, .unset, .unset, .unset] [])
                  refine Goes.go (fun _ k => XS.iload X35.here X35.ex rfl (hb hby at_264) rfl (XS.bipush X35.here X35.ex rfl (hb hby at_266) k)) ?_
                  show Goes _ _ _ _ T35 (mkF m 268 #[.val (.long i0), .second, .val (.long i1), .second, .val (.long i2), .second, .val (.long i3), .second, .val (.long i4), .second, .val (.int i5), .val (.long fi), .second, .val (.long wd), .second, .val (.long la), .second, .val (.int (0 : Int32)), .val (.long fi), .second, .val (.long fi), .second, .val (.ref b35), .val (.int mo), .val (.long i4), .second, .unset, .unset, .unset, .unset] [(.int (7 : Int32)), (.int mo)])
                  refine Goes.icmp (pc' := 277) X35.here X35.ex (hb hby at_268) (by decide) (by decide) (fun hr7 => ?_) (fun hr7 => ?_)
                  · have hr7 : ¬ (mo = (7 : Int32)) := hr7
                    show Goes _ _ _ _ T35 (mkF m 277 #[.val (.long i0), .second, .val (.long i1), .second, .val (.long i2), .second, .val (.long i3), .second, .val (.long i4), .second, .val (.int i5), .val (.long fi), .second, .val (.long wd), .second, .val (.long la), .second, .val (.int (0 : Int32)), .val (.long fi), .second, .val (.long fi), .second, .val (.ref b35), .val (.int mo), .val (.long i4), .second, .unset, .unset, .unset, .unset] [])
                    (try simp only [if_neg hr1, if_neg hr2, if_neg hr3, if_neg hr4, if_neg hr5, if_neg hr6, if_neg hr7] at hJ184 ⊢)
                    exact hJ184
                  · have hr7 : mo = (7 : Int32) := Classical.not_not.mp hr7
                    show Goes _ _ _ _ T35 (mkF m 271 #[.val (.long i0), .second, .val (.long i1), .second, .val (.long i2), .second, .val (.long i3), .second, .val (.long i4), .second, .val (.int i5), .val (.long fi), .second, .val (.long wd), .second, .val (.long la), .second, .val (.int (0 : Int32)), .val (.long fi), .second, .val (.long fi), .second, .val (.ref b35), .val (.int mo), .val (.long i4), .second, .unset, .unset, .unset, .unset] [])
                    refine Goes.go (fun _ k => XS.lload X35.here X35.ex rfl (hb hby at_271) rfl (XS.lconst X35.here X35.ex rfl (hb hby at_273) (XS.ladd X35.here X35.ex rfl (hb hby at_274) rfl (XS.lstore X35.here X35.ex rfl (hb hby at_275) rfl (l' := #[.val (.long i0), .second, .val (.long i1), .second, .val (.long i2), .second, .val (.long i3), .second, .val (.long i4), .second, .val (.int i5), .val (.long fi), .second, .val (.long wd), .second, .val (.long la), .second, .val (.int (0 : Int32)), .val (.long fi), .second, .val (.long fi), .second, .val (.ref b35), .val (.int mo), .val (.long (fi + (1 : Int64))), .second, .unset, .unset, .unset, .unset]) rfl k)))) ?_
                    show Goes _ _ _ _ T35 (mkF m 277 #[.val (.long i0), .second, .val (.long i1), .second, .val (.long i2), .second, .val (.long i3), .second, .val (.long i4), .second, .val (.int i5), .val (.long fi), .second, .val (.long wd), .second, .val (.long la), .second, .val (.int (0 : Int32)), .val (.long fi), .second, .val (.long fi), .second, .val (.ref b35), .val (.int mo), .val (.long (fi + (1 : Int64))), .second, .unset, .unset, .unset, .unset] [])
                    (try simp only [if_neg hr1, if_neg hr2, if_neg hr3, if_neg hr4, if_neg hr5, if_neg hr6, if_pos hr7] at hJ184 ⊢)
                    exact hJ184
                · have hr6 : mo = (6 : Int32) := Classical.not_not.mp hr6
                  show Goes _ _ _ _ T35 (mkF m 257 #[.val (.long i0), .second, .val (.long i1), .second, .val (.long i2), .second, .val (.long i3), .second, .val (.long i4), .second, .val (.int i5), .val (.long fi), .second, .val (.long wd), .second, .val (.long la), .second, .val (.int (0 : Int32)), .val (.long fi), .second, .val (.long fi), .second, .val (.ref b35), .val (.int mo), .val (.long i4), .second, .unset, .unset, .unset, .unset] [])
                  refine Goes.go (fun _ k => XS.lload X35.here X35.ex rfl (hb hby at_257) rfl (XS.lstore X35.here X35.ex rfl (hb hby at_259) rfl (l' := #[.val (.long i0), .second, .val (.long i1), .second, .val (.long i2), .second, .val (.long i3), .second, .val (.long i4), .second, .val (.int i5), .val (.long fi), .second, .val (.long wd), .second, .val (.long la), .second, .val (.int (0 : Int32)), .val (.long fi), .second, .val (.long fi), .second, .val (.ref b35), .val (.int mo), .val (.long fi), .second, .unset, .unset, .unset, .unset]) rfl (XS.goto X35.here X35.ex rfl (pc0 := 261) (pc' := 277) rfl (hb hby at_261) (by decide) (by decide) k))) ?_
                  show Goes _ _ _ _ T35 (mkF m 277 #[.val (.long i0), .second, .val (.long i1), .second, .val (.long i2), .second, .val (.long i3), .second, .val (.long i4), .second, .val (.int i5), .val (.long fi), .second, .val (.long wd), .second, .val (.long la), .second, .val (.int (0 : Int32)), .val (.long fi), .second, .val (.long fi), .second, .val (.ref b35), .val (.int mo), .val (.long fi), .second, .unset, .unset, .unset, .unset] [])
                  (try simp only [if_neg hr1, if_neg hr2, if_neg hr3, if_neg hr4, if_neg hr5, if_pos hr6] at hJ184 ⊢)
                  exact hJ184
              · have hr5 : mo = (5 : Int32) := Classical.not_not.mp hr5
                show Goes _ _ _ _ T35 (mkF m 243 #[.val (.long i0), .second, .val (.long i1), .second, .val (.long i2), .second, .val (.long i3), .second, .val (.long i4), .second, .val (.int i5), .val (.long fi), .second, .val (.long wd), .second, .val (.long la), .second, .val (.int (0 : Int32)), .val (.long fi), .second, .val (.long fi), .second, .val (.ref b35), .val (.int mo), .val (.long i4), .second, .unset, .unset, .unset, .unset] [])
                refine Goes.go (fun _ k => XS.lload X35.here X35.ex rfl (hb hby at_243) rfl (XS.lstore X35.here X35.ex rfl (hb hby at_245) rfl (l' := #[.val (.long i0), .second, .val (.long i1), .second, .val (.long i2), .second, .val (.long i3), .second, .val (.long i4), .second, .val (.int i5), .val (.long fi), .second, .val (.long wd), .second, .val (.long la), .second, .val (.int (0 : Int32)), .val (.long fi), .second, .val (.long fi), .second, .val (.ref b35), .val (.int mo), .val (.long fi), .second, .unset, .unset, .unset, .unset]) rfl (XS.goto X35.here X35.ex rfl (pc0 := 247) (pc' := 277) rfl (hb hby at_247) (by decide) (by decide) k))) ?_
                show Goes _ _ _ _ T35 (mkF m 277 #[.val (.long i0), .second, .val (.long i1), .second, .val (.long i2), .second, .val (.long i3), .second, .val (.long i4), .second, .val (.int i5), .val (.long fi), .second, .val (.long wd), .second, .val (.long la), .second, .val (.int (0 : Int32)), .val (.long fi), .second, .val (.long fi), .second, .val (.ref b35), .val (.int mo), .val (.long fi), .second, .unset, .unset, .unset, .unset] [])
                (try simp only [if_neg hr1, if_neg hr2, if_neg hr3, if_neg hr4, if_pos hr5] at hJ184 ⊢)
                exact hJ184
            · have hr4 : mo = (4 : Int32) := Classical.not_not.mp hr4
              show Goes _ _ _ _ T35 (mkF m 228 #[.val (.long i0), .second, .val (.long i1), .second, .val (.long i2), .second, .val (.long i3), .second, .val (.long i4), .second, .val (.int i5), .val (.long fi), .second, .val (.long wd), .second, .val (.long la), .second, .val (.int (0 : Int32)), .val (.long fi), .second, .val (.long fi), .second, .val (.ref b35), .val (.int mo), .val (.long i4), .second, .unset, .unset, .unset, .unset] [])
              refine Goes.go (fun _ k => XS.lload X35.here X35.ex rfl (hb hby at_228) rfl (XS.lconst X35.here X35.ex rfl (hb hby at_230) (XS.ladd X35.here X35.ex rfl (hb hby at_231) rfl (XS.lstore X35.here X35.ex rfl (hb hby at_232) rfl (l' := #[.val (.long i0), .second, .val (.long i1), .second, .val (.long i2), .second, .val (.long i3), .second, .val (.long i4), .second, .val (.int i5), .val (.long fi), .second, .val (.long wd), .second, .val (.long la), .second, .val (.int (0 : Int32)), .val (.long fi), .second, .val (.long fi), .second, .val (.ref b35), .val (.int mo), .val (.long (la + (1 : Int64))), .second, .unset, .unset, .unset, .unset]) rfl (XS.goto X35.here X35.ex rfl (pc0 := 234) (pc' := 277) rfl (hb hby at_234) (by decide) (by decide) k))))) ?_
              show Goes _ _ _ _ T35 (mkF m 277 #[.val (.long i0), .second, .val (.long i1), .second, .val (.long i2), .second, .val (.long i3), .second, .val (.long i4), .second, .val (.int i5), .val (.long fi), .second, .val (.long wd), .second, .val (.long la), .second, .val (.int (0 : Int32)), .val (.long fi), .second, .val (.long fi), .second, .val (.ref b35), .val (.int mo), .val (.long (la + (1 : Int64))), .second, .unset, .unset, .unset, .unset] [])
              (try simp only [if_neg hr1, if_neg hr2, if_neg hr3, if_pos hr4] at hJ184 ⊢)
              exact hJ184
          · have hr3 : mo = (3 : Int32) := Classical.not_not.mp hr3
            show Goes _ _ _ _ T35 (mkF m 215 #[.val (.long i0), .second, .val (.long i1), .second, .val (.long i2), .second, .val (.long i3), .second, .val (.long i4), .second, .val (.int i5), .val (.long fi), .second, .val (.long wd), .second, .val (.long la), .second, .val (.int (0 : Int32)), .val (.long fi), .second, .val (.long fi), .second, .val (.ref b35), .val (.int mo), .val (.long i4), .second, .unset, .unset, .unset, .unset] [])
            refine Goes.go (fun _ k => XS.lload X35.here X35.ex rfl (hb hby at_215) rfl (XS.lstore X35.here X35.ex rfl (hb hby at_217) rfl (l' := #[.val (.long i0), .second, .val (.long i1), .second, .val (.long i2), .second, .val (.long i3), .second, .val (.long i4), .second, .val (.int i5), .val (.long fi), .second, .val (.long wd), .second, .val (.long la), .second, .val (.int (0 : Int32)), .val (.long fi), .second, .val (.long fi), .second, .val (.ref b35), .val (.int mo), .val (.long la), .second, .unset, .unset, .unset, .unset]) rfl (XS.goto X35.here X35.ex rfl (pc0 := 219) (pc' := 277) rfl (hb hby at_219) (by decide) (by decide) k))) ?_
            show Goes _ _ _ _ T35 (mkF m 277 #[.val (.long i0), .second, .val (.long i1), .second, .val (.long i2), .second, .val (.long i3), .second, .val (.long i4), .second, .val (.int i5), .val (.long fi), .second, .val (.long wd), .second, .val (.long la), .second, .val (.int (0 : Int32)), .val (.long fi), .second, .val (.long fi), .second, .val (.ref b35), .val (.int mo), .val (.long la), .second, .unset, .unset, .unset, .unset] [])
            (try simp only [if_neg hr1, if_neg hr2, if_pos hr3] at hJ184 ⊢)
            exact hJ184
        · have hr2 : mo = (2 : Int32) := Classical.not_not.mp hr2
          show Goes _ _ _ _ T35 (mkF m 202 #[.val (.long i0), .second, .val (.long i1), .second, .val (.long i2), .second, .val (.long i3), .second, .val (.long i4), .second, .val (.int i5), .val (.long fi), .second, .val (.long wd), .second, .val (.long la), .second, .val (.int (0 : Int32)), .val (.long fi), .second, .val (.long fi), .second, .val (.ref b35), .val (.int mo), .val (.long i4), .second, .unset, .unset, .unset, .unset] [])
          refine Goes.go (fun _ k => XS.lload X35.here X35.ex rfl (hb hby at_202) rfl (XS.lstore X35.here X35.ex rfl (hb hby at_204) rfl (l' := #[.val (.long i0), .second, .val (.long i1), .second, .val (.long i2), .second, .val (.long i3), .second, .val (.long i4), .second, .val (.int i5), .val (.long fi), .second, .val (.long wd), .second, .val (.long la), .second, .val (.int (0 : Int32)), .val (.long fi), .second, .val (.long fi), .second, .val (.ref b35), .val (.int mo), .val (.long fi), .second, .unset, .unset, .unset, .unset]) rfl (XS.goto X35.here X35.ex rfl (pc0 := 206) (pc' := 277) rfl (hb hby at_206) (by decide) (by decide) k))) ?_
          show Goes _ _ _ _ T35 (mkF m 277 #[.val (.long i0), .second, .val (.long i1), .second, .val (.long i2), .second, .val (.long i3), .second, .val (.long i4), .second, .val (.int i5), .val (.long fi), .second, .val (.long wd), .second, .val (.long la), .second, .val (.int (0 : Int32)), .val (.long fi), .second, .val (.long fi), .second, .val (.ref b35), .val (.int mo), .val (.long fi), .second, .unset, .unset, .unset, .unset] [])
          (try simp only [if_neg hr1, if_pos hr2] at hJ184 ⊢)
          exact hJ184
      · have hr1 : mo = (1 : Int32) := Classical.not_not.mp hr1
        show Goes _ _ _ _ T35 (mkF m 187 #[.val (.long i0), .second, .val (.long i1), .second, .val (.long i2), .second, .val (.long i3), .second, .val (.long i4), .second, .val (.int i5), .val (.long fi), .second, .val (.long wd), .second, .val (.long la), .second, .val (.int (0 : Int32)), .val (.long fi), .second, .val (.long fi), .second, .val (.ref b35), .val (.int mo), .val (.long i4), .second, .unset, .unset, .unset, .unset] [])
        refine Goes.go (fun _ k => XS.lload X35.here X35.ex rfl (hb hby at_187) rfl (XS.lconst X35.here X35.ex rfl (hb hby at_189) (XS.lsub X35.here X35.ex rfl (hb hby at_190) rfl (XS.lstore X35.here X35.ex rfl (hb hby at_191) rfl (l' := #[.val (.long i0), .second, .val (.long i1), .second, .val (.long i2), .second, .val (.long i3), .second, .val (.long i4), .second, .val (.int i5), .val (.long fi), .second, .val (.long wd), .second, .val (.long la), .second, .val (.int (0 : Int32)), .val (.long fi), .second, .val (.long fi), .second, .val (.ref b35), .val (.int mo), .val (.long (fi - (1 : Int64))), .second, .unset, .unset, .unset, .unset]) rfl (XS.goto X35.here X35.ex rfl (pc0 := 193) (pc' := 277) rfl (hb hby at_193) (by decide) (by decide) k))))) ?_
        show Goes _ _ _ _ T35 (mkF m 277 #[.val (.long i0), .second, .val (.long i1), .second, .val (.long i2), .second, .val (.long i3), .second, .val (.long i4), .second, .val (.int i5), .val (.long fi), .second, .val (.long wd), .second, .val (.long la), .second, .val (.int (0 : Int32)), .val (.long fi), .second, .val (.long fi), .second, .val (.ref b35), .val (.int mo), .val (.long (fi - (1 : Int64))), .second, .unset, .unset, .unset, .unset] [])
        (try simp only [if_pos hr1] at hJ184 ⊢)
        exact hJ184
    obtain ⟨nb, hnb⟩ : ∃ z : Int64, z = (if mo = (1 : Int32) then (fi - (1 : Int64)) else (if mo = (2 : Int32) then fi else (if mo = (3 : Int32) then la else (if mo = (4 : Int32) then (la + (1 : Int64)) else (if mo = (5 : Int32) then fi else (if mo = (6 : Int32) then fi else (if mo = (7 : Int32) then (fi + (1 : Int64)) else i4))))))) := ⟨_, rfl⟩
    refine Goes.cast (show (mkF m 277 #[.val (.long i0), .second, .val (.long i1), .second, .val (.long i2), .second, .val (.long i3), .second, .val (.long i4), .second, .val (.int i5), .val (.long fi), .second, .val (.long wd), .second, .val (.long la), .second, .val (.int (0 : Int32)), .val (.long fi), .second, .val (.long fi), .second, .val (.ref b35), .val (.int mo), .val (.long (if mo = (1 : Int32) then (fi - (1 : Int64)) else (if mo = (2 : Int32) then fi else (if mo = (3 : Int32) then la else (if mo = (4 : Int32) then (la + (1 : Int64)) else (if mo = (5 : Int32) then fi else (if mo = (6 : Int32) then fi else (if mo = (7 : Int32) then (fi + (1 : Int64)) else i4)))))))), .second, .unset, .unset, .unset, .unset] []) = (mkF m 277 #[.val (.long i0), .second, .val (.long i1), .second, .val (.long i2), .second, .val (.long i3), .second, .val (.long i4), .second, .val (.int i5), .val (.long fi), .second, .val (.long wd), .second, .val (.long la), .second, .val (.int (0 : Int32)), .val (.long fi), .second, .val (.long fi), .second, .val (.ref b35), .val (.int mo), .val (.long nb), .second, .unset, .unset, .unset, .unset] []) from by rw [hnb]) ?_
    show Goes _ _ _ _ T35 (mkF m 277 #[.val (.long i0), .second, .val (.long i1), .second, .val (.long i2), .second, .val (.long i3), .second, .val (.long i4), .second, .val (.int i5), .val (.long fi), .second, .val (.long wd), .second, .val (.long la), .second, .val (.int (0 : Int32)), .val (.long fi), .second, .val (.long fi), .second, .val (.ref b35), .val (.int mo), .val (.long nb), .second, .unset, .unset, .unset, .unset] [])
    have X36 := X35.mark
    refine Wk.new X36 (w_6 hw) (w_7 hw) (w_8 hw) rfl (hb hby at_277) (by decide) (by decide) ?_
    intro T37 h37 a37 g37 X37 E37 A37 D37
    have lt_b35_a37 : b35 < a37 := by rw [g37]; exact V_b35.lt
    replace V_b35 := V_b35.ext E37
    replace B_b35 := B_b35.ext E37
    have gz_a37 : Z.heap.size ≤ a37 := g37 ▸ X36.old.1
    have gm_a37 : h35.size ≤ a37 := g37 ▸ X36.ext.1
    have F_a37_first : Fld Z h37 a37 "com/example/assent/assent/log/CrashSet" "first" "J" (.long (0 : Int64)) := D37 (Or.inr (w_16 hw)) (ty := .long) (by decide)
    have F_a37_last : Fld Z h37 a37 "com/example/assent/assent/log/CrashSet" "last" "J" (.long (0 : Int64)) := D37 (Or.inr (w_18 hw)) (ty := .long) (by decide)
    have F_a37_committed : Fld Z h37 a37 "com/example/assent/assent/log/CrashSet" "committed" "[J" .null := D37 (Or.inr (w_29 hw)) (ty := (.array .long)) (by decide)
    clear D37
    show Goes _ _ _ _ T37 (mkF m 280 #[.val (.long i0), .second, .val (.long i1), .second, .val (.long i2), .second, .val (.long i3), .second, .val (.long i4), .second, .val (.int i5), .val (.long fi), .second, .val (.long wd), .second, .val (.long la), .second, .val (.int (0 : Int32)), .val (.long fi), .second, .val (.long fi), .second, .val (.ref b35), .val (.int mo), .val (.long nb), .second, .unset, .unset, .unset, .unset] [(.ref a37)])
    refine Goes.go (fun _ k => XS.dup X37.here X37.ex rfl (hb hby at_280) rfl rfl (XS.lload X37.here X37.ex rfl (hb hby at_281) rfl (XS.lload X37.here X37.ex rfl (hb hby at_283) rfl (XS.aload X37.here X37.ex rfl (hb hby at_285) rfl rfl k)))) ?_
    show Goes _ _ _ _ T37 (mkF m 287 #[.val (.long i0), .second, .val (.long i1), .second, .val (.long i2), .second, .val (.long i3), .second, .val (.long i4), .second, .val (.int i5), .val (.long fi), .second, .val (.long wd), .second, .val (.long la), .second, .val (.int (0 : Int32)), .val (.long fi), .second, .val (.long fi), .second, .val (.ref b35), .val (.int mo), .val (.long nb), .second, .unset, .unset, .unset, .unset] [(.ref b35), (.long la), (.long fi), (.ref a37), (.ref a37)])
    have h1' : (1 : Int64).toInt = 1 := rfl
    have lf := own_le fi; have ll := own_le la
    have pa : ¬ fi < 1 := by rw [Int64.lt_iff_toInt_lt]; omega
    have pb : ¬ la < fi := by rw [Int64.lt_iff_toInt_lt]; omega
    have pw : ¬ (la - fi) < (0 : Int64) := by rw [Int64.lt_iff_toInt_lt, own_lsub la fi (by omega) (by omega), show ((0 : Int64)).toInt = 0 from rfl]; have : ((0 : Int32)).toInt = 0 := rfl; omega
    refine Wk.special (hm' := fun _ => h35) (y := (⟨"com/example/assent/assent/log/CrashSet", "<init>", "(JJ[J)V"⟩ : MethodName)) (W := 1) (kc := 1) (ks := 2) (argsL := [(.long fi), (.long la), (.ref b35)]) (rest := [(.ref a37)]) (as' := #[(.ref a37), (.long fi), (.long la), (.ref b35)]) (ws := [a37]) X37 rfl (w_9 hw) (w_10 hw) (w_11 hw) (by decide) (CtrN.pays (own_ini_0 l Z a0 hw h37 X37.old a37 fi la b35 _  A37 F_a37_first F_a37_last F_a37_committed gz_a37 V_b35 B_b35 pa pb pw) (w_11 hw) (w_8 hw) (by decide) (by decide)) (fun v h' L q => ⟨q.2, q.1.1⟩) (allS gz_a37 all0) (fun _ => Mark.stay (allS gm_a37 all0)) rfl (by rw [hml]; rfl) (lenOf pd_3 rfl) rfl rfl (by show 2 * 0 + _ ≤ _; exact Nat.le_of_eq rfl) (hb hby at_287) (by decide) (by decide) ?_
    intro T38 h38 v38 L38 X38 q38 K38
    obtain ⟨⟨-, rfl, Ex, Ff, Fl, b2, k2, Fc, V2⟩, -⟩ := q38
    show Goes _ _ _ _ T38 (mkF m 290 #[.val (.long i0), .second, .val (.long i1), .second, .val (.long i2), .second, .val (.long i3), .second, .val (.long i4), .second, .val (.int i5), .val (.long fi), .second, .val (.long wd), .second, .val (.long la), .second, .val (.int (0 : Int32)), .val (.long fi), .second, .val (.long fi), .second, .val (.ref b35), .val (.int mo), .val (.long nb), .second, .unset, .unset, .unset, .unset] [(.ref a37)])
    refine Goes.go (fun _ k => XS.astore X38.here X38.ex rfl (hb hby at_290) rfl rfl (l' := #[.val (.long i0), .second, .val (.long i1), .second, .val (.long i2), .second, .val (.long i3), .second, .val (.long i4), .second, .val (.int i5), .val (.long fi), .second, .val (.long wd), .second, .val (.long la), .second, .val (.int (0 : Int32)), .val (.long fi), .second, .val (.long fi), .second, .val (.ref b35), .val (.int mo), .val (.long nb), .second, .val (.ref a37), .unset, .unset, .unset]) rfl k) ?_
    show Goes _ _ _ _ T38 (mkF m 292 #[.val (.long i0), .second, .val (.long i1), .second, .val (.long i2), .second, .val (.long i3), .second, .val (.long i4), .second, .val (.int i5), .val (.long fi), .second, .val (.long wd), .second, .val (.long la), .second, .val (.int (0 : Int32)), .val (.long fi), .second, .val (.long fi), .second, .val (.ref b35), .val (.int mo), .val (.long nb), .second, .val (.ref a37), .unset, .unset, .unset] [])
    suffices hJ292 : Goes p.tables e below (EndN Z s room_1.cells room_1.slots (fun v h' => v = some (.int (1 : Int32)))) T38 (mkF m 313 #[.val (.long i0), .second, .val (.long i1), .second, .val (.long i2), .second, .val (.long i3), .second, .val (.long i4), .second, .val (.int i5), .val (.long fi), .second, .val (.long wd), .second, .val (.long la), .second, .val (.int (0 : Int32)), .val (.long fi), .second, .val (.long fi), .second, .val (.ref b35), .val (.int mo), .val (.long nb), .second, .val (.ref a37), .unset, .unset, .unset] [(.int (if (lcmpW nb fi) < (0 : Int32) then (0 : Int32) else (if (0 : Int32) < (lcmpW nb la) then (0 : Int32) else (1 : Int32))))]) by
      refine Goes.go (fun _ k => XS.lload X38.here X38.ex rfl (hb hby at_292) rfl (XS.lload X38.here X38.ex rfl (hb hby at_294) rfl (XS.lcmp X38.here X38.ex rfl (hb hby at_296) rfl k))) ?_
      show Goes _ _ _ _ T38 (mkF m 297 #[.val (.long i0), .second, .val (.long i1), .second, .val (.long i2), .second, .val (.long i3), .second, .val (.long i4), .second, .val (.int i5), .val (.long fi), .second, .val (.long wd), .second, .val (.long la), .second, .val (.int (0 : Int32)), .val (.long fi), .second, .val (.long fi), .second, .val (.ref b35), .val (.int mo), .val (.long nb), .second, .val (.ref a37), .unset, .unset, .unset] [(.int (lcmpW nb fi))])
      refine Goes.ifc (pc' := 312) X38.here X38.ex (hb hby at_297) (by decide) (by decide) (fun hr1 => ?_) (fun hr1 => ?_)
      · have hr1 : (lcmpW nb fi) < (0 : Int32) := hr1
        show Goes _ _ _ _ T38 (mkF m 312 #[.val (.long i0), .second, .val (.long i1), .second, .val (.long i2), .second, .val (.long i3), .second, .val (.long i4), .second, .val (.int i5), .val (.long fi), .second, .val (.long wd), .second, .val (.long la), .second, .val (.int (0 : Int32)), .val (.long fi), .second, .val (.long fi), .second, .val (.ref b35), .val (.int mo), .val (.long nb), .second, .val (.ref a37), .unset, .unset, .unset] [])
        refine Goes.go (fun _ k => XS.iconst X38.here X38.ex rfl (hb hby at_312) k) ?_
        show Goes _ _ _ _ T38 (mkF m 313 #[.val (.long i0), .second, .val (.long i1), .second, .val (.long i2), .second, .val (.long i3), .second, .val (.long i4), .second, .val (.int i5), .val (.long fi), .second, .val (.long wd), .second, .val (.long la), .second, .val (.int (0 : Int32)), .val (.long fi), .second, .val (.long fi), .second, .val (.ref b35), .val (.int mo), .val (.long nb), .second, .val (.ref a37), .unset, .unset, .unset] [(.int (0 : Int32))])
        (try simp only [if_pos hr1] at hJ292 ⊢)
        exact hJ292
      · have hr1 : ¬ ((lcmpW nb fi) < (0 : Int32)) := hr1
        show Goes _ _ _ _ T38 (mkF m 300 #[.val (.long i0), .second, .val (.long i1), .second, .val (.long i2), .second, .val (.long i3), .second, .val (.long i4), .second, .val (.int i5), .val (.long fi), .second, .val (.long wd), .second, .val (.long la), .second, .val (.int (0 : Int32)), .val (.long fi), .second, .val (.long fi), .second, .val (.ref b35), .val (.int mo), .val (.long nb), .second, .val (.ref a37), .unset, .unset, .unset] [])
        refine Goes.go (fun _ k => XS.lload X38.here X38.ex rfl (hb hby at_300) rfl (XS.lload X38.here X38.ex rfl (hb hby at_302) rfl (XS.lcmp X38.here X38.ex rfl (hb hby at_304) rfl k))) ?_
        show Goes _ _ _ _ T38 (mkF m 305 #[.val (.long i0), .second, .val (.long i1), .second, .val (.long i2), .second, .val (.long i3), .second, .val (.long i4), .second, .val (.int i5), .val (.long fi), .second, .val (.long wd), .second, .val (.long la), .second, .val (.int (0 : Int32)), .val (.long fi), .second, .val (.long fi), .second, .val (.ref b35), .val (.int mo), .val (.long nb), .second, .val (.ref a37), .unset, .unset, .unset] [(.int (lcmpW nb la))])
        refine Goes.ifc (pc' := 312) X38.here X38.ex (hb hby at_305) (by decide) (by decide) (fun hr2 => ?_) (fun hr2 => ?_)
        · have hr2 : (0 : Int32) < (lcmpW nb la) := hr2
          show Goes _ _ _ _ T38 (mkF m 312 #[.val (.long i0), .second, .val (.long i1), .second, .val (.long i2), .second, .val (.long i3), .second, .val (.long i4), .second, .val (.int i5), .val (.long fi), .second, .val (.long wd), .second, .val (.long la), .second, .val (.int (0 : Int32)), .val (.long fi), .second, .val (.long fi), .second, .val (.ref b35), .val (.int mo), .val (.long nb), .second, .val (.ref a37), .unset, .unset, .unset] [])
          refine Goes.go (fun _ k => XS.iconst X38.here X38.ex rfl (hb hby at_312) k) ?_
          show Goes _ _ _ _ T38 (mkF m 313 #[.val (.long i0), .second, .val (.long i1), .second, .val (.long i2), .second, .val (.long i3), .second, .val (.long i4), .second, .val (.int i5), .val (.long fi), .second, .val (.long wd), .second, .val (.long la), .second, .val (.int (0 : Int32)), .val (.long fi), .second, .val (.long fi), .second, .val (.ref b35), .val (.int mo), .val (.long nb), .second, .val (.ref a37), .unset, .unset, .unset] [(.int (0 : Int32))])
          (try simp only [if_neg hr1, if_pos hr2] at hJ292 ⊢)
          exact hJ292
        · have hr2 : ¬ ((0 : Int32) < (lcmpW nb la)) := hr2
          show Goes _ _ _ _ T38 (mkF m 308 #[.val (.long i0), .second, .val (.long i1), .second, .val (.long i2), .second, .val (.long i3), .second, .val (.long i4), .second, .val (.int i5), .val (.long fi), .second, .val (.long wd), .second, .val (.long la), .second, .val (.int (0 : Int32)), .val (.long fi), .second, .val (.long fi), .second, .val (.ref b35), .val (.int mo), .val (.long nb), .second, .val (.ref a37), .unset, .unset, .unset] [])
          refine Goes.go (fun _ k => XS.iconst X38.here X38.ex rfl (hb hby at_308) (XS.goto X38.here X38.ex rfl (pc0 := 309) (pc' := 313) rfl (hb hby at_309) (by decide) (by decide) k)) ?_
          show Goes _ _ _ _ T38 (mkF m 313 #[.val (.long i0), .second, .val (.long i1), .second, .val (.long i2), .second, .val (.long i3), .second, .val (.long i4), .second, .val (.int i5), .val (.long fi), .second, .val (.long wd), .second, .val (.long la), .second, .val (.int (0 : Int32)), .val (.long fi), .second, .val (.long fi), .second, .val (.ref b35), .val (.int mo), .val (.long nb), .second, .val (.ref a37), .unset, .unset, .unset] [(.int (1 : Int32))])
          (try simp only [if_neg hr1, if_neg hr2] at hJ292 ⊢)
          exact hJ292
    refine Goes.go (fun _ k => XS.istore X38.here X38.ex rfl (hb hby at_313) rfl (l' := #[.val (.long i0), .second, .val (.long i1), .second, .val (.long i2), .second, .val (.long i3), .second, .val (.long i4), .second, .val (.int i5), .val (.long fi), .second, .val (.long wd), .second, .val (.long la), .second, .val (.int (0 : Int32)), .val (.long fi), .second, .val (.long fi), .second, .val (.ref b35), .val (.int mo), .val (.long nb), .second, .val (.ref a37), .val (.int (if (lcmpW nb fi) < (0 : Int32) then (0 : Int32) else (if (0 : Int32) < (lcmpW nb la) then (0 : Int32) else (1 : Int32)))), .unset, .unset]) rfl k) ?_
    show Goes _ _ _ _ T38 (mkF m 315 #[.val (.long i0), .second, .val (.long i1), .second, .val (.long i2), .second, .val (.long i3), .second, .val (.long i4), .second, .val (.int i5), .val (.long fi), .second, .val (.long wd), .second, .val (.long la), .second, .val (.int (0 : Int32)), .val (.long fi), .second, .val (.long fi), .second, .val (.ref b35), .val (.int mo), .val (.long nb), .second, .val (.ref a37), .val (.int (if (lcmpW nb fi) < (0 : Int32) then (0 : Int32) else (if (0 : Int32) < (lcmpW nb la) then (0 : Int32) else (1 : Int32)))), .unset, .unset] [])
    refine Goes.go (fun _ k => XS.iload X38.here X38.ex rfl (hb hby at_315) rfl (XS.iconst X38.here X38.ex rfl (hb hby at_317) (XS.icmpYes X38.here X38.ex rfl (pc0 := 318) (pc' := 329) rfl (hb hby at_318) rfl (cd_t (cd := .lt) (x := (0 : Int32)) (y := (1 : Int32)) (by decide)) (by decide) (by decide) (XS.iload X38.here X38.ex rfl (hb hby at_329) rfl (XS.iconst X38.here X38.ex rfl (hb hby at_331) (XS.icmpYes X38.here X38.ex rfl (pc0 := 332) (pc' := 347) rfl (hb hby at_332) rfl (cd_t (cd := .ne) (x := (0 : Int32)) (y := (2 : Int32)) (by decide)) (by decide) (by decide) k)))))) ?_
    show Goes _ _ _ _ T38 (mkF m 347 #[.val (.long i0), .second, .val (.long i1), .second, .val (.long i2), .second, .val (.long i3), .second, .val (.long i4), .second, .val (.int i5), .val (.long fi), .second, .val (.long wd), .second, .val (.long la), .second, .val (.int (0 : Int32)), .val (.long fi), .second, .val (.long fi), .second, .val (.ref b35), .val (.int mo), .val (.long nb), .second, .val (.ref a37), .val (.int (if (lcmpW nb fi) < (0 : Int32) then (0 : Int32) else (if (0 : Int32) < (lcmpW nb la) then (0 : Int32) else (1 : Int32)))), .unset, .unset] [])
    refine Goes.go (fun _ k => XS.iconst X38.here X38.ex rfl (hb hby at_347) (XS.istore X38.here X38.ex rfl (hb hby at_348) rfl (l' := #[.val (.long i0), .second, .val (.long i1), .second, .val (.long i2), .second, .val (.long i3), .second, .val (.long i4), .second, .val (.int i5), .val (.long fi), .second, .val (.long wd), .second, .val (.long la), .second, .val (.int (0 : Int32)), .val (.long fi), .second, .val (.long fi), .second, .val (.ref b35), .val (.int mo), .val (.long nb), .second, .val (.ref a37), .val (.int (if (lcmpW nb fi) < (0 : Int32) then (0 : Int32) else (if (0 : Int32) < (lcmpW nb la) then (0 : Int32) else (1 : Int32)))), .val (.int (0 : Int32)), .unset]) rfl k)) ?_
    show Goes _ _ _ _ T38 (mkF m 350 #[.val (.long i0), .second, .val (.long i1), .second, .val (.long i2), .second, .val (.long i3), .second, .val (.long i4), .second, .val (.int i5), .val (.long fi), .second, .val (.long wd), .second, .val (.long la), .second, .val (.int (0 : Int32)), .val (.long fi), .second, .val (.long fi), .second, .val (.ref b35), .val (.int mo), .val (.long nb), .second, .val (.ref a37), .val (.int (if (lcmpW nb fi) < (0 : Int32) then (0 : Int32) else (if (0 : Int32) < (lcmpW nb la) then (0 : Int32) else (1 : Int32)))), .val (.int (0 : Int32)), .unset] [])
    suffices hJ350 : Goes p.tables e below (EndN Z s room_1.cells room_1.slots (fun v h' => v = some (.int (1 : Int32)))) T38 (mkF m 365 #[.val (.long i0), .second, .val (.long i1), .second, .val (.long i2), .second, .val (.long i3), .second, .val (.long i4), .second, .val (.int i5), .val (.long fi), .second, .val (.long wd), .second, .val (.long la), .second, .val (.int (0 : Int32)), .val (.long fi), .second, .val (.long fi), .second, .val (.ref b35), .val (.int mo), .val (.long nb), .second, .val (.ref a37), .val (.int (if (lcmpW nb fi) < (0 : Int32) then (0 : Int32) else (if (0 : Int32) < (lcmpW nb la) then (0 : Int32) else (1 : Int32)))), .val (.int (0 : Int32)), .unset] [(.int (if (if (lcmpW nb fi) < (0 : Int32) then (0 : Int32) else (if (0 : Int32) < (lcmpW nb la) then (0 : Int32) else (1 : Int32))) = (0 : Int32) then (0 : Int32) else (1 : Int32)))]) by
      refine Goes.go (fun _ k => XS.iload X38.here X38.ex rfl (hb hby at_350) rfl k) ?_
      show Goes _ _ _ _ T38 (mkF m 352 #[.val (.long i0), .second, .val (.long i1), .second, .val (.long i2), .second, .val (.long i3), .second, .val (.long i4), .second, .val (.int i5), .val (.long fi), .second, .val (.long wd), .second, .val (.long la), .second, .val (.int (0 : Int32)), .val (.long fi), .second, .val (.long fi), .second, .val (.ref b35), .val (.int mo), .val (.long nb), .second, .val (.ref a37), .val (.int (if (lcmpW nb fi) < (0 : Int32) then (0 : Int32) else (if (0 : Int32) < (lcmpW nb la) then (0 : Int32) else (1 : Int32)))), .val (.int (0 : Int32)), .unset] [(.int (if (lcmpW nb fi) < (0 : Int32) then (0 : Int32) else (if (0 : Int32) < (lcmpW nb la) then (0 : Int32) else (1 : Int32))))])
      refine Goes.ifc (pc' := 364) X38.here X38.ex (hb hby at_352) (by decide) (by decide) (fun hr1 => ?_) (fun hr1 => ?_)
      · have hr1 : (if (lcmpW nb fi) < (0 : Int32) then (0 : Int32) else (if (0 : Int32) < (lcmpW nb la) then (0 : Int32) else (1 : Int32))) = (0 : Int32) := hr1
        show Goes _ _ _ _ T38 (mkF m 364 #[.val (.long i0), .second, .val (.long i1), .second, .val (.long i2), .second, .val (.long i3), .second, .val (.long i4), .second, .val (.int i5), .val (.long fi), .second, .val (.long wd), .second, .val (.long la), .second, .val (.int (0 : Int32)), .val (.long fi), .second, .val (.long fi), .second, .val (.ref b35), .val (.int mo), .val (.long nb), .second, .val (.ref a37), .val (.int (if (lcmpW nb fi) < (0 : Int32) then (0 : Int32) else (if (0 : Int32) < (lcmpW nb la) then (0 : Int32) else (1 : Int32)))), .val (.int (0 : Int32)), .unset] [])
        refine Goes.go (fun _ k => XS.iconst X38.here X38.ex rfl (hb hby at_364) k) ?_
        show Goes _ _ _ _ T38 (mkF m 365 #[.val (.long i0), .second, .val (.long i1), .second, .val (.long i2), .second, .val (.long i3), .second, .val (.long i4), .second, .val (.int i5), .val (.long fi), .second, .val (.long wd), .second, .val (.long la), .second, .val (.int (0 : Int32)), .val (.long fi), .second, .val (.long fi), .second, .val (.ref b35), .val (.int mo), .val (.long nb), .second, .val (.ref a37), .val (.int (if (lcmpW nb fi) < (0 : Int32) then (0 : Int32) else (if (0 : Int32) < (lcmpW nb la) then (0 : Int32) else (1 : Int32)))), .val (.int (0 : Int32)), .unset] [(.int (0 : Int32))])
        (try simp only [if_pos hr1] at hJ350 ⊢)
        exact hJ350
      · have hr1 : ¬ ((if (lcmpW nb fi) < (0 : Int32) then (0 : Int32) else (if (0 : Int32) < (lcmpW nb la) then (0 : Int32) else (1 : Int32))) = (0 : Int32)) := hr1
        show Goes _ _ _ _ T38 (mkF m 355 #[.val (.long i0), .second, .val (.long i1), .second, .val (.long i2), .second, .val (.long i3), .second, .val (.long i4), .second, .val (.int i5), .val (.long fi), .second, .val (.long wd), .second, .val (.long la), .second, .val (.int (0 : Int32)), .val (.long fi), .second, .val (.long fi), .second, .val (.ref b35), .val (.int mo), .val (.long nb), .second, .val (.ref a37), .val (.int (if (lcmpW nb fi) < (0 : Int32) then (0 : Int32) else (if (0 : Int32) < (lcmpW nb la) then (0 : Int32) else (1 : Int32)))), .val (.int (0 : Int32)), .unset] [])
        refine Goes.go (fun _ k => XS.iload X38.here X38.ex rfl (hb hby at_355) rfl (XS.ifNo X38.here X38.ex rfl (hb hby at_357) rfl ((if0 _ _).trans (cd_f (cd := .ne) (x := (0 : Int32)) (y := (0 : Int32)) (by decide))) (XS.iconst X38.here X38.ex rfl (hb hby at_360) (XS.goto X38.here X38.ex rfl (pc0 := 361) (pc' := 365) rfl (hb hby at_361) (by decide) (by decide) k)))) ?_
        show Goes _ _ _ _ T38 (mkF m 365 #[.val (.long i0), .second, .val (.long i1), .second, .val (.long i2), .second, .val (.long i3), .second, .val (.long i4), .second, .val (.int i5), .val (.long fi), .second, .val (.long wd), .second, .val (.long la), .second, .val (.int (0 : Int32)), .val (.long fi), .second, .val (.long fi), .second, .val (.ref b35), .val (.int mo), .val (.long nb), .second, .val (.ref a37), .val (.int (if (lcmpW nb fi) < (0 : Int32) then (0 : Int32) else (if (0 : Int32) < (lcmpW nb la) then (0 : Int32) else (1 : Int32)))), .val (.int (0 : Int32)), .unset] [(.int (1 : Int32))])
        (try simp only [if_neg hr1] at hJ350 ⊢)
        exact hJ350
    refine Goes.go (fun _ k => XS.istore X38.here X38.ex rfl (hb hby at_365) rfl (l' := #[.val (.long i0), .second, .val (.long i1), .second, .val (.long i2), .second, .val (.long i3), .second, .val (.long i4), .second, .val (.int i5), .val (.long fi), .second, .val (.long wd), .second, .val (.long la), .second, .val (.int (0 : Int32)), .val (.long fi), .second, .val (.long fi), .second, .val (.ref b35), .val (.int mo), .val (.long nb), .second, .val (.ref a37), .val (.int (if (lcmpW nb fi) < (0 : Int32) then (0 : Int32) else (if (0 : Int32) < (lcmpW nb la) then (0 : Int32) else (1 : Int32)))), .val (.int (0 : Int32)), .val (.int (if (if (lcmpW nb fi) < (0 : Int32) then (0 : Int32) else (if (0 : Int32) < (lcmpW nb la) then (0 : Int32) else (1 : Int32))) = (0 : Int32) then (0 : Int32) else (1 : Int32)))]) rfl (XS.aload X38.here X38.ex rfl (hb hby at_367) rfl rfl (XS.lload X38.here X38.ex rfl (hb hby at_369) rfl k))) ?_
    show Goes _ _ _ _ T38 (mkF m 371 #[.val (.long i0), .second, .val (.long i1), .second, .val (.long i2), .second, .val (.long i3), .second, .val (.long i4), .second, .val (.int i5), .val (.long fi), .second, .val (.long wd), .second, .val (.long la), .second, .val (.int (0 : Int32)), .val (.long fi), .second, .val (.long fi), .second, .val (.ref b35), .val (.int mo), .val (.long nb), .second, .val (.ref a37), .val (.int (if (lcmpW nb fi) < (0 : Int32) then (0 : Int32) else (if (0 : Int32) < (lcmpW nb la) then (0 : Int32) else (1 : Int32)))), .val (.int (0 : Int32)), .val (.int (if (if (lcmpW nb fi) < (0 : Int32) then (0 : Int32) else (if (0 : Int32) < (lcmpW nb la) then (0 : Int32) else (1 : Int32))) = (0 : Int32) then (0 : Int32) else (1 : Int32)))] [(.long nb), (.ref a37)])
    have hpl := own_plain0 nb fi la 
    refine Wk.virtual (hm' := fun _ => h35) (C := "com/example/assent/assent/log/CrashSet") (y := (⟨"com/example/assent/assent/log/CrashSet", "contains", "(J)Z"⟩ : MethodName)) (z := (⟨"com/example/assent/assent/log/CrashSet", "contains", "(J)Z"⟩ : MethodName)) (W := 0) (kc := 0) (ks := 0) (argsL := [(.long nb)]) (rest := []) (as' := #[(.ref a37), (.long nb)]) (ws := []) X38 (w_30 hw) (w_31 hw) (w_33 hw) (w_32 hw) (by decide) Ex (nf_sel (w_33 hw)) (CtrN.pays (own_ct_0 l Z a0 hw h38 X38.old a37 fi la b2 k2 nb  Ff Fl Fc V2 ) (w_34 hw) (w_8 hw) (by decide) (by decide)) (fun v h' L q => ⟨q.2, q.1.1⟩) all0 (fun _ => Mark.stay all0) rfl (by rw [hml]; rfl) (lenOf pd_4 rfl) rfl rfl (by show 2 * 0 + _ ≤ _; exact Nat.le_of_eq rfl) (hb hby at_371) (by decide) (by decide) ?_
    intro T39 h39 v39 L39 X39 q39 K39
    obtain ⟨⟨-, hE39⟩, -⟩ := q39
    rcases hE39 with ⟨rfl, hq⟩ | ⟨rfl, hq⟩
    · show Goes _ _ _ _ T39 (mkF m 374 #[.val (.long i0), .second, .val (.long i1), .second, .val (.long i2), .second, .val (.long i3), .second, .val (.long i4), .second, .val (.int i5), .val (.long fi), .second, .val (.long wd), .second, .val (.long la), .second, .val (.int (0 : Int32)), .val (.long fi), .second, .val (.long fi), .second, .val (.ref b35), .val (.int mo), .val (.long nb), .second, .val (.ref a37), .val (.int (if (lcmpW nb fi) < (0 : Int32) then (0 : Int32) else (if (0 : Int32) < (lcmpW nb la) then (0 : Int32) else (1 : Int32)))), .val (.int (0 : Int32)), .val (.int (if (if (lcmpW nb fi) < (0 : Int32) then (0 : Int32) else (if (0 : Int32) < (lcmpW nb la) then (0 : Int32) else (1 : Int32))) = (0 : Int32) then (0 : Int32) else (1 : Int32)))] [(.int (1 : Int32))])
      rw [if_pos hq] at hpl
      refine Goes.go (fun _ k => XS.iload X39.here X39.ex rfl (hb hby at_374) rfl k) ?_
      show Goes _ _ _ _ T39 (mkF m 376 #[.val (.long i0), .second, .val (.long i1), .second, .val (.long i2), .second, .val (.long i3), .second, .val (.long i4), .second, .val (.int i5), .val (.long fi), .second, .val (.long wd), .second, .val (.long la), .second, .val (.int (0 : Int32)), .val (.long fi), .second, .val (.long fi), .second, .val (.ref b35), .val (.int mo), .val (.long nb), .second, .val (.ref a37), .val (.int (if (lcmpW nb fi) < (0 : Int32) then (0 : Int32) else (if (0 : Int32) < (lcmpW nb la) then (0 : Int32) else (1 : Int32)))), .val (.int (0 : Int32)), .val (.int (if (if (lcmpW nb fi) < (0 : Int32) then (0 : Int32) else (if (0 : Int32) < (lcmpW nb la) then (0 : Int32) else (1 : Int32))) = (0 : Int32) then (0 : Int32) else (1 : Int32)))] [(.int (if (if (lcmpW nb fi) < (0 : Int32) then (0 : Int32) else (if (0 : Int32) < (lcmpW nb la) then (0 : Int32) else (1 : Int32))) = (0 : Int32) then (0 : Int32) else (1 : Int32))), (.int (1 : Int32))])
      refine Goes.go (fun _ k => XS.icmpNo X39.here X39.ex rfl (hb hby at_376) rfl (cd_f (cd := .ne) (x := (1 : Int32)) (y := (if (if (lcmpW nb fi) < (0 : Int32) then (0 : Int32) else (if (0 : Int32) < (lcmpW nb la) then (0 : Int32) else (1 : Int32))) = (0 : Int32) then (0 : Int32) else (1 : Int32))) ((fun q => absurd (hpl.symm) q))) k) ?_
      show Goes _ _ _ _ T39 (mkF m 379 #[.val (.long i0), .second, .val (.long i1), .second, .val (.long i2), .second, .val (.long i3), .second, .val (.long i4), .second, .val (.int i5), .val (.long fi), .second, .val (.long wd), .second, .val (.long la), .second, .val (.int (0 : Int32)), .val (.long fi), .second, .val (.long fi), .second, .val (.ref b35), .val (.int mo), .val (.long nb), .second, .val (.ref a37), .val (.int (if (lcmpW nb fi) < (0 : Int32) then (0 : Int32) else (if (0 : Int32) < (lcmpW nb la) then (0 : Int32) else (1 : Int32)))), .val (.int (0 : Int32)), .val (.int (if (if (lcmpW nb fi) < (0 : Int32) then (0 : Int32) else (if (0 : Int32) < (lcmpW nb la) then (0 : Int32) else (1 : Int32))) = (0 : Int32) then (0 : Int32) else (1 : Int32)))] [])
      refine Goes.go (fun _ k => XS.iconst X39.here X39.ex rfl (hb hby at_379) (XS.goto X39.here X39.ex rfl (pc0 := 380) (pc' := 384) rfl (hb hby at_380) (by decide) (by decide) k)) ?_
      show Goes _ _ _ _ T39 (mkF m 384 #[.val (.long i0), .second, .val (.long i1), .second, .val (.long i2), .second, .val (.long i3), .second, .val (.long i4), .second, .val (.int i5), .val (.long fi), .second, .val (.long wd), .second, .val (.long la), .second, .val (.int (0 : Int32)), .val (.long fi), .second, .val (.long fi), .second, .val (.ref b35), .val (.int mo), .val (.long nb), .second, .val (.ref a37), .val (.int (if (lcmpW nb fi) < (0 : Int32) then (0 : Int32) else (if (0 : Int32) < (lcmpW nb la) then (0 : Int32) else (1 : Int32)))), .val (.int (0 : Int32)), .val (.int (if (if (lcmpW nb fi) < (0 : Int32) then (0 : Int32) else (if (0 : Int32) < (lcmpW nb la) then (0 : Int32) else (1 : Int32))) = (0 : Int32) then (0 : Int32) else (1 : Int32)))] [(.int (1 : Int32))])
      refine Goes.outN X39 (fun q => by rw [hret] at q; cases q) hlk (X39.rB hret (by simp) (hb hby at_384)) ?_ (by decide) (by decide)
      exact rfl
    · show Goes _ _ _ _ T39 (mkF m 374 #[.val (.long i0), .second, .val (.long i1), .second, .val (.long i2), .second, .val (.long i3), .second, .val (.long i4), .second, .val (.int i5), .val (.long fi), .second, .val (.long wd), .second, .val (.long la), .second, .val (.int (0 : Int32)), .val (.long fi), .second, .val (.long fi), .second, .val (.ref b35), .val (.int mo), .val (.long nb), .second, .val (.ref a37), .val (.int (if (lcmpW nb fi) < (0 : Int32) then (0 : Int32) else (if (0 : Int32) < (lcmpW nb la) then (0 : Int32) else (1 : Int32)))), .val (.int (0 : Int32)), .val (.int (if (if (lcmpW nb fi) < (0 : Int32) then (0 : Int32) else (if (0 : Int32) < (lcmpW nb la) then (0 : Int32) else (1 : Int32))) = (0 : Int32) then (0 : Int32) else (1 : Int32)))] [(.int (0 : Int32))])
      rw [if_neg hq] at hpl
      refine Goes.go (fun _ k => XS.iload X39.here X39.ex rfl (hb hby at_374) rfl k) ?_
      show Goes _ _ _ _ T39 (mkF m 376 #[.val (.long i0), .second, .val (.long i1), .second, .val (.long i2), .second, .val (.long i3), .second, .val (.long i4), .second, .val (.int i5), .val (.long fi), .second, .val (.long wd), .second, .val (.long la), .second, .val (.int (0 : Int32)), .val (.long fi), .second, .val (.long fi), .second, .val (.ref b35), .val (.int mo), .val (.long nb), .second, .val (.ref a37), .val (.int (if (lcmpW nb fi) < (0 : Int32) then (0 : Int32) else (if (0 : Int32) < (lcmpW nb la) then (0 : Int32) else (1 : Int32)))), .val (.int (0 : Int32)), .val (.int (if (if (lcmpW nb fi) < (0 : Int32) then (0 : Int32) else (if (0 : Int32) < (lcmpW nb la) then (0 : Int32) else (1 : Int32))) = (0 : Int32) then (0 : Int32) else (1 : Int32)))] [(.int (if (if (lcmpW nb fi) < (0 : Int32) then (0 : Int32) else (if (0 : Int32) < (lcmpW nb la) then (0 : Int32) else (1 : Int32))) = (0 : Int32) then (0 : Int32) else (1 : Int32))), (.int (0 : Int32))])
      refine Goes.go (fun _ k => XS.icmpNo X39.here X39.ex rfl (hb hby at_376) rfl (cd_f (cd := .ne) (x := (0 : Int32)) (y := (if (if (lcmpW nb fi) < (0 : Int32) then (0 : Int32) else (if (0 : Int32) < (lcmpW nb la) then (0 : Int32) else (1 : Int32))) = (0 : Int32) then (0 : Int32) else (1 : Int32))) ((fun q => absurd (hpl.symm) q))) k) ?_
      show Goes _ _ _ _ T39 (mkF m 379 #[.val (.long i0), .second, .val (.long i1), .second, .val (.long i2), .second, .val (.long i3), .second, .val (.long i4), .second, .val (.int i5), .val (.long fi), .second, .val (.long wd), .second, .val (.long la), .second, .val (.int (0 : Int32)), .val (.long fi), .second, .val (.long fi), .second, .val (.ref b35), .val (.int mo), .val (.long nb), .second, .val (.ref a37), .val (.int (if (lcmpW nb fi) < (0 : Int32) then (0 : Int32) else (if (0 : Int32) < (lcmpW nb la) then (0 : Int32) else (1 : Int32)))), .val (.int (0 : Int32)), .val (.int (if (if (lcmpW nb fi) < (0 : Int32) then (0 : Int32) else (if (0 : Int32) < (lcmpW nb la) then (0 : Int32) else (1 : Int32))) = (0 : Int32) then (0 : Int32) else (1 : Int32)))] [])
      refine Goes.go (fun _ k => XS.iconst X39.here X39.ex rfl (hb hby at_379) (XS.goto X39.here X39.ex rfl (pc0 := 380) (pc' := 384) rfl (hb hby at_380) (by decide) (by decide) k)) ?_
      show Goes _ _ _ _ T39 (mkF m 384 #[.val (.long i0), .second, .val (.long i1), .second, .val (.long i2), .second, .val (.long i3), .second, .val (.long i4), .second, .val (.int i5), .val (.long fi), .second, .val (.long wd), .second, .val (.long la), .second, .val (.int (0 : Int32)), .val (.long fi), .second, .val (.long fi), .second, .val (.ref b35), .val (.int mo), .val (.long nb), .second, .val (.ref a37), .val (.int (if (lcmpW nb fi) < (0 : Int32) then (0 : Int32) else (if (0 : Int32) < (lcmpW nb la) then (0 : Int32) else (1 : Int32)))), .val (.int (0 : Int32)), .val (.int (if (if (lcmpW nb fi) < (0 : Int32) then (0 : Int32) else (if (0 : Int32) < (lcmpW nb la) then (0 : Int32) else (1 : Int32))) = (0 : Int32) then (0 : Int32) else (1 : Int32)))] [(.int (1 : Int32))])
      refine Goes.outN X39 (fun q => by rw [hret] at q; cases q) hlk (X39.rB hret (by simp) (hb hby at_384)) ?_ (by decide) (by decide)
      exact rfl
  · show Goes _ _ _ _ T34 (mkF m 64 #[.val (.long i0), .second, .val (.long i1), .second, .val (.long i2), .second, .val (.long i3), .second, .val (.long i4), .second, .val (.int i5), .val (.long fi), .second, .val (.long wd), .second, .val (.long la), .second, .val (.int (1 : Int32)), .val (.long fi), .second, .val (.long fi), .second, .unset, .unset, .unset, .unset, .unset, .unset, .unset, .unset] [])
    refine Goes.go (fun _ k => XS.iload X34.here X34.ex rfl (hb hby at_64) rfl (XS.iconst X34.here X34.ex rfl (hb hby at_66) (XS.icmpNo X34.here X34.ex rfl (hb hby at_67) rfl (cd_f (cd := .ne) (x := (1 : Int32)) (y := (1 : Int32)) (by decide)) (XS.lload X34.here X34.ex rfl (hb hby at_70) rfl (XS.lload X34.here X34.ex rfl (hb hby at_72) rfl k))))) ?_
    show Goes _ _ _ _ T34 (mkF m 74 #[.val (.long i0), .second, .val (.long i1), .second, .val (.long i2), .second, .val (.long i3), .second, .val (.long i4), .second, .val (.int i5), .val (.long fi), .second, .val (.long wd), .second, .val (.long la), .second, .val (.int (1 : Int32)), .val (.long fi), .second, .val (.long fi), .second, .unset, .unset, .unset, .unset, .unset, .unset, .unset, .unset] [(.long i2), (.long fi)])
    refine Goes.go (X34.ldcL (w_0 hw) rfl (hb hby at_74)) ?_
    show Goes _ _ _ _ T34 (mkF m 77 #[.val (.long i0), .second, .val (.long i1), .second, .val (.long i2), .second, .val (.long i3), .second, .val (.long i4), .second, .val (.int i5), .val (.long fi), .second, .val (.long wd), .second, .val (.long la), .second, .val (.int (1 : Int32)), .val (.long fi), .second, .val (.long fi), .second, .unset, .unset, .unset, .unset, .unset, .unset, .unset, .unset] [(.long (9223372036854775807 : Int64)), (.long i2), (.long fi)])
    refine Goes.go (fun _ k => XS.land X34.here X34.ex rfl (hb hby at_77) rfl (XS.lload X34.here X34.ex rfl (hb hby at_78) rfl (XS.lconst X34.here X34.ex rfl (hb hby at_80) (XS.ladd X34.here X34.ex rfl (hb hby at_81) rfl k)))) ?_
    show Goes _ _ _ _ T34 (mkF m 82 #[.val (.long i0), .second, .val (.long i1), .second, .val (.long i2), .second, .val (.long i3), .second, .val (.long i4), .second, .val (.int i5), .val (.long fi), .second, .val (.long wd), .second, .val (.long la), .second, .val (.int (1 : Int32)), .val (.long fi), .second, .val (.long fi), .second, .unset, .unset, .unset, .unset, .unset, .unset, .unset, .unset] [(.long (wd + (1 : Int64))), (.long (i2 &&& (9223372036854775807 : Int64))), (.long fi)])
    have e1 : (wd + (1 : Int64)).toInt = wd.toInt + 1 := own_ladd1 _ (by have := own_le fi; omega)
    have nd1 : ¬ ((wd + (1 : Int64)) = (0 : Int64)) := own_nz (by rw [e1]; omega)
    refine Goes.go (fun _ k => XS.lrem X34.here X34.ex rfl (hb hby at_82) rfl nd1 (XS.ladd X34.here X34.ex rfl (hb hby at_83) rfl (XS.lstore X34.here X34.ex rfl (hb hby at_84) rfl (l' := #[.val (.long i0), .second, .val (.long i1), .second, .val (.long i2), .second, .val (.long i3), .second, .val (.long i4), .second, .val (.int i5), .val (.long fi), .second, .val (.long wd), .second, .val (.long la), .second, .val (.int (1 : Int32)), .val (.long (fi + ((i2 &&& (9223372036854775807 : Int64)) - ((i2 &&& (9223372036854775807 : Int64)) / (wd + (1 : Int64))) * (wd + (1 : Int64))))), .second, .val (.long fi), .second, .unset, .unset, .unset, .unset, .unset, .unset, .unset, .unset]) rfl k))) ?_
    show Goes _ _ _ _ T34 (mkF m 86 #[.val (.long i0), .second, .val (.long i1), .second, .val (.long i2), .second, .val (.long i3), .second, .val (.long i4), .second, .val (.int i5), .val (.long fi), .second, .val (.long wd), .second, .val (.long la), .second, .val (.int (1 : Int32)), .val (.long (fi + ((i2 &&& (9223372036854775807 : Int64)) - ((i2 &&& (9223372036854775807 : Int64)) / (wd + (1 : Int64))) * (wd + (1 : Int64))))), .second, .val (.long fi), .second, .unset, .unset, .unset, .unset, .unset, .unset, .unset, .unset] [])
    obtain ⟨x, hx⟩ : ∃ z : Int64, z = (fi + ((i2 &&& (9223372036854775807 : Int64)) - ((i2 &&& (9223372036854775807 : Int64)) / (wd + (1 : Int64))) * (wd + (1 : Int64)))) := ⟨_, rfl⟩
    refine Goes.cast (show (mkF m 86 #[.val (.long i0), .second, .val (.long i1), .second, .val (.long i2), .second, .val (.long i3), .second, .val (.long i4), .second, .val (.int i5), .val (.long fi), .second, .val (.long wd), .second, .val (.long la), .second, .val (.int (1 : Int32)), .val (.long (fi + ((i2 &&& (9223372036854775807 : Int64)) - ((i2 &&& (9223372036854775807 : Int64)) / (wd + (1 : Int64))) * (wd + (1 : Int64))))), .second, .val (.long fi), .second, .unset, .unset, .unset, .unset, .unset, .unset, .unset, .unset] []) = (mkF m 86 #[.val (.long i0), .second, .val (.long i1), .second, .val (.long i2), .second, .val (.long i3), .second, .val (.long i4), .second, .val (.int i5), .val (.long fi), .second, .val (.long wd), .second, .val (.long la), .second, .val (.int (1 : Int32)), .val (.long x), .second, .val (.long fi), .second, .unset, .unset, .unset, .unset, .unset, .unset, .unset, .unset] []) from by rw [hx]) ?_
    show Goes _ _ _ _ T34 (mkF m 86 #[.val (.long i0), .second, .val (.long i1), .second, .val (.long i2), .second, .val (.long i3), .second, .val (.long i4), .second, .val (.int i5), .val (.long fi), .second, .val (.long wd), .second, .val (.long la), .second, .val (.int (1 : Int32)), .val (.long x), .second, .val (.long fi), .second, .unset, .unset, .unset, .unset, .unset, .unset, .unset, .unset] [])
    have ax : fi.toInt ≤ x.toInt ∧ x.toInt ≤ la.toInt := by
      have q := own_lrem i2 (wd + 1) (by rw [e1]; omega)
      rw [e1] at q
      have q2 := own_ladd fi ((i2 &&& (9223372036854775807 : Int64)) - ((i2 &&& (9223372036854775807 : Int64)) / (wd + (1 : Int64))) * (wd + (1 : Int64))) (by omega) (by have := own_le fi; omega)
      rw [← hx] at q2
      omega
    refine Goes.go (fun _ k => XS.iload X34.here X34.ex rfl (hb hby at_86) rfl (XS.iconst X34.here X34.ex rfl (hb hby at_88) (XS.icmpYes X34.here X34.ex rfl (pc0 := 89) (pc' := 125) rfl (hb hby at_89) rfl (cd_t (cd := .ne) (x := (1 : Int32)) (y := (2 : Int32)) (by decide)) (by decide) (by decide) (XS.iload X34.here X34.ex rfl (hb hby at_125) rfl (XS.ifYes X34.here X34.ex rfl (pc0 := 127) (pc' := 136) rfl (hb hby at_127) rfl ((if0 _ _).trans (cd_t (cd := .ne) (x := (1 : Int32)) (y := (0 : Int32)) (by decide))) (by decide) (by decide) (XS.iload X34.here X34.ex rfl (hb hby at_136) rfl k)))))) ?_
    show Goes _ _ _ _ T34 (mkF m 138 #[.val (.long i0), .second, .val (.long i1), .second, .val (.long i2), .second, .val (.long i3), .second, .val (.long i4), .second, .val (.int i5), .val (.long fi), .second, .val (.long wd), .second, .val (.long la), .second, .val (.int (1 : Int32)), .val (.long x), .second, .val (.long fi), .second, .unset, .unset, .unset, .unset, .unset, .unset, .unset, .unset] [(.int (1 : Int32))])
    refine Goes.go (fun _ k => XS.iconst X34.here X34.ex rfl (hb hby at_138) (XS.icmpNo X34.here X34.ex rfl (hb hby at_139) rfl (cd_f (cd := .ne) (x := (1 : Int32)) (y := (1 : Int32)) (by decide)) (XS.iconst X34.here X34.ex rfl (hb hby at_142) k))) ?_
    show Goes _ _ _ _ T34 (mkF m 143 #[.val (.long i0), .second, .val (.long i1), .second, .val (.long i2), .second, .val (.long i3), .second, .val (.long i4), .second, .val (.int i5), .val (.long fi), .second, .val (.long wd), .second, .val (.long la), .second, .val (.int (1 : Int32)), .val (.long x), .second, .val (.long fi), .second, .unset, .unset, .unset, .unset, .unset, .unset, .unset, .unset] [(.int (1 : Int32))])
    refine Wk.newA (aty := .long) X34 (w_5 hw) rfl (hb hby at_143) rfl (by decide) (cap := 1) (by decide) (by decide) (by decide) (by decide) ?_
    intro T40 h40 b40 k40 g40 X40 E40 A40 B_b40
    have V_b40 : Arv Z h40 b40 k40 .long (1 : Int32) [(.long (0 : Int64))] (.long (0 : Int64)) := A40.pad (pad_rep [] (.long (0 : Int64)) 1)
    have gz_b40 : Z.heap.size ≤ b40 := g40 ▸ X34.old.1
    have gm_b40 : h0.size ≤ b40 := g40 ▸ X34.ext.1
    show Goes _ _ _ _ T40 (mkF m 145 #[.val (.long i0), .second, .val (.long i1), .second, .val (.long i2), .second, .val (.long i3), .second, .val (.long i4), .second, .val (.int i5), .val (.long fi), .second, .val (.long wd), .second, .val (.long la), .second, .val (.int (1 : Int32)), .val (.long x), .second, .val (.long fi), .second, .unset, .unset, .unset, .unset, .unset, .unset, .unset, .unset] [(.ref b40)])
    refine Goes.go (fun _ k => XS.dup X40.here X40.ex rfl (hb hby at_145) rfl rfl (XS.iconst X40.here X40.ex rfl (hb hby at_146) (XS.lload X40.here X40.ex rfl (hb hby at_147) rfl k))) ?_
    show Goes _ _ _ _ T40 (mkF m 149 #[.val (.long i0), .second, .val (.long i1), .second, .val (.long i2), .second, .val (.long i3), .second, .val (.long i4), .second, .val (.int i5), .val (.long fi), .second, .val (.long wd), .second, .val (.long la), .second, .val (.int (1 : Int32)), .val (.long x), .second, .val (.long fi), .second, .unset, .unset, .unset, .unset, .unset, .unset, .unset, .unset] [(.long x), (.int (0 : Int32)), (.ref b40), (.ref b40)])
    refine Wk.lastore (hm' := fun _ => h0) X40 V_b40 ⟨by decide, by decide⟩ (i := 0) rfl (Nat.le_of_ble_eq_true rfl) gz_b40 (fun _ => Mark.stay (allS gm_b40 all0)) rfl rfl (hb hby at_149) ?_
    intro T41 h41 X41 W41 V41
    replace B_b40 := B_b40.wr W41
    clear V_b40; have V_b40 : Arv Z h41 b40 _ .long (1 : Int32) [(.long x)] (.long (0 : Int64)) := V41
    show Goes _ _ _ _ T41 (mkF m 150 #[.val (.long i0), .second, .val (.long i1), .second, .val (.long i2), .second, .val (.long i3), .second, .val (.long i4), .second, .val (.int i5), .val (.long fi), .second, .val (.long wd), .second, .val (.long la), .second, .val (.int (1 : Int32)), .val (.long x), .second, .val (.long fi), .second, .unset, .unset, .unset, .unset, .unset, .unset, .unset, .unset] [(.ref b40)])
    refine Goes.go (fun _ k => XS.goto X41.here X41.ex rfl (pc0 := 150) (pc' := 166) rfl (hb hby at_150) (by decide) (by decide) (XS.astore X41.here X41.ex rfl (hb hby at_166) rfl rfl (l' := #[.val (.long i0), .second, .val (.long i1), .second, .val (.long i2), .second, .val (.long i3), .second, .val (.long i4), .second, .val (.int i5), .val (.long fi), .second, .val (.long wd), .second, .val (.long la), .second, .val (.int (1 : Int32)), .val (.long x), .second, .val (.long fi), .second, .val (.ref b40), .unset, .unset, .unset, .unset, .unset, .unset, .unset]) rfl (XS.iload X41.here X41.ex rfl (hb hby at_168) rfl (XS.iconst X41.here X41.ex rfl (hb hby at_170) (XS.iushr X41.here X41.ex rfl (hb hby at_171) rfl (XS.bipush X41.here X41.ex rfl (hb hby at_172) k)))))) ?_
    show Goes _ _ _ _ T41 (mkF m 174 #[.val (.long i0), .second, .val (.long i1), .second, .val (.long i2), .second, .val (.long i3), .second, .val (.long i4), .second, .val (.int i5), .val (.long fi), .second, .val (.long wd), .second, .val (.long la), .second, .val (.int (1 : Int32)), .val (.long x), .second, .val (.long fi), .second, .val (.ref b40), .unset, .unset, .unset, .unset, .unset, .unset, .unset] [(.int (7 : Int32)), (.int ((i5.toUInt32 >>> ((2 : Int32) &&& 31).toUInt32).toInt32))])
    refine Goes.go (fun _ k => XS.iand X41.here X41.ex rfl (hb hby at_174) rfl (XS.istore X41.here X41.ex rfl (hb hby at_175) rfl (l' := #[.val (.long i0), .second, .val (.long i1), .second, .val (.long i2), .second, .val (.long i3), .second, .val (.long i4), .second, .val (.int i5), .val (.long fi), .second, .val (.long wd), .second, .val (.long la), .second, .val (.int (1 : Int32)), .val (.long x), .second, .val (.long fi), .second, .val (.ref b40), .val (.int (((i5.toUInt32 >>> ((2 : Int32) &&& 31).toUInt32).toInt32) &&& (7 : Int32))), .unset, .unset, .unset, .unset, .unset, .unset]) rfl (XS.lload X41.here X41.ex rfl (hb hby at_177) rfl (XS.lstore X41.here X41.ex rfl (hb hby at_179) rfl (l' := #[.val (.long i0), .second, .val (.long i1), .second, .val (.long i2), .second, .val (.long i3), .second, .val (.long i4), .second, .val (.int i5), .val (.long fi), .second, .val (.long wd), .second, .val (.long la), .second, .val (.int (1 : Int32)), .val (.long x), .second, .val (.long fi), .second, .val (.ref b40), .val (.int (((i5.toUInt32 >>> ((2 : Int32) &&& 31).toUInt32).toInt32) &&& (7 : Int32))), .val (.long i4), .second, .unset, .unset, .unset, .unset]) rfl k)))) ?_
    show Goes _ _ _ _ T41 (mkF m 181 #[.val (.long i0), .second, .val (.long i1), .second, .val (.long i2), .second, .val (.long i3), .second, .val (.long i4), .second, .val (.int i5), .val (.long fi), .second, .val (.long wd), .second, .val (.long la), .second, .val (.int (1 : Int32)), .val (.long x), .second, .val (.long fi), .second, .val (.ref b40), .val (.int (((i5.toUInt32 >>> ((2 : Int32) &&& 31).toUInt32).toInt32) &&& (7 : Int32))), .val (.long i4), .second, .unset, .unset, .unset, .unset] [])
    obtain ⟨mo, hmo⟩ : ∃ z : Int32, z = (((i5.toUInt32 >>> ((2 : Int32) &&& 31).toUInt32).toInt32) &&& (7 : Int32)) := ⟨_, rfl⟩
    refine Goes.cast (show (mkF m 181 #[.val (.long i0), .second, .val (.long i1), .second, .val (.long i2), .second, .val (.long i3), .second, .val (.long i4), .second, .val (.int i5), .val (.long fi), .second, .val (.long wd), .second, .val (.long la), .second, .val (.int (1 : Int32)), .val (.long x), .second, .val (.long fi), .second, .val (.ref b40), .val (.int (((i5.toUInt32 >>> ((2 : Int32) &&& 31).toUInt32).toInt32) &&& (7 : Int32))), .val (.long i4), .second, .unset, .unset, .unset, .unset] []) = (mkF m 181 #[.val (.long i0), .second, .val (.long i1), .second, .val (.long i2), .second, .val (.long i3), .second, .val (.long i4), .second, .val (.int i5), .val (.long fi), .second, .val (.long wd), .second, .val (.long la), .second, .val (.int (1 : Int32)), .val (.long x), .second, .val (.long fi), .second, .val (.ref b40), .val (.int mo), .val (.long i4), .second, .unset, .unset, .unset, .unset] []) from by rw [hmo]) ?_
    show Goes _ _ _ _ T41 (mkF m 181 #[.val (.long i0), .second, .val (.long i1), .second, .val (.long i2), .second, .val (.long i3), .second, .val (.long i4), .second, .val (.int i5), .val (.long fi), .second, .val (.long wd), .second, .val (.long la), .second, .val (.int (1 : Int32)), .val (.long x), .second, .val (.long fi), .second, .val (.ref b40), .val (.int mo), .val (.long i4), .second, .unset, .unset, .unset, .unset] [])
    refine Goes.go (fun _ k => XS.iload X41.here X41.ex rfl (hb hby at_181) rfl (XS.iconst X41.here X41.ex rfl (hb hby at_183) k)) ?_
    show Goes _ _ _ _ T41 (mkF m 184 #[.val (.long i0), .second, .val (.long i1), .second, .val (.long i2), .second, .val (.long i3), .second, .val (.long i4), .second, .val (.int i5), .val (.long fi), .second, .val (.long wd), .second, .val (.long la), .second, .val (.int (1 : Int32)), .val (.long x), .second, .val (.long fi), .second, .val (.ref b40), .val (.int mo), .val (.long i4), .second, .unset, .unset, .unset, .unset] [(.int (1 : Int32)), (.int mo)])
    suffices hJ184 : Goes p.tables e below (EndN Z s room_1.cells room_1.slots (fun v h' => v = some (.int (1 : Int32)))) T41 (mkF m 277 #[.val (.long i0), .second, .val (.long i1), .second, .val (.long i2), .second, .val (.long i3), .second, .val (.long i4), .second, .val (.int i5), .val (.long fi), .second, .val (.long wd), .second, .val (.long la), .second, .val (.int (1 : Int32)), .val (.long x), .second, .val (.long fi), .second, .val (.ref b40), .val (.int mo), .val (.long (if mo = (1 : Int32) then (fi - (1 : Int64)) else (if mo = (2 : Int32) then fi else (if mo = (3 : Int32) then la else (if mo = (4 : Int32) then (la + (1 : Int64)) else (if mo = (5 : Int32) then x else (if mo = (6 : Int32) then fi else (if mo = (7 : Int32) then (x + (1 : Int64)) else i4)))))))), .second, .unset, .unset, .unset, .unset] []) by
      refine Goes.icmp (pc' := 196) X41.here X41.ex (hb hby at_184) (by decide) (by decide) (fun hr1 => ?_) (fun hr1 => ?_)
      · have hr1 : ¬ (mo = (1 : Int32)) := hr1
        show Goes _ _ _ _ T41 (mkF m 196 #[.val (.long i0), .second, .val (.long i1), .second, .val (.long i2), .second, .val (.long i3), .second, .val (.long i4), .second, .val (.int i5), .val (.long fi), .second, .val (.long wd), .second, .val (.long la), .second, .val (.int (1 : Int32)), .val (.long x), .second, .val (.long fi), .second, .val (.ref b40), .val (.int mo), .val (.long i4), .second, .unset, .unset, .unset, .unset] [])
        refine Goes.go (fun _ k => XS.iload X41.here X41.ex rfl (hb hby at_196) rfl (XS.iconst X41.here X41.ex rfl (hb hby at_198) k)) ?_
        show Goes _ _ _ _ T41 (mkF m 199 #[.val (.long i0), .second, .val (.long i1), .second, .val (.long i2), .second, .val (.long i3), .second, .val (.long i4), .second, .val (.int i5), .val (.long fi), .second, .val (.long wd), .second, .val (.long la), .second, .val (.int (1 : Int32)), .val (.long x), .second, .val (.long fi), .second, .val (.ref b40), .val (.int mo), .val (.long i4), .second, .unset, .unset, .unset, .unset] [(.int (2 : Int32)), (.int mo)])
        refine Goes.icmp (pc' := 209) X41.here X41.ex (hb hby at_199) (by decide) (by decide) (fun hr2 => ?_) (fun hr2 => ?_)
        · have hr2 : ¬ (mo = (2 : Int32)) := hr2
          show Goes _ _ _ _ T41 (mkF m 209 #[.val (.long i0), .second, .val (.long i1), .second, .val (.long i2), .second, .val (.long i3), .second, .val (.long i4), .second, .val (.int i5), .val (.long fi), .second, .val (.long wd), .second, .val (.long la), .second, .val (.int (1 : Int32)), .val (.long x), .second, .val (.long fi), .second, .val (.ref b40), .val (.int mo), .val (.long i4), .second, .unset, .unset, .unset, .unset] [])
          refine Goes.go (fun _ k => XS.iload X41.here X41.ex rfl (hb hby at_209) rfl (XS.iconst X41.here X41.ex rfl (hb hby at_211) k)) ?_
          show Goes _ _ _ _ T41 (mkF m 212 #[.val (.long i0), .second, .val (.long i1), .second, .val (.long i2), .second, .val (.long i3), .second, .val (.long i4), .second, .val (.int i5), .val (.long fi), .second, .val (.long wd), .second, .val (.long la), .second, .val (.int (1 : Int32)), .val (.long x), .second, .val (.long fi), .second, .val (.ref b40), .val (.int mo), .val (.long i4), .second, .unset, .unset, .unset, .unset] [(.int (3 : Int32)), (.int mo)])
          refine Goes.icmp (pc' := 222) X41.here X41.ex (hb hby at_212) (by decide) (by decide) (fun hr3 => ?_) (fun hr3 => ?_)
          · have hr3 : ¬ (mo = (3 : Int32)) := hr3
            show Goes _ _ _ _ T41 (mkF m 222 #[.val (.long i0), .second, .val (.long i1), .second, .val (.long i2), .second, .val (.long i3), .second, .val (.long i4), .second, .val (.int i5), .val (.long fi), .second, .val (.long wd), .second, .val (.long la), .second, .val (.int (1 : Int32)), .val (.long x), .second, .val (.long fi), .second, .val (.ref b40), .val (.int mo), .val (.long i4), .second, .unset, .unset, .unset, .unset] [])
            refine Goes.go (fun _ k => XS.iload X41.here X41.ex rfl (hb hby at_222) rfl (XS.iconst X41.here X41.ex rfl (hb hby at_224) k)) ?_
            show Goes _ _ _ _ T41 (mkF m 225 #[.val (.long i0), .second, .val (.long i1), .second, .val (.long i2), .second, .val (.long i3), .second, .val (.long i4), .second, .val (.int i5), .val (.long fi), .second, .val (.long wd), .second, .val (.long la), .second, .val (.int (1 : Int32)), .val (.long x), .second, .val (.long fi), .second, .val (.ref b40), .val (.int mo), .val (.long i4), .second, .unset, .unset, .unset, .unset] [(.int (4 : Int32)), (.int mo)])
            refine Goes.icmp (pc' := 237) X41.here X41.ex (hb hby at_225) (by decide) (by decide) (fun hr4 => ?_) (fun hr4 => ?_)
            · have hr4 : ¬ (mo = (4 : Int32)) := hr4
              show Goes _ _ _ _ T41 (mkF m 237 #[.val (.long i0), .second, .val (.long i1), .second, .val (.long i2), .second, .val (.long i3), .second, .val (.long i4), .second, .val (.int i5), .val (.long fi), .second, .val (.long wd), .second, .val (.long la), .second, .val (.int (1 : Int32)), .val (.long x), .second, .val (.long fi), .second, .val (.ref b40), .val (.int mo), .val (.long i4), .second, .unset, .unset, .unset, .unset] [])
              refine Goes.go (fun _ k => XS.iload X41.here X41.ex rfl (hb hby at_237) rfl (XS.iconst X41.here X41.ex rfl (hb hby at_239) k)) ?_
              show Goes _ _ _ _ T41 (mkF m 240 #[.val (.long i0), .second, .val (.long i1), .second, .val (.long i2), .second, .val (.long i3), .second, .val (.long i4), .second, .val (.int i5), .val (.long fi), .second, .val (.long wd), .second, .val (.long la), .second, .val (.int (1 : Int32)), .val (.long x), .second, .val (.long fi), .second, .val (.ref b40), .val (.int mo), .val (.long i4), .second, .unset, .unset, .unset, .unset] [(.int (5 : Int32)), (.int mo)])
              refine Goes.icmp (pc' := 250) X41.here X41.ex (hb hby at_240) (by decide) (by decide) (fun hr5 => ?_) (fun hr5 => ?_)
              · have hr5 : ¬ (mo = (5 : Int32)) := hr5
                show Goes _ _ _ _ T41 (mkF m 250 #[.val (.long i0), .second, .val (.long i1), .second, .val (.long i2), .second, .val (.long i3), .second, .val (.long i4), .second, .val (.int i5), .val (.long fi), .second, .val (.long wd), .second, .val (.long la), .second, .val (.int (1 : Int32)), .val (.long x), .second, .val (.long fi), .second, .val (.ref b40), .val (.int mo), .val (.long i4), .second, .unset, .unset, .unset, .unset] [])
                refine Goes.go (fun _ k => XS.iload X41.here X41.ex rfl (hb hby at_250) rfl (XS.bipush X41.here X41.ex rfl (hb hby at_252) k)) ?_
                show Goes _ _ _ _ T41 (mkF m 254 #[.val (.long i0), .second, .val (.long i1), .second, .val (.long i2), .second, .val (.long i3), .second, .val (.long i4), .second, .val (.int i5), .val (.long fi), .second, .val (.long wd), .second, .val (.long la), .second, .val (.int (1 : Int32)), .val (.long x), .second, .val (.long fi), .second, .val (.ref b40), .val (.int mo), .val (.long i4), .second, .unset, .unset, .unset, .unset] [(.int (6 : Int32)), (.int mo)])
                refine Goes.icmp (pc' := 264) X41.here X41.ex (hb hby at_254) (by decide) (by decide) (fun hr6 => ?_) (fun hr6 => ?_)
                · have hr6 : ¬ (mo = (6 : Int32)) := hr6
                  show Goes _ _ _ _ T41 (mkF m 264 #[.val (.long i0), .second, .val (.long i1), .second, .val (.long i2), .second, .val (.long i3), .second, .val (.long i4), .second, .val (.int i5), .val (.long fi), .second, .val (.long wd), .second, .val (.long la), .second, .val (.int (1 : Int32)), .val (.long x), .second, .val (.long fi), .second, .val (.ref b40), .val (.int mo), .val (.long i4), .second, .unset, .unset, .unset, .unset] [])
                  refine Goes.go (fun _ k => XS.iload X41.here X41.ex rfl (hb hby at_264) rfl (XS.bipush X41.here X41.ex rfl (hb hby at_266) k)) ?_
                  show Goes _ _ _ _ T41 (mkF m 268 #[.val (.long i0), .second, .val (.long i1), .second, .val (.long i2), .second, .val (.long i3), .second, .val (.long i4), .second, .val (.int i5), .val (.long fi), .second, .val (.long wd), .second, .val (.long la), .second, .val (.int (1 : Int32)), .val (.long x), .second, .val (.long fi), .second, .val (.ref b40), .val (.int mo), .val (.long i4), .second, .unset, .unset, .unset, .unset] [(.int (7 : Int32)), (.int mo)])
                  refine Goes.icmp (pc' := 277) X41.here X41.ex (hb hby at_268) (by decide) (by decide) (fun hr7 => ?_) (fun hr7 => ?_)
                  · have hr7 : ¬ (mo = (7 : Int32)) := hr7
                    show Goes _ _ _ _ T41 (mkF m 277 #[.val (.long i0), .second, .val (.long i1), .second, .val (.long i2), .second, .val (.long i3), .second, .val (.long i4), .second, .val (.int i5), .val (.long fi), .second, .val (.long wd), .second, .val (.long la), .second, .val (.int (1 : Int32)), .val (.long x), .second, .val (.long fi), .second, .val (.ref b40), .val (.int mo), .val (.long i4), .second, .unset, .unset, .unset, .unset] [])
                    (try simp only [if_neg hr1, if_neg hr2, if_neg hr3, if_neg hr4, if_neg hr5, if_neg hr6, if_neg hr7] at hJ184 ⊢)
                    exact hJ184
                  · have hr7 : mo = (7 : Int32) := Classical.not_not.mp hr7
                    show Goes _ _ _ _ T41 (mkF m 271 #[.val (.long i0), .second, .val (.long i1), .second, .val (.long i2), .second, .val (.long i3), .second, .val (.long i4), .second, .val (.int i5), .val (.long fi), .second, .val (.long wd), .second, .val (.long la), .second, .val (.int (1 : Int32)), .val (.long x), .second, .val (.long fi), .second, .val (.ref b40), .val (.int mo), .val (.long i4), .second, .unset, .unset, .unset, .unset] [])
                    refine Goes.go (fun _ k => XS.lload X41.here X41.ex rfl (hb hby at_271) rfl (XS.lconst X41.here X41.ex rfl (hb hby at_273) (XS.ladd X41.here X41.ex rfl (hb hby at_274) rfl (XS.lstore X41.here X41.ex rfl (hb hby at_275) rfl (l' := #[.val (.long i0), .second, .val (.long i1), .second, .val (.long i2), .second, .val (.long i3), .second, .val (.long i4), .second, .val (.int i5), .val (.long fi), .second, .val (.long wd), .second, .val (.long la), .second, .val (.int (1 : Int32)), .val (.long x), .second, .val (.long fi), .second, .val (.ref b40), .val (.int mo), .val (.long (x + (1 : Int64))), .second, .unset, .unset, .unset, .unset]) rfl k)))) ?_
                    show Goes _ _ _ _ T41 (mkF m 277 #[.val (.long i0), .second, .val (.long i1), .second, .val (.long i2), .second, .val (.long i3), .second, .val (.long i4), .second, .val (.int i5), .val (.long fi), .second, .val (.long wd), .second, .val (.long la), .second, .val (.int (1 : Int32)), .val (.long x), .second, .val (.long fi), .second, .val (.ref b40), .val (.int mo), .val (.long (x + (1 : Int64))), .second, .unset, .unset, .unset, .unset] [])
                    (try simp only [if_neg hr1, if_neg hr2, if_neg hr3, if_neg hr4, if_neg hr5, if_neg hr6, if_pos hr7] at hJ184 ⊢)
                    exact hJ184
                · have hr6 : mo = (6 : Int32) := Classical.not_not.mp hr6
                  show Goes _ _ _ _ T41 (mkF m 257 #[.val (.long i0), .second, .val (.long i1), .second, .val (.long i2), .second, .val (.long i3), .second, .val (.long i4), .second, .val (.int i5), .val (.long fi), .second, .val (.long wd), .second, .val (.long la), .second, .val (.int (1 : Int32)), .val (.long x), .second, .val (.long fi), .second, .val (.ref b40), .val (.int mo), .val (.long i4), .second, .unset, .unset, .unset, .unset] [])
                  refine Goes.go (fun _ k => XS.lload X41.here X41.ex rfl (hb hby at_257) rfl (XS.lstore X41.here X41.ex rfl (hb hby at_259) rfl (l' := #[.val (.long i0), .second, .val (.long i1), .second, .val (.long i2), .second, .val (.long i3), .second, .val (.long i4), .second, .val (.int i5), .val (.long fi), .second, .val (.long wd), .second, .val (.long la), .second, .val (.int (1 : Int32)), .val (.long x), .second, .val (.long fi), .second, .val (.ref b40), .val (.int mo), .val (.long fi), .second, .unset, .unset, .unset, .unset]) rfl (XS.goto X41.here X41.ex rfl (pc0 := 261) (pc' := 277) rfl (hb hby at_261) (by decide) (by decide) k))) ?_
                  show Goes _ _ _ _ T41 (mkF m 277 #[.val (.long i0), .second, .val (.long i1), .second, .val (.long i2), .second, .val (.long i3), .second, .val (.long i4), .second, .val (.int i5), .val (.long fi), .second, .val (.long wd), .second, .val (.long la), .second, .val (.int (1 : Int32)), .val (.long x), .second, .val (.long fi), .second, .val (.ref b40), .val (.int mo), .val (.long fi), .second, .unset, .unset, .unset, .unset] [])
                  (try simp only [if_neg hr1, if_neg hr2, if_neg hr3, if_neg hr4, if_neg hr5, if_pos hr6] at hJ184 ⊢)
                  exact hJ184
              · have hr5 : mo = (5 : Int32) := Classical.not_not.mp hr5
                show Goes _ _ _ _ T41 (mkF m 243 #[.val (.long i0), .second, .val (.long i1), .second, .val (.long i2), .second, .val (.long i3), .second, .val (.long i4), .second, .val (.int i5), .val (.long fi), .second, .val (.long wd), .second, .val (.long la), .second, .val (.int (1 : Int32)), .val (.long x), .second, .val (.long fi), .second, .val (.ref b40), .val (.int mo), .val (.long i4), .second, .unset, .unset, .unset, .unset] [])
                refine Goes.go (fun _ k => XS.lload X41.here X41.ex rfl (hb hby at_243) rfl (XS.lstore X41.here X41.ex rfl (hb hby at_245) rfl (l' := #[.val (.long i0), .second, .val (.long i1), .second, .val (.long i2), .second, .val (.long i3), .second, .val (.long i4), .second, .val (.int i5), .val (.long fi), .second, .val (.long wd), .second, .val (.long la), .second, .val (.int (1 : Int32)), .val (.long x), .second, .val (.long fi), .second, .val (.ref b40), .val (.int mo), .val (.long x), .second, .unset, .unset, .unset, .unset]) rfl (XS.goto X41.here X41.ex rfl (pc0 := 247) (pc' := 277) rfl (hb hby at_247) (by decide) (by decide) k))) ?_
                show Goes _ _ _ _ T41 (mkF m 277 #[.val (.long i0), .second, .val (.long i1), .second, .val (.long i2), .second, .val (.long i3), .second, .val (.long i4), .second, .val (.int i5), .val (.long fi), .second, .val (.long wd), .second, .val (.long la), .second, .val (.int (1 : Int32)), .val (.long x), .second, .val (.long fi), .second, .val (.ref b40), .val (.int mo), .val (.long x), .second, .unset, .unset, .unset, .unset] [])
                (try simp only [if_neg hr1, if_neg hr2, if_neg hr3, if_neg hr4, if_pos hr5] at hJ184 ⊢)
                exact hJ184
            · have hr4 : mo = (4 : Int32) := Classical.not_not.mp hr4
              show Goes _ _ _ _ T41 (mkF m 228 #[.val (.long i0), .second, .val (.long i1), .second, .val (.long i2), .second, .val (.long i3), .second, .val (.long i4), .second, .val (.int i5), .val (.long fi), .second, .val (.long wd), .second, .val (.long la), .second, .val (.int (1 : Int32)), .val (.long x), .second, .val (.long fi), .second, .val (.ref b40), .val (.int mo), .val (.long i4), .second, .unset, .unset, .unset, .unset] [])
              refine Goes.go (fun _ k => XS.lload X41.here X41.ex rfl (hb hby at_228) rfl (XS.lconst X41.here X41.ex rfl (hb hby at_230) (XS.ladd X41.here X41.ex rfl (hb hby at_231) rfl (XS.lstore X41.here X41.ex rfl (hb hby at_232) rfl (l' := #[.val (.long i0), .second, .val (.long i1), .second, .val (.long i2), .second, .val (.long i3), .second, .val (.long i4), .second, .val (.int i5), .val (.long fi), .second, .val (.long wd), .second, .val (.long la), .second, .val (.int (1 : Int32)), .val (.long x), .second, .val (.long fi), .second, .val (.ref b40), .val (.int mo), .val (.long (la + (1 : Int64))), .second, .unset, .unset, .unset, .unset]) rfl (XS.goto X41.here X41.ex rfl (pc0 := 234) (pc' := 277) rfl (hb hby at_234) (by decide) (by decide) k))))) ?_
              show Goes _ _ _ _ T41 (mkF m 277 #[.val (.long i0), .second, .val (.long i1), .second, .val (.long i2), .second, .val (.long i3), .second, .val (.long i4), .second, .val (.int i5), .val (.long fi), .second, .val (.long wd), .second, .val (.long la), .second, .val (.int (1 : Int32)), .val (.long x), .second, .val (.long fi), .second, .val (.ref b40), .val (.int mo), .val (.long (la + (1 : Int64))), .second, .unset, .unset, .unset, .unset] [])
              (try simp only [if_neg hr1, if_neg hr2, if_neg hr3, if_pos hr4] at hJ184 ⊢)
              exact hJ184
          · have hr3 : mo = (3 : Int32) := Classical.not_not.mp hr3
            show Goes _ _ _ _ T41 (mkF m 215 #[.val (.long i0), .second, .val (.long i1), .second, .val (.long i2), .second, .val (.long i3), .second, .val (.long i4), .second, .val (.int i5), .val (.long fi), .second, .val (.long wd), .second, .val (.long la), .second, .val (.int (1 : Int32)), .val (.long x), .second, .val (.long fi), .second, .val (.ref b40), .val (.int mo), .val (.long i4), .second, .unset, .unset, .unset, .unset] [])
            refine Goes.go (fun _ k => XS.lload X41.here X41.ex rfl (hb hby at_215) rfl (XS.lstore X41.here X41.ex rfl (hb hby at_217) rfl (l' := #[.val (.long i0), .second, .val (.long i1), .second, .val (.long i2), .second, .val (.long i3), .second, .val (.long i4), .second, .val (.int i5), .val (.long fi), .second, .val (.long wd), .second, .val (.long la), .second, .val (.int (1 : Int32)), .val (.long x), .second, .val (.long fi), .second, .val (.ref b40), .val (.int mo), .val (.long la), .second, .unset, .unset, .unset, .unset]) rfl (XS.goto X41.here X41.ex rfl (pc0 := 219) (pc' := 277) rfl (hb hby at_219) (by decide) (by decide) k))) ?_
            show Goes _ _ _ _ T41 (mkF m 277 #[.val (.long i0), .second, .val (.long i1), .second, .val (.long i2), .second, .val (.long i3), .second, .val (.long i4), .second, .val (.int i5), .val (.long fi), .second, .val (.long wd), .second, .val (.long la), .second, .val (.int (1 : Int32)), .val (.long x), .second, .val (.long fi), .second, .val (.ref b40), .val (.int mo), .val (.long la), .second, .unset, .unset, .unset, .unset] [])
            (try simp only [if_neg hr1, if_neg hr2, if_pos hr3] at hJ184 ⊢)
            exact hJ184
        · have hr2 : mo = (2 : Int32) := Classical.not_not.mp hr2
          show Goes _ _ _ _ T41 (mkF m 202 #[.val (.long i0), .second, .val (.long i1), .second, .val (.long i2), .second, .val (.long i3), .second, .val (.long i4), .second, .val (.int i5), .val (.long fi), .second, .val (.long wd), .second, .val (.long la), .second, .val (.int (1 : Int32)), .val (.long x), .second, .val (.long fi), .second, .val (.ref b40), .val (.int mo), .val (.long i4), .second, .unset, .unset, .unset, .unset] [])
          refine Goes.go (fun _ k => XS.lload X41.here X41.ex rfl (hb hby at_202) rfl (XS.lstore X41.here X41.ex rfl (hb hby at_204) rfl (l' := #[.val (.long i0), .second, .val (.long i1), .second, .val (.long i2), .second, .val (.long i3), .second, .val (.long i4), .second, .val (.int i5), .val (.long fi), .second, .val (.long wd), .second, .val (.long la), .second, .val (.int (1 : Int32)), .val (.long x), .second, .val (.long fi), .second, .val (.ref b40), .val (.int mo), .val (.long fi), .second, .unset, .unset, .unset, .unset]) rfl (XS.goto X41.here X41.ex rfl (pc0 := 206) (pc' := 277) rfl (hb hby at_206) (by decide) (by decide) k))) ?_
          show Goes _ _ _ _ T41 (mkF m 277 #[.val (.long i0), .second, .val (.long i1), .second, .val (.long i2), .second, .val (.long i3), .second, .val (.long i4), .second, .val (.int i5), .val (.long fi), .second, .val (.long wd), .second, .val (.long la), .second, .val (.int (1 : Int32)), .val (.long x), .second, .val (.long fi), .second, .val (.ref b40), .val (.int mo), .val (.long fi), .second, .unset, .unset, .unset, .unset] [])
          (try simp only [if_neg hr1, if_pos hr2] at hJ184 ⊢)
          exact hJ184
      · have hr1 : mo = (1 : Int32) := Classical.not_not.mp hr1
        show Goes _ _ _ _ T41 (mkF m 187 #[.val (.long i0), .second, .val (.long i1), .second, .val (.long i2), .second, .val (.long i3), .second, .val (.long i4), .second, .val (.int i5), .val (.long fi), .second, .val (.long wd), .second, .val (.long la), .second, .val (.int (1 : Int32)), .val (.long x), .second, .val (.long fi), .second, .val (.ref b40), .val (.int mo), .val (.long i4), .second, .unset, .unset, .unset, .unset] [])
        refine Goes.go (fun _ k => XS.lload X41.here X41.ex rfl (hb hby at_187) rfl (XS.lconst X41.here X41.ex rfl (hb hby at_189) (XS.lsub X41.here X41.ex rfl (hb hby at_190) rfl (XS.lstore X41.here X41.ex rfl (hb hby at_191) rfl (l' := #[.val (.long i0), .second, .val (.long i1), .second, .val (.long i2), .second, .val (.long i3), .second, .val (.long i4), .second, .val (.int i5), .val (.long fi), .second, .val (.long wd), .second, .val (.long la), .second, .val (.int (1 : Int32)), .val (.long x), .second, .val (.long fi), .second, .val (.ref b40), .val (.int mo), .val (.long (fi - (1 : Int64))), .second, .unset, .unset, .unset, .unset]) rfl (XS.goto X41.here X41.ex rfl (pc0 := 193) (pc' := 277) rfl (hb hby at_193) (by decide) (by decide) k))))) ?_
        show Goes _ _ _ _ T41 (mkF m 277 #[.val (.long i0), .second, .val (.long i1), .second, .val (.long i2), .second, .val (.long i3), .second, .val (.long i4), .second, .val (.int i5), .val (.long fi), .second, .val (.long wd), .second, .val (.long la), .second, .val (.int (1 : Int32)), .val (.long x), .second, .val (.long fi), .second, .val (.ref b40), .val (.int mo), .val (.long (fi - (1 : Int64))), .second, .unset, .unset, .unset, .unset] [])
        (try simp only [if_pos hr1] at hJ184 ⊢)
        exact hJ184
    obtain ⟨nb, hnb⟩ : ∃ z : Int64, z = (if mo = (1 : Int32) then (fi - (1 : Int64)) else (if mo = (2 : Int32) then fi else (if mo = (3 : Int32) then la else (if mo = (4 : Int32) then (la + (1 : Int64)) else (if mo = (5 : Int32) then x else (if mo = (6 : Int32) then fi else (if mo = (7 : Int32) then (x + (1 : Int64)) else i4))))))) := ⟨_, rfl⟩
    refine Goes.cast (show (mkF m 277 #[.val (.long i0), .second, .val (.long i1), .second, .val (.long i2), .second, .val (.long i3), .second, .val (.long i4), .second, .val (.int i5), .val (.long fi), .second, .val (.long wd), .second, .val (.long la), .second, .val (.int (1 : Int32)), .val (.long x), .second, .val (.long fi), .second, .val (.ref b40), .val (.int mo), .val (.long (if mo = (1 : Int32) then (fi - (1 : Int64)) else (if mo = (2 : Int32) then fi else (if mo = (3 : Int32) then la else (if mo = (4 : Int32) then (la + (1 : Int64)) else (if mo = (5 : Int32) then x else (if mo = (6 : Int32) then fi else (if mo = (7 : Int32) then (x + (1 : Int64)) else i4)))))))), .second, .unset, .unset, .unset, .unset] []) = (mkF m 277 #[.val (.long i0), .second, .val (.long i1), .second, .val (.long i2), .second, .val (.long i3), .second, .val (.long i4), .second, .val (.int i5), .val (.long fi), .second, .val (.long wd), .second, .val (.long la), .second, .val (.int (1 : Int32)), .val (.long x), .second, .val (.long fi), .second, .val (.ref b40), .val (.int mo), .val (.long nb), .second, .unset, .unset, .unset, .unset] []) from by rw [hnb]) ?_
    show Goes _ _ _ _ T41 (mkF m 277 #[.val (.long i0), .second, .val (.long i1), .second, .val (.long i2), .second, .val (.long i3), .second, .val (.long i4), .second, .val (.int i5), .val (.long fi), .second, .val (.long wd), .second, .val (.long la), .second, .val (.int (1 : Int32)), .val (.long x), .second, .val (.long fi), .second, .val (.ref b40), .val (.int mo), .val (.long nb), .second, .unset, .unset, .unset, .unset] [])
    have X42 := X41.mark
    refine Wk.new X42 (w_6 hw) (w_7 hw) (w_8 hw) rfl (hb hby at_277) (by decide) (by decide) ?_
    intro T43 h43 a43 g43 X43 E43 A43 D43
    have lt_b40_a43 : b40 < a43 := by rw [g43]; exact V_b40.lt
    replace V_b40 := V_b40.ext E43
    replace B_b40 := B_b40.ext E43
    have gz_a43 : Z.heap.size ≤ a43 := g43 ▸ X42.old.1
    have gm_a43 : h41.size ≤ a43 := g43 ▸ X42.ext.1
    have F_a43_first : Fld Z h43 a43 "com/example/assent/assent/log/CrashSet" "first" "J" (.long (0 : Int64)) := D43 (Or.inr (w_16 hw)) (ty := .long) (by decide)
    have F_a43_last : Fld Z h43 a43 "com/example/assent/assent/log/CrashSet" "last" "J" (.long (0 : Int64)) := D43 (Or.inr (w_18 hw)) (ty := .long) (by decide)
    have F_a43_committed : Fld Z h43 a43 "com/example/assent/assent/log/CrashSet" "committed" "[J" .null := D43 (Or.inr (w_29 hw)) (ty := (.array .long)) (by decide)
    clear D43
    show Goes _ _ _ _ T43 (mkF m 280 #[.val (.long i0), .second, .val (.long i1), .second, .val (.long i2), .second, .val (.long i3), .second, .val (.long i4), .second, .val (.int i5), .val (.long fi), .second, .val (.long wd), .second, .val (.long la), .second, .val (.int (1 : Int32)), .val (.long x), .second, .val (.long fi), .second, .val (.ref b40), .val (.int mo), .val (.long nb), .second, .unset, .unset, .unset, .unset] [(.ref a43)])
    refine Goes.go (fun _ k => XS.dup X43.here X43.ex rfl (hb hby at_280) rfl rfl (XS.lload X43.here X43.ex rfl (hb hby at_281) rfl (XS.lload X43.here X43.ex rfl (hb hby at_283) rfl (XS.aload X43.here X43.ex rfl (hb hby at_285) rfl rfl k)))) ?_
    show Goes _ _ _ _ T43 (mkF m 287 #[.val (.long i0), .second, .val (.long i1), .second, .val (.long i2), .second, .val (.long i3), .second, .val (.long i4), .second, .val (.int i5), .val (.long fi), .second, .val (.long wd), .second, .val (.long la), .second, .val (.int (1 : Int32)), .val (.long x), .second, .val (.long fi), .second, .val (.ref b40), .val (.int mo), .val (.long nb), .second, .unset, .unset, .unset, .unset] [(.ref b40), (.long la), (.long fi), (.ref a43), (.ref a43)])
    have h1' : (1 : Int64).toInt = 1 := rfl
    have lf := own_le fi; have ll := own_le la
    have pa : ¬ fi < 1 := by rw [Int64.lt_iff_toInt_lt]; omega
    have pb : ¬ la < fi := by rw [Int64.lt_iff_toInt_lt]; omega
    have pw : ¬ (la - fi) < (1 : Int64) := by rw [Int64.lt_iff_toInt_lt, own_lsub la fi (by omega) (by omega), show ((1 : Int64)).toInt = 1 from rfl]; have : ((1 : Int32)).toInt = 1 := rfl; omega
    have p1 : fi - 1 < x := by rw [Int64.lt_iff_toInt_lt, own_lsub fi (1 : Int64) (by omega) (by omega)]; omega
    have p2 : ¬ la < x := by rw [Int64.lt_iff_toInt_lt]; omega
    refine Wk.special (hm' := fun _ => h41) (y := (⟨"com/example/assent/assent/log/CrashSet", "<init>", "(JJ[J)V"⟩ : MethodName)) (W := 1) (kc := 1) (ks := 2) (argsL := [(.long fi), (.long la), (.ref b40)]) (rest := [(.ref a43)]) (as' := #[(.ref a43), (.long fi), (.long la), (.ref b40)]) (ws := [a43]) X43 rfl (w_9 hw) (w_10 hw) (w_11 hw) (by decide) (CtrN.pays (own_ini_1 l Z a0 hw h43 X43.old a43 fi la b40 _ x A43 F_a43_first F_a43_last F_a43_committed gz_a43 V_b40 B_b40 pa pb p1 p2 pw) (w_11 hw) (w_8 hw) (by decide) (by decide)) (fun v h' L q => ⟨q.2, q.1.1⟩) (allS gz_a43 all0) (fun _ => Mark.stay (allS gm_a43 all0)) rfl (by rw [hml]; rfl) (lenOf pd_3 rfl) rfl rfl (by show 2 * 0 + _ ≤ _; exact Nat.le_of_eq rfl) (hb hby at_287) (by decide) (by decide) ?_
    intro T44 h44 v44 L44 X44 q44 K44
    obtain ⟨⟨-, rfl, Ex, Ff, Fl, b2, k2, Fc, V2⟩, -⟩ := q44
    show Goes _ _ _ _ T44 (mkF m 290 #[.val (.long i0), .second, .val (.long i1), .second, .val (.long i2), .second, .val (.long i3), .second, .val (.long i4), .second, .val (.int i5), .val (.long fi), .second, .val (.long wd), .second, .val (.long la), .second, .val (.int (1 : Int32)), .val (.long x), .second, .val (.long fi), .second, .val (.ref b40), .val (.int mo), .val (.long nb), .second, .unset, .unset, .unset, .unset] [(.ref a43)])
    refine Goes.go (fun _ k => XS.astore X44.here X44.ex rfl (hb hby at_290) rfl rfl (l' := #[.val (.long i0), .second, .val (.long i1), .second, .val (.long i2), .second, .val (.long i3), .second, .val (.long i4), .second, .val (.int i5), .val (.long fi), .second, .val (.long wd), .second, .val (.long la), .second, .val (.int (1 : Int32)), .val (.long x), .second, .val (.long fi), .second, .val (.ref b40), .val (.int mo), .val (.long nb), .second, .val (.ref a43), .unset, .unset, .unset]) rfl k) ?_
    show Goes _ _ _ _ T44 (mkF m 292 #[.val (.long i0), .second, .val (.long i1), .second, .val (.long i2), .second, .val (.long i3), .second, .val (.long i4), .second, .val (.int i5), .val (.long fi), .second, .val (.long wd), .second, .val (.long la), .second, .val (.int (1 : Int32)), .val (.long x), .second, .val (.long fi), .second, .val (.ref b40), .val (.int mo), .val (.long nb), .second, .val (.ref a43), .unset, .unset, .unset] [])
    suffices hJ292 : Goes p.tables e below (EndN Z s room_1.cells room_1.slots (fun v h' => v = some (.int (1 : Int32)))) T44 (mkF m 313 #[.val (.long i0), .second, .val (.long i1), .second, .val (.long i2), .second, .val (.long i3), .second, .val (.long i4), .second, .val (.int i5), .val (.long fi), .second, .val (.long wd), .second, .val (.long la), .second, .val (.int (1 : Int32)), .val (.long x), .second, .val (.long fi), .second, .val (.ref b40), .val (.int mo), .val (.long nb), .second, .val (.ref a43), .unset, .unset, .unset] [(.int (if (lcmpW nb fi) < (0 : Int32) then (0 : Int32) else (if (0 : Int32) < (lcmpW nb la) then (0 : Int32) else (1 : Int32))))]) by
      refine Goes.go (fun _ k => XS.lload X44.here X44.ex rfl (hb hby at_292) rfl (XS.lload X44.here X44.ex rfl (hb hby at_294) rfl (XS.lcmp X44.here X44.ex rfl (hb hby at_296) rfl k))) ?_
      show Goes _ _ _ _ T44 (mkF m 297 #[.val (.long i0), .second, .val (.long i1), .second, .val (.long i2), .second, .val (.long i3), .second, .val (.long i4), .second, .val (.int i5), .val (.long fi), .second, .val (.long wd), .second, .val (.long la), .second, .val (.int (1 : Int32)), .val (.long x), .second, .val (.long fi), .second, .val (.ref b40), .val (.int mo), .val (.long nb), .second, .val (.ref a43), .unset, .unset, .unset] [(.int (lcmpW nb fi))])
      refine Goes.ifc (pc' := 312) X44.here X44.ex (hb hby at_297) (by decide) (by decide) (fun hr1 => ?_) (fun hr1 => ?_)
      · have hr1 : (lcmpW nb fi) < (0 : Int32) := hr1
        show Goes _ _ _ _ T44 (mkF m 312 #[.val (.long i0), .second, .val (.long i1), .second, .val (.long i2), .second, .val (.long i3), .second, .val (.long i4), .second, .val (.int i5), .val (.long fi), .second, .val (.long wd), .second, .val (.long la), .second, .val (.int (1 : Int32)), .val (.long x), .second, .val (.long fi), .second, .val (.ref b40), .val (.int mo), .val (.long nb), .second, .val (.ref a43), .unset, .unset, .unset] [])
        refine Goes.go (fun _ k => XS.iconst X44.here X44.ex rfl (hb hby at_312) k) ?_
        show Goes _ _ _ _ T44 (mkF m 313 #[.val (.long i0), .second, .val (.long i1), .second, .val (.long i2), .second, .val (.long i3), .second, .val (.long i4), .second, .val (.int i5), .val (.long fi), .second, .val (.long wd), .second, .val (.long la), .second, .val (.int (1 : Int32)), .val (.long x), .second, .val (.long fi), .second, .val (.ref b40), .val (.int mo), .val (.long nb), .second, .val (.ref a43), .unset, .unset, .unset] [(.int (0 : Int32))])
        (try simp only [if_pos hr1] at hJ292 ⊢)
        exact hJ292
      · have hr1 : ¬ ((lcmpW nb fi) < (0 : Int32)) := hr1
        show Goes _ _ _ _ T44 (mkF m 300 #[.val (.long i0), .second, .val (.long i1), .second, .val (.long i2), .second, .val (.long i3), .second, .val (.long i4), .second, .val (.int i5), .val (.long fi), .second, .val (.long wd), .second, .val (.long la), .second, .val (.int (1 : Int32)), .val (.long x), .second, .val (.long fi), .second, .val (.ref b40), .val (.int mo), .val (.long nb), .second, .val (.ref a43), .unset, .unset, .unset] [])
        refine Goes.go (fun _ k => XS.lload X44.here X44.ex rfl (hb hby at_300) rfl (XS.lload X44.here X44.ex rfl (hb hby at_302) rfl (XS.lcmp X44.here X44.ex rfl (hb hby at_304) rfl k))) ?_
        show Goes _ _ _ _ T44 (mkF m 305 #[.val (.long i0), .second, .val (.long i1), .second, .val (.long i2), .second, .val (.long i3), .second, .val (.long i4), .second, .val (.int i5), .val (.long fi), .second, .val (.long wd), .second, .val (.long la), .second, .val (.int (1 : Int32)), .val (.long x), .second, .val (.long fi), .second, .val (.ref b40), .val (.int mo), .val (.long nb), .second, .val (.ref a43), .unset, .unset, .unset] [(.int (lcmpW nb la))])
        refine Goes.ifc (pc' := 312) X44.here X44.ex (hb hby at_305) (by decide) (by decide) (fun hr2 => ?_) (fun hr2 => ?_)
        · have hr2 : (0 : Int32) < (lcmpW nb la) := hr2
          show Goes _ _ _ _ T44 (mkF m 312 #[.val (.long i0), .second, .val (.long i1), .second, .val (.long i2), .second, .val (.long i3), .second, .val (.long i4), .second, .val (.int i5), .val (.long fi), .second, .val (.long wd), .second, .val (.long la), .second, .val (.int (1 : Int32)), .val (.long x), .second, .val (.long fi), .second, .val (.ref b40), .val (.int mo), .val (.long nb), .second, .val (.ref a43), .unset, .unset, .unset] [])
          refine Goes.go (fun _ k => XS.iconst X44.here X44.ex rfl (hb hby at_312) k) ?_
          show Goes _ _ _ _ T44 (mkF m 313 #[.val (.long i0), .second, .val (.long i1), .second, .val (.long i2), .second, .val (.long i3), .second, .val (.long i4), .second, .val (.int i5), .val (.long fi), .second, .val (.long wd), .second, .val (.long la), .second, .val (.int (1 : Int32)), .val (.long x), .second, .val (.long fi), .second, .val (.ref b40), .val (.int mo), .val (.long nb), .second, .val (.ref a43), .unset, .unset, .unset] [(.int (0 : Int32))])
          (try simp only [if_neg hr1, if_pos hr2] at hJ292 ⊢)
          exact hJ292
        · have hr2 : ¬ ((0 : Int32) < (lcmpW nb la)) := hr2
          show Goes _ _ _ _ T44 (mkF m 308 #[.val (.long i0), .second, .val (.long i1), .second, .val (.long i2), .second, .val (.long i3), .second, .val (.long i4), .second, .val (.int i5), .val (.long fi), .second, .val (.long wd), .second, .val (.long la), .second, .val (.int (1 : Int32)), .val (.long x), .second, .val (.long fi), .second, .val (.ref b40), .val (.int mo), .val (.long nb), .second, .val (.ref a43), .unset, .unset, .unset] [])
          refine Goes.go (fun _ k => XS.iconst X44.here X44.ex rfl (hb hby at_308) (XS.goto X44.here X44.ex rfl (pc0 := 309) (pc' := 313) rfl (hb hby at_309) (by decide) (by decide) k)) ?_
          show Goes _ _ _ _ T44 (mkF m 313 #[.val (.long i0), .second, .val (.long i1), .second, .val (.long i2), .second, .val (.long i3), .second, .val (.long i4), .second, .val (.int i5), .val (.long fi), .second, .val (.long wd), .second, .val (.long la), .second, .val (.int (1 : Int32)), .val (.long x), .second, .val (.long fi), .second, .val (.ref b40), .val (.int mo), .val (.long nb), .second, .val (.ref a43), .unset, .unset, .unset] [(.int (1 : Int32))])
          (try simp only [if_neg hr1, if_neg hr2] at hJ292 ⊢)
          exact hJ292
    refine Goes.go (fun _ k => XS.istore X44.here X44.ex rfl (hb hby at_313) rfl (l' := #[.val (.long i0), .second, .val (.long i1), .second, .val (.long i2), .second, .val (.long i3), .second, .val (.long i4), .second, .val (.int i5), .val (.long fi), .second, .val (.long wd), .second, .val (.long la), .second, .val (.int (1 : Int32)), .val (.long x), .second, .val (.long fi), .second, .val (.ref b40), .val (.int mo), .val (.long nb), .second, .val (.ref a43), .val (.int (if (lcmpW nb fi) < (0 : Int32) then (0 : Int32) else (if (0 : Int32) < (lcmpW nb la) then (0 : Int32) else (1 : Int32)))), .unset, .unset]) rfl k) ?_
    show Goes _ _ _ _ T44 (mkF m 315 #[.val (.long i0), .second, .val (.long i1), .second, .val (.long i2), .second, .val (.long i3), .second, .val (.long i4), .second, .val (.int i5), .val (.long fi), .second, .val (.long wd), .second, .val (.long la), .second, .val (.int (1 : Int32)), .val (.long x), .second, .val (.long fi), .second, .val (.ref b40), .val (.int mo), .val (.long nb), .second, .val (.ref a43), .val (.int (if (lcmpW nb fi) < (0 : Int32) then (0 : Int32) else (if (0 : Int32) < (lcmpW nb la) then (0 : Int32) else (1 : Int32)))), .unset, .unset] [])
    suffices hJ315 : Goes p.tables e below (EndN Z s room_1.cells room_1.slots (fun v h' => v = some (.int (1 : Int32)))) T44 (mkF m 348 #[.val (.long i0), .second, .val (.long i1), .second, .val (.long i2), .second, .val (.long i3), .second, .val (.long i4), .second, .val (.int i5), .val (.long fi), .second, .val (.long wd), .second, .val (.long la), .second, .val (.int (1 : Int32)), .val (.long x), .second, .val (.long fi), .second, .val (.ref b40), .val (.int mo), .val (.long nb), .second, .val (.ref a43), .val (.int (if (lcmpW nb fi) < (0 : Int32) then (0 : Int32) else (if (0 : Int32) < (lcmpW nb la) then (0 : Int32) else (1 : Int32)))), .unset, .unset] [(.int (if (lcmpW nb x) = (0 : Int32) then (1 : Int32) else (0 : Int32)))]) by
      refine Goes.go (fun _ k => XS.iload X44.here X44.ex rfl (hb hby at_315) rfl (XS.iconst X44.here X44.ex rfl (hb hby at_317) (XS.icmpNo X44.here X44.ex rfl (hb hby at_318) rfl (cd_f (cd := .lt) (x := (1 : Int32)) (y := (1 : Int32)) (by decide)) (XS.lload X44.here X44.ex rfl (hb hby at_321) rfl (XS.lload X44.here X44.ex rfl (hb hby at_323) rfl (XS.lcmp X44.here X44.ex rfl (hb hby at_325) rfl k)))))) ?_
      show Goes _ _ _ _ T44 (mkF m 326 #[.val (.long i0), .second, .val (.long i1), .second, .val (.long i2), .second, .val (.long i3), .second, .val (.long i4), .second, .val (.int i5), .val (.long fi), .second, .val (.long wd), .second, .val (.long la), .second, .val (.int (1 : Int32)), .val (.long x), .second, .val (.long fi), .second, .val (.ref b40), .val (.int mo), .val (.long nb), .second, .val (.ref a43), .val (.int (if (lcmpW nb fi) < (0 : Int32) then (0 : Int32) else (if (0 : Int32) < (lcmpW nb la) then (0 : Int32) else (1 : Int32)))), .unset, .unset] [(.int (lcmpW nb x))])
      refine Goes.ifc (pc' := 343) X44.here X44.ex (hb hby at_326) (by decide) (by decide) (fun hr1 => ?_) (fun hr1 => ?_)
      · have hr1 : (lcmpW nb x) = (0 : Int32) := hr1
        show Goes _ _ _ _ T44 (mkF m 343 #[.val (.long i0), .second, .val (.long i1), .second, .val (.long i2), .second, .val (.long i3), .second, .val (.long i4), .second, .val (.int i5), .val (.long fi), .second, .val (.long wd), .second, .val (.long la), .second, .val (.int (1 : Int32)), .val (.long x), .second, .val (.long fi), .second, .val (.ref b40), .val (.int mo), .val (.long nb), .second, .val (.ref a43), .val (.int (if (lcmpW nb fi) < (0 : Int32) then (0 : Int32) else (if (0 : Int32) < (lcmpW nb la) then (0 : Int32) else (1 : Int32)))), .unset, .unset] [])
        refine Goes.go (fun _ k => XS.iconst X44.here X44.ex rfl (hb hby at_343) (XS.goto X44.here X44.ex rfl (pc0 := 344) (pc' := 348) rfl (hb hby at_344) (by decide) (by decide) k)) ?_
        show Goes _ _ _ _ T44 (mkF m 348 #[.val (.long i0), .second, .val (.long i1), .second, .val (.long i2), .second, .val (.long i3), .second, .val (.long i4), .second, .val (.int i5), .val (.long fi), .second, .val (.long wd), .second, .val (.long la), .second, .val (.int (1 : Int32)), .val (.long x), .second, .val (.long fi), .second, .val (.ref b40), .val (.int mo), .val (.long nb), .second, .val (.ref a43), .val (.int (if (lcmpW nb fi) < (0 : Int32) then (0 : Int32) else (if (0 : Int32) < (lcmpW nb la) then (0 : Int32) else (1 : Int32)))), .unset, .unset] [(.int (1 : Int32))])
        (try simp only [if_pos hr1] at hJ315 ⊢)
        exact hJ315
      · have hr1 : ¬ ((lcmpW nb x) = (0 : Int32)) := hr1
        show Goes _ _ _ _ T44 (mkF m 329 #[.val (.long i0), .second, .val (.long i1), .second, .val (.long i2), .second, .val (.long i3), .second, .val (.long i4), .second, .val (.int i5), .val (.long fi), .second, .val (.long wd), .second, .val (.long la), .second, .val (.int (1 : Int32)), .val (.long x), .second, .val (.long fi), .second, .val (.ref b40), .val (.int mo), .val (.long nb), .second, .val (.ref a43), .val (.int (if (lcmpW nb fi) < (0 : Int32) then (0 : Int32) else (if (0 : Int32) < (lcmpW nb la) then (0 : Int32) else (1 : Int32)))), .unset, .unset] [])
        refine Goes.go (fun _ k => XS.iload X44.here X44.ex rfl (hb hby at_329) rfl (XS.iconst X44.here X44.ex rfl (hb hby at_331) (XS.icmpYes X44.here X44.ex rfl (pc0 := 332) (pc' := 347) rfl (hb hby at_332) rfl (cd_t (cd := .ne) (x := (1 : Int32)) (y := (2 : Int32)) (by decide)) (by decide) (by decide) (XS.iconst X44.here X44.ex rfl (hb hby at_347) k)))) ?_
        show Goes _ _ _ _ T44 (mkF m 348 #[.val (.long i0), .second, .val (.long i1), .second, .val (.long i2), .second, .val (.long i3), .second, .val (.long i4), .second, .val (.int i5), .val (.long fi), .second, .val (.long wd), .second, .val (.long la), .second, .val (.int (1 : Int32)), .val (.long x), .second, .val (.long fi), .second, .val (.ref b40), .val (.int mo), .val (.long nb), .second, .val (.ref a43), .val (.int (if (lcmpW nb fi) < (0 : Int32) then (0 : Int32) else (if (0 : Int32) < (lcmpW nb la) then (0 : Int32) else (1 : Int32)))), .unset, .unset] [(.int (0 : Int32))])
        (try simp only [if_neg hr1] at hJ315 ⊢)
        exact hJ315
    refine Goes.go (fun _ k => XS.istore X44.here X44.ex rfl (hb hby at_348) rfl (l' := #[.val (.long i0), .second, .val (.long i1), .second, .val (.long i2), .second, .val (.long i3), .second, .val (.long i4), .second, .val (.int i5), .val (.long fi), .second, .val (.long wd), .second, .val (.long la), .second, .val (.int (1 : Int32)), .val (.long x), .second, .val (.long fi), .second, .val (.ref b40), .val (.int mo), .val (.long nb), .second, .val (.ref a43), .val (.int (if (lcmpW nb fi) < (0 : Int32) then (0 : Int32) else (if (0 : Int32) < (lcmpW nb la) then (0 : Int32) else (1 : Int32)))), .val (.int (if (lcmpW nb x) = (0 : Int32) then (1 : Int32) else (0 : Int32))), .unset]) rfl k) ?_
    show Goes _ _ _ _ T44 (mkF m 350 #[.val (.long i0), .second, .val (.long i1), .second, .val (.long i2), .second, .val (.long i3), .second, .val (.long i4), .second, .val (.int i5), .val (.long fi), .second, .val (.long wd), .second, .val (.long la), .second, .val (.int (1 : Int32)), .val (.long x), .second, .val (.long fi), .second, .val (.ref b40), .val (.int mo), .val (.long nb), .second, .val (.ref a43), .val (.int (if (lcmpW nb fi) < (0 : Int32) then (0 : Int32) else (if (0 : Int32) < (lcmpW nb la) then (0 : Int32) else (1 : Int32)))), .val (.int (if (lcmpW nb x) = (0 : Int32) then (1 : Int32) else (0 : Int32))), .unset] [])
    suffices hJ350 : Goes p.tables e below (EndN Z s room_1.cells room_1.slots (fun v h' => v = some (.int (1 : Int32)))) T44 (mkF m 365 #[.val (.long i0), .second, .val (.long i1), .second, .val (.long i2), .second, .val (.long i3), .second, .val (.long i4), .second, .val (.int i5), .val (.long fi), .second, .val (.long wd), .second, .val (.long la), .second, .val (.int (1 : Int32)), .val (.long x), .second, .val (.long fi), .second, .val (.ref b40), .val (.int mo), .val (.long nb), .second, .val (.ref a43), .val (.int (if (lcmpW nb fi) < (0 : Int32) then (0 : Int32) else (if (0 : Int32) < (lcmpW nb la) then (0 : Int32) else (1 : Int32)))), .val (.int (if (lcmpW nb x) = (0 : Int32) then (1 : Int32) else (0 : Int32))), .unset] [(.int (if (if (lcmpW nb fi) < (0 : Int32) then (0 : Int32) else (if (0 : Int32) < (lcmpW nb la) then (0 : Int32) else (1 : Int32))) = (0 : Int32) then (0 : Int32) else (if (if (lcmpW nb x) = (0 : Int32) then (1 : Int32) else (0 : Int32)) = (0 : Int32) then (1 : Int32) else (0 : Int32))))]) by
      refine Goes.go (fun _ k => XS.iload X44.here X44.ex rfl (hb hby at_350) rfl k) ?_
      show Goes _ _ _ _ T44 (mkF m 352 #[.val (.long i0), .second, .val (.long i1), .second, .val (.long i2), .second, .val (.long i3), .second, .val (.long i4), .second, .val (.int i5), .val (.long fi), .second, .val (.long wd), .second, .val (.long la), .second, .val (.int (1 : Int32)), .val (.long x), .second, .val (.long fi), .second, .val (.ref b40), .val (.int mo), .val (.long nb), .second, .val (.ref a43), .val (.int (if (lcmpW nb fi) < (0 : Int32) then (0 : Int32) else (if (0 : Int32) < (lcmpW nb la) then (0 : Int32) else (1 : Int32)))), .val (.int (if (lcmpW nb x) = (0 : Int32) then (1 : Int32) else (0 : Int32))), .unset] [(.int (if (lcmpW nb fi) < (0 : Int32) then (0 : Int32) else (if (0 : Int32) < (lcmpW nb la) then (0 : Int32) else (1 : Int32))))])
      refine Goes.ifc (pc' := 364) X44.here X44.ex (hb hby at_352) (by decide) (by decide) (fun hr1 => ?_) (fun hr1 => ?_)
      · have hr1 : (if (lcmpW nb fi) < (0 : Int32) then (0 : Int32) else (if (0 : Int32) < (lcmpW nb la) then (0 : Int32) else (1 : Int32))) = (0 : Int32) := hr1
        show Goes _ _ _ _ T44 (mkF m 364 #[.val (.long i0), .second, .val (.long i1), .second, .val (.long i2), .second, .val (.long i3), .second, .val (.long i4), .second, .val (.int i5), .val (.long fi), .second, .val (.long wd), .second, .val (.long la), .second, .val (.int (1 : Int32)), .val (.long x), .second, .val (.long fi), .second, .val (.ref b40), .val (.int mo), .val (.long nb), .second, .val (.ref a43), .val (.int (if (lcmpW nb fi) < (0 : Int32) then (0 : Int32) else (if (0 : Int32) < (lcmpW nb la) then (0 : Int32) else (1 : Int32)))), .val (.int (if (lcmpW nb x) = (0 : Int32) then (1 : Int32) else (0 : Int32))), .unset] [])
        refine Goes.go (fun _ k => XS.iconst X44.here X44.ex rfl (hb hby at_364) k) ?_
        show Goes _ _ _ _ T44 (mkF m 365 #[.val (.long i0), .second, .val (.long i1), .second, .val (.long i2), .second, .val (.long i3), .second, .val (.long i4), .second, .val (.int i5), .val (.long fi), .second, .val (.long wd), .second, .val (.long la), .second, .val (.int (1 : Int32)), .val (.long x), .second, .val (.long fi), .second, .val (.ref b40), .val (.int mo), .val (.long nb), .second, .val (.ref a43), .val (.int (if (lcmpW nb fi) < (0 : Int32) then (0 : Int32) else (if (0 : Int32) < (lcmpW nb la) then (0 : Int32) else (1 : Int32)))), .val (.int (if (lcmpW nb x) = (0 : Int32) then (1 : Int32) else (0 : Int32))), .unset] [(.int (0 : Int32))])
        (try simp only [if_pos hr1] at hJ350 ⊢)
        exact hJ350
      · have hr1 : ¬ ((if (lcmpW nb fi) < (0 : Int32) then (0 : Int32) else (if (0 : Int32) < (lcmpW nb la) then (0 : Int32) else (1 : Int32))) = (0 : Int32)) := hr1
        show Goes _ _ _ _ T44 (mkF m 355 #[.val (.long i0), .second, .val (.long i1), .second, .val (.long i2), .second, .val (.long i3), .second, .val (.long i4), .second, .val (.int i5), .val (.long fi), .second, .val (.long wd), .second, .val (.long la), .second, .val (.int (1 : Int32)), .val (.long x), .second, .val (.long fi), .second, .val (.ref b40), .val (.int mo), .val (.long nb), .second, .val (.ref a43), .val (.int (if (lcmpW nb fi) < (0 : Int32) then (0 : Int32) else (if (0 : Int32) < (lcmpW nb la) then (0 : Int32) else (1 : Int32)))), .val (.int (if (lcmpW nb x) = (0 : Int32) then (1 : Int32) else (0 : Int32))), .unset] [])
        refine Goes.go (fun _ k => XS.iload X44.here X44.ex rfl (hb hby at_355) rfl k) ?_
        show Goes _ _ _ _ T44 (mkF m 357 #[.val (.long i0), .second, .val (.long i1), .second, .val (.long i2), .second, .val (.long i3), .second, .val (.long i4), .second, .val (.int i5), .val (.long fi), .second, .val (.long wd), .second, .val (.long la), .second, .val (.int (1 : Int32)), .val (.long x), .second, .val (.long fi), .second, .val (.ref b40), .val (.int mo), .val (.long nb), .second, .val (.ref a43), .val (.int (if (lcmpW nb fi) < (0 : Int32) then (0 : Int32) else (if (0 : Int32) < (lcmpW nb la) then (0 : Int32) else (1 : Int32)))), .val (.int (if (lcmpW nb x) = (0 : Int32) then (1 : Int32) else (0 : Int32))), .unset] [(.int (if (lcmpW nb x) = (0 : Int32) then (1 : Int32) else (0 : Int32)))])
        refine Goes.ifc (pc' := 364) X44.here X44.ex (hb hby at_357) (by decide) (by decide) (fun hr2 => ?_) (fun hr2 => ?_)
        · have hr2 : ¬ ((if (lcmpW nb x) = (0 : Int32) then (1 : Int32) else (0 : Int32)) = (0 : Int32)) := hr2
          show Goes _ _ _ _ T44 (mkF m 364 #[.val (.long i0), .second, .val (.long i1), .second, .val (.long i2), .second, .val (.long i3), .second, .val (.long i4), .second, .val (.int i5), .val (.long fi), .second, .val (.long wd), .second, .val (.long la), .second, .val (.int (1 : Int32)), .val (.long x), .second, .val (.long fi), .second, .val (.ref b40), .val (.int mo), .val (.long nb), .second, .val (.ref a43), .val (.int (if (lcmpW nb fi) < (0 : Int32) then (0 : Int32) else (if (0 : Int32) < (lcmpW nb la) then (0 : Int32) else (1 : Int32)))), .val (.int (if (lcmpW nb x) = (0 : Int32) then (1 : Int32) else (0 : Int32))), .unset] [])
          refine Goes.go (fun _ k => XS.iconst X44.here X44.ex rfl (hb hby at_364) k) ?_
          show Goes _ _ _ _ T44 (mkF m 365 #[.val (.long i0), .second, .val (.long i1), .second, .val (.long i2), .second, .val (.long i3), .second, .val (.long i4), .second, .val (.int i5), .val (.long fi), .second, .val (.long wd), .second, .val (.long la), .second, .val (.int (1 : Int32)), .val (.long x), .second, .val (.long fi), .second, .val (.ref b40), .val (.int mo), .val (.long nb), .second, .val (.ref a43), .val (.int (if (lcmpW nb fi) < (0 : Int32) then (0 : Int32) else (if (0 : Int32) < (lcmpW nb la) then (0 : Int32) else (1 : Int32)))), .val (.int (if (lcmpW nb x) = (0 : Int32) then (1 : Int32) else (0 : Int32))), .unset] [(.int (0 : Int32))])
          (try simp only [if_neg hr1, if_neg hr2] at hJ350 ⊢)
          exact hJ350
        · have hr2 : (if (lcmpW nb x) = (0 : Int32) then (1 : Int32) else (0 : Int32)) = (0 : Int32) := Classical.not_not.mp hr2
          show Goes _ _ _ _ T44 (mkF m 360 #[.val (.long i0), .second, .val (.long i1), .second, .val (.long i2), .second, .val (.long i3), .second, .val (.long i4), .second, .val (.int i5), .val (.long fi), .second, .val (.long wd), .second, .val (.long la), .second, .val (.int (1 : Int32)), .val (.long x), .second, .val (.long fi), .second, .val (.ref b40), .val (.int mo), .val (.long nb), .second, .val (.ref a43), .val (.int (if (lcmpW nb fi) < (0 : Int32) then (0 : Int32) else (if (0 : Int32) < (lcmpW nb la) then (0 : Int32) else (1 : Int32)))), .val (.int (if (lcmpW nb x) = (0 : Int32) then (1 : Int32) else (0 : Int32))), .unset] [])
          refine Goes.go (fun _ k => XS.iconst X44.here X44.ex rfl (hb hby at_360) (XS.goto X44.here X44.ex rfl (pc0 := 361) (pc' := 365) rfl (hb hby at_361) (by decide) (by decide) k)) ?_
          show Goes _ _ _ _ T44 (mkF m 365 #[.val (.long i0), .second, .val (.long i1), .second, .val (.long i2), .second, .val (.long i3), .second, .val (.long i4), .second, .val (.int i5), .val (.long fi), .second, .val (.long wd), .second, .val (.long la), .second, .val (.int (1 : Int32)), .val (.long x), .second, .val (.long fi), .second, .val (.ref b40), .val (.int mo), .val (.long nb), .second, .val (.ref a43), .val (.int (if (lcmpW nb fi) < (0 : Int32) then (0 : Int32) else (if (0 : Int32) < (lcmpW nb la) then (0 : Int32) else (1 : Int32)))), .val (.int (if (lcmpW nb x) = (0 : Int32) then (1 : Int32) else (0 : Int32))), .unset] [(.int (1 : Int32))])
          (try simp only [if_neg hr1, if_pos hr2] at hJ350 ⊢)
          exact hJ350
    refine Goes.go (fun _ k => XS.istore X44.here X44.ex rfl (hb hby at_365) rfl (l' := #[.val (.long i0), .second, .val (.long i1), .second, .val (.long i2), .second, .val (.long i3), .second, .val (.long i4), .second, .val (.int i5), .val (.long fi), .second, .val (.long wd), .second, .val (.long la), .second, .val (.int (1 : Int32)), .val (.long x), .second, .val (.long fi), .second, .val (.ref b40), .val (.int mo), .val (.long nb), .second, .val (.ref a43), .val (.int (if (lcmpW nb fi) < (0 : Int32) then (0 : Int32) else (if (0 : Int32) < (lcmpW nb la) then (0 : Int32) else (1 : Int32)))), .val (.int (if (lcmpW nb x) = (0 : Int32) then (1 : Int32) else (0 : Int32))), .val (.int (if (if (lcmpW nb fi) < (0 : Int32) then (0 : Int32) else (if (0 : Int32) < (lcmpW nb la) then (0 : Int32) else (1 : Int32))) = (0 : Int32) then (0 : Int32) else (if (if (lcmpW nb x) = (0 : Int32) then (1 : Int32) else (0 : Int32)) = (0 : Int32) then (1 : Int32) else (0 : Int32))))]) rfl (XS.aload X44.here X44.ex rfl (hb hby at_367) rfl rfl (XS.lload X44.here X44.ex rfl (hb hby at_369) rfl k))) ?_
    show Goes _ _ _ _ T44 (mkF m 371 #[.val (.long i0), .second, .val (.long i1), .second, .val (.long i2), .second, .val (.long i3), .second, .val (.long i4), .second, .val (.int i5), .val (.long fi), .second, .val (.long wd), .second, .val (.long la), .second, .val (.int (1 : Int32)), .val (.long x), .second, .val (.long fi), .second, .val (.ref b40), .val (.int mo), .val (.long nb), .second, .val (.ref a43), .val (.int (if (lcmpW nb fi) < (0 : Int32) then (0 : Int32) else (if (0 : Int32) < (lcmpW nb la) then (0 : Int32) else (1 : Int32)))), .val (.int (if (lcmpW nb x) = (0 : Int32) then (1 : Int32) else (0 : Int32))), .val (.int (if (if (lcmpW nb fi) < (0 : Int32) then (0 : Int32) else (if (0 : Int32) < (lcmpW nb la) then (0 : Int32) else (1 : Int32))) = (0 : Int32) then (0 : Int32) else (if (if (lcmpW nb x) = (0 : Int32) then (1 : Int32) else (0 : Int32)) = (0 : Int32) then (1 : Int32) else (0 : Int32))))] [(.long nb), (.ref a43)])
    have hpl := own_plain1 nb fi la x
    refine Wk.virtual (hm' := fun _ => h41) (C := "com/example/assent/assent/log/CrashSet") (y := (⟨"com/example/assent/assent/log/CrashSet", "contains", "(J)Z"⟩ : MethodName)) (z := (⟨"com/example/assent/assent/log/CrashSet", "contains", "(J)Z"⟩ : MethodName)) (W := 0) (kc := 0) (ks := 0) (argsL := [(.long nb)]) (rest := []) (as' := #[(.ref a43), (.long nb)]) (ws := []) X44 (w_30 hw) (w_31 hw) (w_33 hw) (w_32 hw) (by decide) Ex (nf_sel (w_33 hw)) (CtrN.pays (own_ct_1 l Z a0 hw h44 X44.old a43 fi la b2 k2 nb x Ff Fl Fc V2 ) (w_34 hw) (w_8 hw) (by decide) (by decide)) (fun v h' L q => ⟨q.2, q.1.1⟩) all0 (fun _ => Mark.stay all0) rfl (by rw [hml]; rfl) (lenOf pd_4 rfl) rfl rfl (by show 2 * 0 + _ ≤ _; exact Nat.le_of_eq rfl) (hb hby at_371) (by decide) (by decide) ?_
    intro T45 h45 v45 L45 X45 q45 K45
    obtain ⟨⟨-, hE45⟩, -⟩ := q45
    rcases hE45 with ⟨rfl, hq⟩ | ⟨rfl, hq⟩
    · show Goes _ _ _ _ T45 (mkF m 374 #[.val (.long i0), .second, .val (.long i1), .second, .val (.long i2), .second, .val (.long i3), .second, .val (.long i4), .second, .val (.int i5), .val (.long fi), .second, .val (.long wd), .second, .val (.long la), .second, .val (.int (1 : Int32)), .val (.long x), .second, .val (.long fi), .second, .val (.ref b40), .val (.int mo), .val (.long nb), .second, .val (.ref a43), .val (.int (if (lcmpW nb fi) < (0 : Int32) then (0 : Int32) else (if (0 : Int32) < (lcmpW nb la) then (0 : Int32) else (1 : Int32)))), .val (.int (if (lcmpW nb x) = (0 : Int32) then (1 : Int32) else (0 : Int32))), .val (.int (if (if (lcmpW nb fi) < (0 : Int32) then (0 : Int32) else (if (0 : Int32) < (lcmpW nb la) then (0 : Int32) else (1 : Int32))) = (0 : Int32) then (0 : Int32) else (if (if (lcmpW nb x) = (0 : Int32) then (1 : Int32) else (0 : Int32)) = (0 : Int32) then (1 : Int32) else (0 : Int32))))] [(.int (1 : Int32))])
      rw [if_pos hq] at hpl
      refine Goes.go (fun _ k => XS.iload X45.here X45.ex rfl (hb hby at_374) rfl k) ?_
      show Goes _ _ _ _ T45 (mkF m 376 #[.val (.long i0), .second, .val (.long i1), .second, .val (.long i2), .second, .val (.long i3), .second, .val (.long i4), .second, .val (.int i5), .val (.long fi), .second, .val (.long wd), .second, .val (.long la), .second, .val (.int (1 : Int32)), .val (.long x), .second, .val (.long fi), .second, .val (.ref b40), .val (.int mo), .val (.long nb), .second, .val (.ref a43), .val (.int (if (lcmpW nb fi) < (0 : Int32) then (0 : Int32) else (if (0 : Int32) < (lcmpW nb la) then (0 : Int32) else (1 : Int32)))), .val (.int (if (lcmpW nb x) = (0 : Int32) then (1 : Int32) else (0 : Int32))), .val (.int (if (if (lcmpW nb fi) < (0 : Int32) then (0 : Int32) else (if (0 : Int32) < (lcmpW nb la) then (0 : Int32) else (1 : Int32))) = (0 : Int32) then (0 : Int32) else (if (if (lcmpW nb x) = (0 : Int32) then (1 : Int32) else (0 : Int32)) = (0 : Int32) then (1 : Int32) else (0 : Int32))))] [(.int (if (if (lcmpW nb fi) < (0 : Int32) then (0 : Int32) else (if (0 : Int32) < (lcmpW nb la) then (0 : Int32) else (1 : Int32))) = (0 : Int32) then (0 : Int32) else (if (if (lcmpW nb x) = (0 : Int32) then (1 : Int32) else (0 : Int32)) = (0 : Int32) then (1 : Int32) else (0 : Int32)))), (.int (1 : Int32))])
      refine Goes.go (fun _ k => XS.icmpNo X45.here X45.ex rfl (hb hby at_376) rfl (cd_f (cd := .ne) (x := (1 : Int32)) (y := (if (if (lcmpW nb fi) < (0 : Int32) then (0 : Int32) else (if (0 : Int32) < (lcmpW nb la) then (0 : Int32) else (1 : Int32))) = (0 : Int32) then (0 : Int32) else (if (if (lcmpW nb x) = (0 : Int32) then (1 : Int32) else (0 : Int32)) = (0 : Int32) then (1 : Int32) else (0 : Int32)))) ((fun q => absurd (hpl.symm) q))) k) ?_
      show Goes _ _ _ _ T45 (mkF m 379 #[.val (.long i0), .second, .val (.long i1), .second, .val (.long i2), .second, .val (.long i3), .second, .val (.long i4), .second, .val (.int i5), .val (.long fi), .second, .val (.long wd), .second, .val (.long la), .second, .val (.int (1 : Int32)), .val (.long x), .second, .val (.long fi), .second, .val (.ref b40), .val (.int mo), .val (.long nb), .second, .val (.ref a43), .val (.int (if (lcmpW nb fi) < (0 : Int32) then (0 : Int32) else (if (0 : Int32) < (lcmpW nb la) then (0 : Int32) else (1 : Int32)))), .val (.int (if (lcmpW nb x) = (0 : Int32) then (1 : Int32) else (0 : Int32))), .val (.int (if (if (lcmpW nb fi) < (0 : Int32) then (0 : Int32) else (if (0 : Int32) < (lcmpW nb la) then (0 : Int32) else (1 : Int32))) = (0 : Int32) then (0 : Int32) else (if (if (lcmpW nb x) = (0 : Int32) then (1 : Int32) else (0 : Int32)) = (0 : Int32) then (1 : Int32) else (0 : Int32))))] [])
      refine Goes.go (fun _ k => XS.iconst X45.here X45.ex rfl (hb hby at_379) (XS.goto X45.here X45.ex rfl (pc0 := 380) (pc' := 384) rfl (hb hby at_380) (by decide) (by decide) k)) ?_
      show Goes _ _ _ _ T45 (mkF m 384 #[.val (.long i0), .second, .val (.long i1), .second, .val (.long i2), .second, .val (.long i3), .second, .val (.long i4), .second, .val (.int i5), .val (.long fi), .second, .val (.long wd), .second, .val (.long la), .second, .val (.int (1 : Int32)), .val (.long x), .second, .val (.long fi), .second, .val (.ref b40), .val (.int mo), .val (.long nb), .second, .val (.ref a43), .val (.int (if (lcmpW nb fi) < (0 : Int32) then (0 : Int32) else (if (0 : Int32) < (lcmpW nb la) then (0 : Int32) else (1 : Int32)))), .val (.int (if (lcmpW nb x) = (0 : Int32) then (1 : Int32) else (0 : Int32))), .val (.int (if (if (lcmpW nb fi) < (0 : Int32) then (0 : Int32) else (if (0 : Int32) < (lcmpW nb la) then (0 : Int32) else (1 : Int32))) = (0 : Int32) then (0 : Int32) else (if (if (lcmpW nb x) = (0 : Int32) then (1 : Int32) else (0 : Int32)) = (0 : Int32) then (1 : Int32) else (0 : Int32))))] [(.int (1 : Int32))])
      refine Goes.outN X45 (fun q => by rw [hret] at q; cases q) hlk (X45.rB hret (by simp) (hb hby at_384)) ?_ (by decide) (by decide)
      exact rfl
    · show Goes _ _ _ _ T45 (mkF m 374 #[.val (.long i0), .second, .val (.long i1), .second, .val (.long i2), .second, .val (.long i3), .second, .val (.long i4), .second, .val (.int i5), .val (.long fi), .second, .val (.long wd), .second, .val (.long la), .second, .val (.int (1 : Int32)), .val (.long x), .second, .val (.long fi), .second, .val (.ref b40), .val (.int mo), .val (.long nb), .second, .val (.ref a43), .val (.int (if (lcmpW nb fi) < (0 : Int32) then (0 : Int32) else (if (0 : Int32) < (lcmpW nb la) then (0 : Int32) else (1 : Int32)))), .val (.int (if (lcmpW nb x) = (0 : Int32) then (1 : Int32) else (0 : Int32))), .val (.int (if (if (lcmpW nb fi) < (0 : Int32) then (0 : Int32) else (if (0 : Int32) < (lcmpW nb la) then (0 : Int32) else (1 : Int32))) = (0 : Int32) then (0 : Int32) else (if (if (lcmpW nb x) = (0 : Int32) then (1 : Int32) else (0 : Int32)) = (0 : Int32) then (1 : Int32) else (0 : Int32))))] [(.int (0 : Int32))])
      rw [if_neg hq] at hpl
      refine Goes.go (fun _ k => XS.iload X45.here X45.ex rfl (hb hby at_374) rfl k) ?_
      show Goes _ _ _ _ T45 (mkF m 376 #[.val (.long i0), .second, .val (.long i1), .second, .val (.long i2), .second, .val (.long i3), .second, .val (.long i4), .second, .val (.int i5), .val (.long fi), .second, .val (.long wd), .second, .val (.long la), .second, .val (.int (1 : Int32)), .val (.long x), .second, .val (.long fi), .second, .val (.ref b40), .val (.int mo), .val (.long nb), .second, .val (.ref a43), .val (.int (if (lcmpW nb fi) < (0 : Int32) then (0 : Int32) else (if (0 : Int32) < (lcmpW nb la) then (0 : Int32) else (1 : Int32)))), .val (.int (if (lcmpW nb x) = (0 : Int32) then (1 : Int32) else (0 : Int32))), .val (.int (if (if (lcmpW nb fi) < (0 : Int32) then (0 : Int32) else (if (0 : Int32) < (lcmpW nb la) then (0 : Int32) else (1 : Int32))) = (0 : Int32) then (0 : Int32) else (if (if (lcmpW nb x) = (0 : Int32) then (1 : Int32) else (0 : Int32)) = (0 : Int32) then (1 : Int32) else (0 : Int32))))] [(.int (if (if (lcmpW nb fi) < (0 : Int32) then (0 : Int32) else (if (0 : Int32) < (lcmpW nb la) then (0 : Int32) else (1 : Int32))) = (0 : Int32) then (0 : Int32) else (if (if (lcmpW nb x) = (0 : Int32) then (1 : Int32) else (0 : Int32)) = (0 : Int32) then (1 : Int32) else (0 : Int32)))), (.int (0 : Int32))])
      refine Goes.go (fun _ k => XS.icmpNo X45.here X45.ex rfl (hb hby at_376) rfl (cd_f (cd := .ne) (x := (0 : Int32)) (y := (if (if (lcmpW nb fi) < (0 : Int32) then (0 : Int32) else (if (0 : Int32) < (lcmpW nb la) then (0 : Int32) else (1 : Int32))) = (0 : Int32) then (0 : Int32) else (if (if (lcmpW nb x) = (0 : Int32) then (1 : Int32) else (0 : Int32)) = (0 : Int32) then (1 : Int32) else (0 : Int32)))) ((fun q => absurd (hpl.symm) q))) k) ?_
      show Goes _ _ _ _ T45 (mkF m 379 #[.val (.long i0), .second, .val (.long i1), .second, .val (.long i2), .second, .val (.long i3), .second, .val (.long i4), .second, .val (.int i5), .val (.long fi), .second, .val (.long wd), .second, .val (.long la), .second, .val (.int (1 : Int32)), .val (.long x), .second, .val (.long fi), .second, .val (.ref b40), .val (.int mo), .val (.long nb), .second, .val (.ref a43), .val (.int (if (lcmpW nb fi) < (0 : Int32) then (0 : Int32) else (if (0 : Int32) < (lcmpW nb la) then (0 : Int32) else (1 : Int32)))), .val (.int (if (lcmpW nb x) = (0 : Int32) then (1 : Int32) else (0 : Int32))), .val (.int (if (if (lcmpW nb fi) < (0 : Int32) then (0 : Int32) else (if (0 : Int32) < (lcmpW nb la) then (0 : Int32) else (1 : Int32))) = (0 : Int32) then (0 : Int32) else (if (if (lcmpW nb x) = (0 : Int32) then (1 : Int32) else (0 : Int32)) = (0 : Int32) then (1 : Int32) else (0 : Int32))))] [])
      refine Goes.go (fun _ k => XS.iconst X45.here X45.ex rfl (hb hby at_379) (XS.goto X45.here X45.ex rfl (pc0 := 380) (pc' := 384) rfl (hb hby at_380) (by decide) (by decide) k)) ?_
      show Goes _ _ _ _ T45 (mkF m 384 #[.val (.long i0), .second, .val (.long i1), .second, .val (.long i2), .second, .val (.long i3), .second, .val (.long i4), .second, .val (.int i5), .val (.long fi), .second, .val (.long wd), .second, .val (.long la), .second, .val (.int (1 : Int32)), .val (.long x), .second, .val (.long fi), .second, .val (.ref b40), .val (.int mo), .val (.long nb), .second, .val (.ref a43), .val (.int (if (lcmpW nb fi) < (0 : Int32) then (0 : Int32) else (if (0 : Int32) < (lcmpW nb la) then (0 : Int32) else (1 : Int32)))), .val (.int (if (lcmpW nb x) = (0 : Int32) then (1 : Int32) else (0 : Int32))), .val (.int (if (if (lcmpW nb fi) < (0 : Int32) then (0 : Int32) else (if (0 : Int32) < (lcmpW nb la) then (0 : Int32) else (1 : Int32))) = (0 : Int32) then (0 : Int32) else (if (if (lcmpW nb x) = (0 : Int32) then (1 : Int32) else (0 : Int32)) = (0 : Int32) then (1 : Int32) else (0 : Int32))))] [(.int (1 : Int32))])
      refine Goes.outN X45 (fun q => by rw [hret] at q; cases q) hlk (X45.rB hret (by simp) (hb hby at_384)) ?_ (by decide) (by decide)
      exact rfl
  · show Goes _ _ _ _ T34 (mkF m 64 #[.val (.long i0), .second, .val (.long i1), .second, .val (.long i2), .second, .val (.long i3), .second, .val (.long i4), .second, .val (.int i5), .val (.long fi), .second, .val (.long wd), .second, .val (.long la), .second, .val (.int (2 : Int32)), .val (.long fi), .second, .val (.long fi), .second, .unset, .unset, .unset, .unset, .unset, .unset, .unset, .unset] [])
    refine Goes.go (fun _ k => XS.iload X34.here X34.ex rfl (hb hby at_64) rfl (XS.iconst X34.here X34.ex rfl (hb hby at_66) (XS.icmpYes X34.here X34.ex rfl (pc0 := 67) (pc' := 86) rfl (hb hby at_67) rfl (cd_t (cd := .ne) (x := (2 : Int32)) (y := (1 : Int32)) (by decide)) (by decide) (by decide) (XS.iload X34.here X34.ex rfl (hb hby at_86) rfl (XS.iconst X34.here X34.ex rfl (hb hby at_88) (XS.icmpNo X34.here X34.ex rfl (hb hby at_89) rfl (cd_f (cd := .ne) (x := (2 : Int32)) (y := (2 : Int32)) (by decide)) k)))))) ?_
    show Goes _ _ _ _ T34 (mkF m 92 #[.val (.long i0), .second, .val (.long i1), .second, .val (.long i2), .second, .val (.long i3), .second, .val (.long i4), .second, .val (.int i5), .val (.long fi), .second, .val (.long wd), .second, .val (.long la), .second, .val (.int (2 : Int32)), .val (.long fi), .second, .val (.long fi), .second, .unset, .unset, .unset, .unset, .unset, .unset, .unset, .unset] [])
    refine Goes.go (fun _ k => XS.lload X34.here X34.ex rfl (hb hby at_92) rfl (XS.lload X34.here X34.ex rfl (hb hby at_94) rfl k)) ?_
    show Goes _ _ _ _ T34 (mkF m 96 #[.val (.long i0), .second, .val (.long i1), .second, .val (.long i2), .second, .val (.long i3), .second, .val (.long i4), .second, .val (.int i5), .val (.long fi), .second, .val (.long wd), .second, .val (.long la), .second, .val (.int (2 : Int32)), .val (.long fi), .second, .val (.long fi), .second, .unset, .unset, .unset, .unset, .unset, .unset, .unset, .unset] [(.long i2), (.long fi)])
    refine Goes.go (X34.ldcL (w_0 hw) rfl (hb hby at_96)) ?_
    show Goes _ _ _ _ T34 (mkF m 99 #[.val (.long i0), .second, .val (.long i1), .second, .val (.long i2), .second, .val (.long i3), .second, .val (.long i4), .second, .val (.int i5), .val (.long fi), .second, .val (.long wd), .second, .val (.long la), .second, .val (.int (2 : Int32)), .val (.long fi), .second, .val (.long fi), .second, .unset, .unset, .unset, .unset, .unset, .unset, .unset, .unset] [(.long (9223372036854775807 : Int64)), (.long i2), (.long fi)])
    have nd2 : ¬ (wd = (0 : Int64)) := own_nz (by have : (2 : Int32).toInt = 2 := rfl; omega)
    refine Goes.go (fun _ k => XS.land X34.here X34.ex rfl (hb hby at_99) rfl (XS.lload X34.here X34.ex rfl (hb hby at_100) rfl (XS.lrem X34.here X34.ex rfl (hb hby at_102) rfl nd2 (XS.ladd X34.here X34.ex rfl (hb hby at_103) rfl (XS.lstore X34.here X34.ex rfl (hb hby at_104) rfl (l' := #[.val (.long i0), .second, .val (.long i1), .second, .val (.long i2), .second, .val (.long i3), .second, .val (.long i4), .second, .val (.int i5), .val (.long fi), .second, .val (.long wd), .second, .val (.long la), .second, .val (.int (2 : Int32)), .val (.long (fi + ((i2 &&& (9223372036854775807 : Int64)) - ((i2 &&& (9223372036854775807 : Int64)) / wd) * wd))), .second, .val (.long fi), .second, .unset, .unset, .unset, .unset, .unset, .unset, .unset, .unset]) rfl k))))) ?_
    show Goes _ _ _ _ T34 (mkF m 106 #[.val (.long i0), .second, .val (.long i1), .second, .val (.long i2), .second, .val (.long i3), .second, .val (.long i4), .second, .val (.int i5), .val (.long fi), .second, .val (.long wd), .second, .val (.long la), .second, .val (.int (2 : Int32)), .val (.long (fi + ((i2 &&& (9223372036854775807 : Int64)) - ((i2 &&& (9223372036854775807 : Int64)) / wd) * wd))), .second, .val (.long fi), .second, .unset, .unset, .unset, .unset, .unset, .unset, .unset, .unset] [])
    obtain ⟨x, hx⟩ : ∃ z : Int64, z = (fi + ((i2 &&& (9223372036854775807 : Int64)) - ((i2 &&& (9223372036854775807 : Int64)) / wd) * wd)) := ⟨_, rfl⟩
    refine Goes.cast (show (mkF m 106 #[.val (.long i0), .second, .val (.long i1), .second, .val (.long i2), .second, .val (.long i3), .second, .val (.long i4), .second, .val (.int i5), .val (.long fi), .second, .val (.long wd), .second, .val (.long la), .second, .val (.int (2 : Int32)), .val (.long (fi + ((i2 &&& (9223372036854775807 : Int64)) - ((i2 &&& (9223372036854775807 : Int64)) / wd) * wd))), .second, .val (.long fi), .second, .unset, .unset, .unset, .unset, .unset, .unset, .unset, .unset] []) = (mkF m 106 #[.val (.long i0), .second, .val (.long i1), .second, .val (.long i2), .second, .val (.long i3), .second, .val (.long i4), .second, .val (.int i5), .val (.long fi), .second, .val (.long wd), .second, .val (.long la), .second, .val (.int (2 : Int32)), .val (.long x), .second, .val (.long fi), .second, .unset, .unset, .unset, .unset, .unset, .unset, .unset, .unset] []) from by rw [hx]) ?_
    show Goes _ _ _ _ T34 (mkF m 106 #[.val (.long i0), .second, .val (.long i1), .second, .val (.long i2), .second, .val (.long i3), .second, .val (.long i4), .second, .val (.int i5), .val (.long fi), .second, .val (.long wd), .second, .val (.long la), .second, .val (.int (2 : Int32)), .val (.long x), .second, .val (.long fi), .second, .unset, .unset, .unset, .unset, .unset, .unset, .unset, .unset] [])
    have ax : fi.toInt ≤ x.toInt ∧ x.toInt < la.toInt := by
      have bk' : (2 : Int32).toInt = 2 := rfl
      have q := own_lrem i2 wd (by omega)
      have q2 := own_ladd fi ((i2 &&& (9223372036854775807 : Int64)) - ((i2 &&& (9223372036854775807 : Int64)) / wd) * wd) (by omega) (by have := own_le fi; omega)
      rw [← hx] at q2
      omega
    refine Goes.go (fun _ k => XS.lload X34.here X34.ex rfl (hb hby at_106) rfl (XS.lconst X34.here X34.ex rfl (hb hby at_108) (XS.ladd X34.here X34.ex rfl (hb hby at_109) rfl (XS.lload X34.here X34.ex rfl (hb hby at_110) rfl k)))) ?_
    show Goes _ _ _ _ T34 (mkF m 112 #[.val (.long i0), .second, .val (.long i1), .second, .val (.long i2), .second, .val (.long i3), .second, .val (.long i4), .second, .val (.int i5), .val (.long fi), .second, .val (.long wd), .second, .val (.long la), .second, .val (.int (2 : Int32)), .val (.long x), .second, .val (.long fi), .second, .unset, .unset, .unset, .unset, .unset, .unset, .unset, .unset] [(.long i3), (.long (x + (1 : Int64)))])
    refine Goes.go (X34.ldcL (w_0 hw) rfl (hb hby at_112)) ?_
    show Goes _ _ _ _ T34 (mkF m 115 #[.val (.long i0), .second, .val (.long i1), .second, .val (.long i2), .second, .val (.long i3), .second, .val (.long i4), .second, .val (.int i5), .val (.long fi), .second, .val (.long wd), .second, .val (.long la), .second, .val (.int (2 : Int32)), .val (.long x), .second, .val (.long fi), .second, .unset, .unset, .unset, .unset, .unset, .unset, .unset, .unset] [(.long (9223372036854775807 : Int64)), (.long i3), (.long (x + (1 : Int64)))])
    refine Goes.go (fun _ k => XS.land X34.here X34.ex rfl (hb hby at_115) rfl (XS.lload X34.here X34.ex rfl (hb hby at_116) rfl (XS.lload X34.here X34.ex rfl (hb hby at_118) rfl (XS.lsub X34.here X34.ex rfl (hb hby at_120) rfl k)))) ?_
    show Goes _ _ _ _ T34 (mkF m 121 #[.val (.long i0), .second, .val (.long i1), .second, .val (.long i2), .second, .val (.long i3), .second, .val (.long i4), .second, .val (.int i5), .val (.long fi), .second, .val (.long wd), .second, .val (.long la), .second, .val (.int (2 : Int32)), .val (.long x), .second, .val (.long fi), .second, .unset, .unset, .unset, .unset, .unset, .unset, .unset, .unset] [(.long (la - x)), (.long (i3 &&& (9223372036854775807 : Int64))), (.long (x + (1 : Int64)))])
    have e3 : (la - x).toInt = la.toInt - x.toInt := own_lsub _ _ (by omega) (by omega)
    have nd3 : ¬ ((la - x) = (0 : Int64)) := own_nz (by rw [e3]; omega)
    refine Goes.go (fun _ k => XS.lrem X34.here X34.ex rfl (hb hby at_121) rfl nd3 (XS.ladd X34.here X34.ex rfl (hb hby at_122) rfl (XS.lstore X34.here X34.ex rfl (hb hby at_123) rfl (l' := #[.val (.long i0), .second, .val (.long i1), .second, .val (.long i2), .second, .val (.long i3), .second, .val (.long i4), .second, .val (.int i5), .val (.long fi), .second, .val (.long wd), .second, .val (.long la), .second, .val (.int (2 : Int32)), .val (.long x), .second, .val (.long ((x + (1 : Int64)) + ((i3 &&& (9223372036854775807 : Int64)) - ((i3 &&& (9223372036854775807 : Int64)) / (la - x)) * (la - x)))), .second, .unset, .unset, .unset, .unset, .unset, .unset, .unset, .unset]) rfl k))) ?_
    show Goes _ _ _ _ T34 (mkF m 125 #[.val (.long i0), .second, .val (.long i1), .second, .val (.long i2), .second, .val (.long i3), .second, .val (.long i4), .second, .val (.int i5), .val (.long fi), .second, .val (.long wd), .second, .val (.long la), .second, .val (.int (2 : Int32)), .val (.long x), .second, .val (.long ((x + (1 : Int64)) + ((i3 &&& (9223372036854775807 : Int64)) - ((i3 &&& (9223372036854775807 : Int64)) / (la - x)) * (la - x)))), .second, .unset, .unset, .unset, .unset, .unset, .unset, .unset, .unset] [])
    obtain ⟨y, hy⟩ : ∃ z : Int64, z = ((x + (1 : Int64)) + ((i3 &&& (9223372036854775807 : Int64)) - ((i3 &&& (9223372036854775807 : Int64)) / (la - x)) * (la - x))) := ⟨_, rfl⟩
    refine Goes.cast (show (mkF m 125 #[.val (.long i0), .second, .val (.long i1), .second, .val (.long i2), .second, .val (.long i3), .second, .val (.long i4), .second, .val (.int i5), .val (.long fi), .second, .val (.long wd), .second, .val (.long la), .second, .val (.int (2 : Int32)), .val (.long x), .second, .val (.long ((x + (1 : Int64)) + ((i3 &&& (9223372036854775807 : Int64)) - ((i3 &&& (9223372036854775807 : Int64)) / (la - x)) * (la - x)))), .second, .unset, .unset, .unset, .unset, .unset, .unset, .unset, .unset] []) = (mkF m 125 #[.val (.long i0), .second, .val (.long i1), .second, .val (.long i2), .second, .val (.long i3), .second, .val (.long i4), .second, .val (.int i5), .val (.long fi), .second, .val (.long wd), .second, .val (.long la), .second, .val (.int (2 : Int32)), .val (.long x), .second, .val (.long y), .second, .unset, .unset, .unset, .unset, .unset, .unset, .unset, .unset] []) from by rw [hy]) ?_
    show Goes _ _ _ _ T34 (mkF m 125 #[.val (.long i0), .second, .val (.long i1), .second, .val (.long i2), .second, .val (.long i3), .second, .val (.long i4), .second, .val (.int i5), .val (.long fi), .second, .val (.long wd), .second, .val (.long la), .second, .val (.int (2 : Int32)), .val (.long x), .second, .val (.long y), .second, .unset, .unset, .unset, .unset, .unset, .unset, .unset, .unset] [])
    have ay : x.toInt < y.toInt ∧ y.toInt ≤ la.toInt := by
      have q := own_lrem i3 (la - x) (by rw [e3]; omega)
      rw [e3] at q
      have ll := own_le la
      have q0 : (x + (1 : Int64)).toInt = x.toInt + 1 := own_ladd1 _ (by omega)
      have q2 := own_ladd (x + (1 : Int64)) ((i3 &&& (9223372036854775807 : Int64)) - ((i3 &&& (9223372036854775807 : Int64)) / (la - x)) * (la - x)) (by omega) (by omega)
      rw [← hy] at q2
      omega
    refine Goes.go (fun _ k => XS.iload X34.here X34.ex rfl (hb hby at_125) rfl (XS.ifYes X34.here X34.ex rfl (pc0 := 127) (pc' := 136) rfl (hb hby at_127) rfl ((if0 _ _).trans (cd_t (cd := .ne) (x := (2 : Int32)) (y := (0 : Int32)) (by decide))) (by decide) (by decide) (XS.iload X34.here X34.ex rfl (hb hby at_136) rfl (XS.iconst X34.here X34.ex rfl (hb hby at_138) (XS.icmpYes X34.here X34.ex rfl (pc0 := 139) (pc' := 153) rfl (hb hby at_139) rfl (cd_t (cd := .ne) (x := (2 : Int32)) (y := (1 : Int32)) (by decide)) (by decide) (by decide) (XS.iconst X34.here X34.ex rfl (hb hby at_153) k)))))) ?_
    show Goes _ _ _ _ T34 (mkF m 154 #[.val (.long i0), .second, .val (.long i1), .second, .val (.long i2), .second, .val (.long i3), .second, .val (.long i4), .second, .val (.int i5), .val (.long fi), .second, .val (.long wd), .second, .val (.long la), .second, .val (.int (2 : Int32)), .val (.long x), .second, .val (.long y), .second, .unset, .unset, .unset, .unset, .unset, .unset, .unset, .unset] [(.int (2 : Int32))])
    refine Wk.newA (aty := .long) X34 (w_5 hw) rfl (hb hby at_154) rfl (by decide) (cap := 2) (by decide) (by decide) (by decide) (by decide) ?_
    intro T46 h46 b46 k46 g46 X46 E46 A46 B_b46
    have V_b46 : Arv Z h46 b46 k46 .long (2 : Int32) [(.long (0 : Int64)), (.long (0 : Int64))] (.long (0 : Int64)) := A46.pad (pad_rep [] (.long (0 : Int64)) 2)
    have gz_b46 : Z.heap.size ≤ b46 := g46 ▸ X34.old.1
    have gm_b46 : h0.size ≤ b46 := g46 ▸ X34.ext.1
    show Goes _ _ _ _ T46 (mkF m 156 #[.val (.long i0), .second, .val (.long i1), .second, .val (.long i2), .second, .val (.long i3), .second, .val (.long i4), .second, .val (.int i5), .val (.long fi), .second, .val (.long wd), .second, .val (.long la), .second, .val (.int (2 : Int32)), .val (.long x), .second, .val (.long y), .second, .unset, .unset, .unset, .unset, .unset, .unset, .unset, .unset] [(.ref b46)])
    refine Goes.go (fun _ k => XS.dup X46.here X46.ex rfl (hb hby at_156) rfl rfl (XS.iconst X46.here X46.ex rfl (hb hby at_157) (XS.lload X46.here X46.ex rfl (hb hby at_158) rfl k))) ?_
    show Goes _ _ _ _ T46 (mkF m 160 #[.val (.long i0), .second, .val (.long i1), .second, .val (.long i2), .second, .val (.long i3), .second, .val (.long i4), .second, .val (.int i5), .val (.long fi), .second, .val (.long wd), .second, .val (.long la), .second, .val (.int (2 : Int32)), .val (.long x), .second, .val (.long y), .second, .unset, .unset, .unset, .unset, .unset, .unset, .unset, .unset] [(.long x), (.int (0 : Int32)), (.ref b46), (.ref b46)])
    refine Wk.lastore (hm' := fun _ => h0) X46 V_b46 ⟨by decide, by decide⟩ (i := 0) rfl (Nat.le_of_ble_eq_true rfl) gz_b46 (fun _ => Mark.stay (allS gm_b46 all0)) rfl rfl (hb hby at_160) ?_
    intro T47 h47 X47 W47 V47
    replace B_b46 := B_b46.wr W47
    clear V_b46; have V_b46 : Arv Z h47 b46 _ .long (2 : Int32) [(.long x), (.long (0 : Int64))] (.long (0 : Int64)) := V47
    show Goes _ _ _ _ T47 (mkF m 161 #[.val (.long i0), .second, .val (.long i1), .second, .val (.long i2), .second, .val (.long i3), .second, .val (.long i4), .second, .val (.int i5), .val (.long fi), .second, .val (.long wd), .second, .val (.long la), .second, .val (.int (2 : Int32)), .val (.long x), .second, .val (.long y), .second, .unset, .unset, .unset, .unset, .unset, .unset, .unset, .unset] [(.ref b46)])
    refine Goes.go (fun _ k => XS.dup X47.here X47.ex rfl (hb hby at_161) rfl rfl (XS.iconst X47.here X47.ex rfl (hb hby at_162) (XS.lload X47.here X47.ex rfl (hb hby at_163) rfl k))) ?_
    show Goes _ _ _ _ T47 (mkF m 165 #[.val (.long i0), .second, .val (.long i1), .second, .val (.long i2), .second, .val (.long i3), .second, .val (.long i4), .second, .val (.int i5), .val (.long fi), .second, .val (.long wd), .second, .val (.long la), .second, .val (.int (2 : Int32)), .val (.long x), .second, .val (.long y), .second, .unset, .unset, .unset, .unset, .unset, .unset, .unset, .unset] [(.long y), (.int (1 : Int32)), (.ref b46), (.ref b46)])
    refine Wk.lastore (hm' := fun _ => h0) X47 V_b46 ⟨by decide, by decide⟩ (i := 1) rfl (Nat.le_of_ble_eq_true rfl) gz_b46 (fun _ => Mark.stay (allS gm_b46 all0)) rfl rfl (hb hby at_165) ?_
    intro T48 h48 X48 W48 V48
    replace B_b46 := B_b46.wr W48
    clear V_b46; have V_b46 : Arv Z h48 b46 _ .long (2 : Int32) [(.long x), (.long y)] (.long (0 : Int64)) := V48
    show Goes _ _ _ _ T48 (mkF m 166 #[.val (.long i0), .second, .val (.long i1), .second, .val (.long i2), .second, .val (.long i3), .second, .val (.long i4), .second, .val (.int i5), .val (.long fi), .second, .val (.long wd), .second, .val (.long la), .second, .val (.int (2 : Int32)), .val (.long x), .second, .val (.long y), .second, .unset, .unset, .unset, .unset, .unset, .unset, .unset, .unset] [(.ref b46)])
    refine Goes.go (fun _ k => XS.astore X48.here X48.ex rfl (hb hby at_166) rfl rfl (l' := #[.val (.long i0), .second, .val (.long i1), .second, .val (.long i2), .second, .val (.long i3), .second, .val (.long i4), .second, .val (.int i5), .val (.long fi), .second, .val (.long wd), .second, .val (.long la), .second, .val (.int (2 : Int32)), .val (.long x), .second, .val (.long y), .second, .val (.ref b46), .unset, .unset, .unset, .unset, .unset, .unset, .unset]) rfl (XS.iload X48.here X48.ex rfl (hb hby at_168) rfl (XS.iconst X48.here X48.ex rfl (hb hby at_170) (XS.iushr X48.here X48.ex rfl (hb hby at_171) rfl (XS.bipush X48.here X48.ex rfl (hb hby at_172) (XS.iand X48.here X48.ex rfl (hb hby at_174) rfl k)))))) ?_
    show Goes _ _ _ _ T48 (mkF m 175 #[.val (.long i0), .second, .val (.long i1), .second, .val (.long i2), .second, .val (.long i3), .second, .val (.long i4), .second, .val (.int i5), .val (.long fi), .second, .val (.long wd), .second, .val (.long la), .second, .val (.int (2 : Int32)), .val (.long x), .second, .val (.long y), .second, .val (.ref b46), .unset, .unset, .unset, .unset, .unset, .unset, .unset] [(.int (((i5.toUInt32 >>> ((2 : Int32) &&& 31).toUInt32).toInt32) &&& (7 : Int32)))])
    refine Goes.go (fun _ k => XS.istore X48.here X48.ex rfl (hb hby at_175) rfl (l' := #[.val (.long i0), .second, .val (.long i1), .second, .val (.long i2), .second, .val (.long i3), .second, .val (.long i4), .second, .val (.int i5), .val (.long fi), .second, .val (.long wd), .second, .val (.long la), .second, .val (.int (2 : Int32)), .val (.long x), .second, .val (.long y), .second, .val (.ref b46), .val (.int (((i5.toUInt32 >>> ((2 : Int32) &&& 31).toUInt32).toInt32) &&& (7 : Int32))), .unset, .unset, .unset, .unset, .unset, .unset]) rfl (XS.lload X48.here X48.ex rfl (hb hby at_177) rfl (XS.lstore X48.here X48.ex rfl (hb hby at_179) rfl (l' := #[.val (.long i0), .second, .val (.long i1), .second, .val (.long i2), .second, .val (.long i3), .second, .val (.long i4), .second, .val (.int i5), .val (.long fi), .second, .val (.long wd), .second, .val (.long la), .second, .val (.int (2 : Int32)), .val (.long x), .second, .val (.long y), .second, .val (.ref b46), .val (.int (((i5.toUInt32 >>> ((2 : Int32) &&& 31).toUInt32).toInt32) &&& (7 : Int32))), .val (.long i4), .second, .unset, .unset, .unset, .unset]) rfl k))) ?_
    show Goes _ _ _ _ T48 (mkF m 181 #[.val (.long i0), .second, .val (.long i1), .second, .val (.long i2), .second, .val (.long i3), .second, .val (.long i4), .second, .val (.int i5), .val (.long fi), .second, .val (.long wd), .second, .val (.long la), .second, .val (.int (2 : Int32)), .val (.long x), .second, .val (.long y), .second, .val (.ref b46), .val (.int (((i5.toUInt32 >>> ((2 : Int32) &&& 31).toUInt32).toInt32) &&& (7 : Int32))), .val (.long i4), .second, .unset, .unset, .unset, .unset] [])
    obtain ⟨mo, hmo⟩ : ∃ z : Int32, z = (((i5.toUInt32 >>> ((2 : Int32) &&& 31).toUInt32).toInt32) &&& (7 : Int32)) := ⟨_, rfl⟩
    refine Goes.cast (show (mkF m 181 #[.val (.long i0), .second, .val (.long i1), .second, .val (.long i2), .second, .val (.long i3), .second, .val (.long i4), .second, .val (.int i5), .val (.long fi), .second, .val (.long wd), .second, .val (.long la), .second, .val (.int (2 : Int32)), .val (.long x), .second, .val (.long y), .second, .val (.ref b46), .val (.int (((i5.toUInt32 >>> ((2 : Int32) &&& 31).toUInt32).toInt32) &&& (7 : Int32))), .val (.long i4), .second, .unset, .unset, .unset, .unset] []) = (mkF m 181 #[.val (.long i0), .second, .val (.long i1), .second, .val (.long i2), .second, .val (.long i3), .second, .val (.long i4), .second, .val (.int i5), .val (.long fi), .second, .val (.long wd), .second, .val (.long la), .second, .val (.int (2 : Int32)), .val (.long x), .second, .val (.long y), .second, .val (.ref b46), .val (.int mo), .val (.long i4), .second, .unset, .unset, .unset, .unset] []) from by rw [hmo]) ?_
    show Goes _ _ _ _ T48 (mkF m 181 #[.val (.long i0), .second, .val (.long i1), .second, .val (.long i2), .second, .val (.long i3), .second, .val (.long i4), .second, .val (.int i5), .val (.long fi), .second, .val (.long wd), .second, .val (.long la), .second, .val (.int (2 : Int32)), .val (.long x), .second, .val (.long y), .second, .val (.ref b46), .val (.int mo), .val (.long i4), .second, .unset, .unset, .unset, .unset] [])
    refine Goes.go (fun _ k => XS.iload X48.here X48.ex rfl (hb hby at_181) rfl (XS.iconst X48.here X48.ex rfl (hb hby at_183) k)) ?_
    show Goes _ _ _ _ T48 (mkF m 184 #[.val (.long i0), .second, .val (.long i1), .second, .val (.long i2), .second, .val (.long i3), .second, .val (.long i4), .second, .val (.int i5), .val (.long fi), .second, .val (.long wd), .second, .val (.long la), .second, .val (.int (2 : Int32)), .val (.long x), .second, .val (.long y), .second, .val (.ref b46), .val (.int mo), .val (.long i4), .second, .unset, .unset, .unset, .unset] [(.int (1 : Int32)), (.int mo)])
    suffices hJ184 : Goes p.tables e below (EndN Z s room_1.cells room_1.slots (fun v h' => v = some (.int (1 : Int32)))) T48 (mkF m 277 #[.val (.long i0), .second, .val (.long i1), .second, .val (.long i2), .second, .val (.long i3), .second, .val (.long i4), .second, .val (.int i5), .val (.long fi), .second, .val (.long wd), .second, .val (.long la), .second, .val (.int (2 : Int32)), .val (.long x), .second, .val (.long y), .second, .val (.ref b46), .val (.int mo), .val (.long (if mo = (1 : Int32) then (fi - (1 : Int64)) else (if mo = (2 : Int32) then fi else (if mo = (3 : Int32) then la else (if mo = (4 : Int32) then (la + (1 : Int64)) else (if mo = (5 : Int32) then x else (if mo = (6 : Int32) then y else (if mo = (7 : Int32) then (x + (1 : Int64)) else i4)))))))), .second, .unset, .unset, .unset, .unset] []) by
      refine Goes.icmp (pc' := 196) X48.here X48.ex (hb hby at_184) (by decide) (by decide) (fun hr1 => ?_) (fun hr1 => ?_)
      · have hr1 : ¬ (mo = (1 : Int32)) := hr1
        show Goes _ _ _ _ T48 (mkF m 196 #[.val (.long i0), .second, .val (.long i1), .second, .val (.long i2), .second, .val (.long i3), .second, .val (.long i4), .second, .val (.int i5), .val (.long fi), .second, .val (.long wd), .second, .val (.long la), .second, .val (.int (2 : Int32)), .val (.long x), .second, .val (.long y), .second, .val (.ref b46), .val (.int mo), .val (.long i4), .second, .unset, .unset, .unset, .unset] [])
        refine Goes.go (fun _ k => XS.iload X48.here X48.ex rfl (hb hby at_196) rfl (XS.iconst X48.here X48.ex rfl (hb hby at_198) k)) ?_
        show Goes _ _ _ _ T48 (mkF m 199 #[.val (.long i0), .second, .val (.long i1), .second, .val (.long i2), .second, .val (.long i3), .second, .val (.long i4), .second, .val (.int i5), .val (.long fi), .second, .val (.long wd), .second, .val (.long la), .second, .val (.int (2 : Int32)), .val (.long x), .second, .val (.long y), .second, .val (.ref b46), .val (.int mo), .val (.long i4), .second, .unset, .unset, .unset, .unset] [(.int (2 : Int32)), (.int mo)])
        refine Goes.icmp (pc' := 209) X48.here X48.ex (hb hby at_199) (by decide) (by decide) (fun hr2 => ?_) (fun hr2 => ?_)
        · have hr2 : ¬ (mo = (2 : Int32)) := hr2
          show Goes _ _ _ _ T48 (mkF m 209 #[.val (.long i0), .second, .val (.long i1), .second, .val (.long i2), .second, .val (.long i3), .second, .val (.long i4), .second, .val (.int i5), .val (.long fi), .second, .val (.long wd), .second, .val (.long la), .second, .val (.int (2 : Int32)), .val (.long x), .second, .val (.long y), .second, .val (.ref b46), .val (.int mo), .val (.long i4), .second, .unset, .unset, .unset, .unset] [])
          refine Goes.go (fun _ k => XS.iload X48.here X48.ex rfl (hb hby at_209) rfl (XS.iconst X48.here X48.ex rfl (hb hby at_211) k)) ?_
          show Goes _ _ _ _ T48 (mkF m 212 #[.val (.long i0), .second, .val (.long i1), .second, .val (.long i2), .second, .val (.long i3), .second, .val (.long i4), .second, .val (.int i5), .val (.long fi), .second, .val (.long wd), .second, .val (.long la), .second, .val (.int (2 : Int32)), .val (.long x), .second, .val (.long y), .second, .val (.ref b46), .val (.int mo), .val (.long i4), .second, .unset, .unset, .unset, .unset] [(.int (3 : Int32)), (.int mo)])
          refine Goes.icmp (pc' := 222) X48.here X48.ex (hb hby at_212) (by decide) (by decide) (fun hr3 => ?_) (fun hr3 => ?_)
          · have hr3 : ¬ (mo = (3 : Int32)) := hr3
            show Goes _ _ _ _ T48 (mkF m 222 #[.val (.long i0), .second, .val (.long i1), .second, .val (.long i2), .second, .val (.long i3), .second, .val (.long i4), .second, .val (.int i5), .val (.long fi), .second, .val (.long wd), .second, .val (.long la), .second, .val (.int (2 : Int32)), .val (.long x), .second, .val (.long y), .second, .val (.ref b46), .val (.int mo), .val (.long i4), .second, .unset, .unset, .unset, .unset] [])
            refine Goes.go (fun _ k => XS.iload X48.here X48.ex rfl (hb hby at_222) rfl (XS.iconst X48.here X48.ex rfl (hb hby at_224) k)) ?_
            show Goes _ _ _ _ T48 (mkF m 225 #[.val (.long i0), .second, .val (.long i1), .second, .val (.long i2), .second, .val (.long i3), .second, .val (.long i4), .second, .val (.int i5), .val (.long fi), .second, .val (.long wd), .second, .val (.long la), .second, .val (.int (2 : Int32)), .val (.long x), .second, .val (.long y), .second, .val (.ref b46), .val (.int mo), .val (.long i4), .second, .unset, .unset, .unset, .unset] [(.int (4 : Int32)), (.int mo)])
            refine Goes.icmp (pc' := 237) X48.here X48.ex (hb hby at_225) (by decide) (by decide) (fun hr4 => ?_) (fun hr4 => ?_)
            · have hr4 : ¬ (mo = (4 : Int32)) := hr4
              show Goes _ _ _ _ T48 (mkF m 237 #[.val (.long i0), .second, .val (.long i1), .second, .val (.long i2), .second, .val (.long i3), .second, .val (.long i4), .second, .val (.int i5), .val (.long fi), .second, .val (.long wd), .second, .val (.long la), .second, .val (.int (2 : Int32)), .val (.long x), .second, .val (.long y), .second, .val (.ref b46), .val (.int mo), .val (.long i4), .second, .unset, .unset, .unset, .unset] [])
              refine Goes.go (fun _ k => XS.iload X48.here X48.ex rfl (hb hby at_237) rfl (XS.iconst X48.here X48.ex rfl (hb hby at_239) k)) ?_
              show Goes _ _ _ _ T48 (mkF m 240 #[.val (.long i0), .second, .val (.long i1), .second, .val (.long i2), .second, .val (.long i3), .second, .val (.long i4), .second, .val (.int i5), .val (.long fi), .second, .val (.long wd), .second, .val (.long la), .second, .val (.int (2 : Int32)), .val (.long x), .second, .val (.long y), .second, .val (.ref b46), .val (.int mo), .val (.long i4), .second, .unset, .unset, .unset, .unset] [(.int (5 : Int32)), (.int mo)])
              refine Goes.icmp (pc' := 250) X48.here X48.ex (hb hby at_240) (by decide) (by decide) (fun hr5 => ?_) (fun hr5 => ?_)
              · have hr5 : ¬ (mo = (5 : Int32)) := hr5
                show Goes _ _ _ _ T48 (mkF m 250 #[.val (.long i0), .second, .val (.long i1), .second, .val (.long i2), .second, .val (.long i3), .second, .val (.long i4), .second, .val (.int i5), .val (.long fi), .second, .val (.long wd), .second, .val (.long la), .second, .val (.int (2 : Int32)), .val (.long x), .second, .val (.long y), .second, .val (.ref b46), .val (.int mo), .val (.long i4), .second, .unset, .unset, .unset, .unset] [])
                refine Goes.go (fun _ k => XS.iload X48.here X48.ex rfl (hb hby at_250) rfl (XS.bipush X48.here X48.ex rfl (hb hby at_252) k)) ?_
                show Goes _ _ _ _ T48 (mkF m 254 #[.val (.long i0), .second, .val (.long i1), .second, .val (.long i2), .second, .val (.long i3), .second, .val (.long i4), .second, .val (.int i5), .val (.long fi), .second, .val (.long wd), .second, .val (.long la), .second, .val (.int (2 : Int32)), .val (.long x), .second, .val (.long y), .second, .val (.ref b46), .val (.int mo), .val (.long i4), .second, .unset, .unset, .unset, .unset] [(.int (6 : Int32)), (.int mo)])
                refine Goes.icmp (pc' := 264) X48.here X48.ex (hb hby at_254) (by decide) (by decide) (fun hr6 => ?_) (fun hr6 => ?_)
                · have hr6 : ¬ (mo = (6 : Int32)) := hr6
                  show Goes _ _ _ _ T48 (mkF m 264 #[.val (.long i0), .second, .val (.long i1), .second, .val (.long i2), .second, .val (.long i3), .second, .val (.long i4), .second, .val (.int i5), .val (.long fi), .second, .val (.long wd), .second, .val (.long la), .second, .val (.int (2 : Int32)), .val (.long x), .second, .val (.long y), .second, .val (.ref b46), .val (.int mo), .val (.long i4), .second, .unset, .unset, .unset, .unset] [])
                  refine Goes.go (fun _ k => XS.iload X48.here X48.ex rfl (hb hby at_264) rfl (XS.bipush X48.here X48.ex rfl (hb hby at_266) k)) ?_
                  show Goes _ _ _ _ T48 (mkF m 268 #[.val (.long i0), .second, .val (.long i1), .second, .val (.long i2), .second, .val (.long i3), .second, .val (.long i4), .second, .val (.int i5), .val (.long fi), .second, .val (.long wd), .second, .val (.long la), .second, .val (.int (2 : Int32)), .val (.long x), .second, .val (.long y), .second, .val (.ref b46), .val (.int mo), .val (.long i4), .second, .unset, .unset, .unset, .unset] [(.int (7 : Int32)), (.int mo)])
                  refine Goes.icmp (pc' := 277) X48.here X48.ex (hb hby at_268) (by decide) (by decide) (fun hr7 => ?_) (fun hr7 => ?_)
                  · have hr7 : ¬ (mo = (7 : Int32)) := hr7
                    show Goes _ _ _ _ T48 (mkF m 277 #[.val (.long i0), .second, .val (.long i1), .second, .val (.long i2), .second, .val (.long i3), .second, .val (.long i4), .second, .val (.int i5), .val (.long fi), .second, .val (.long wd), .second, .val (.long la), .second, .val (.int (2 : Int32)), .val (.long x), .second, .val (.long y), .second, .val (.ref b46), .val (.int mo), .val (.long i4), .second, .unset, .unset, .unset, .unset] [])
                    (try simp only [if_neg hr1, if_neg hr2, if_neg hr3, if_neg hr4, if_neg hr5, if_neg hr6, if_neg hr7] at hJ184 ⊢)
                    exact hJ184
                  · have hr7 : mo = (7 : Int32) := Classical.not_not.mp hr7
                    show Goes _ _ _ _ T48 (mkF m 271 #[.val (.long i0), .second, .val (.long i1), .second, .val (.long i2), .second, .val (.long i3), .second, .val (.long i4), .second, .val (.int i5), .val (.long fi), .second, .val (.long wd), .second, .val (.long la), .second, .val (.int (2 : Int32)), .val (.long x), .second, .val (.long y), .second, .val (.ref b46), .val (.int mo), .val (.long i4), .second, .unset, .unset, .unset, .unset] [])
                    refine Goes.go (fun _ k => XS.lload X48.here X48.ex rfl (hb hby at_271) rfl (XS.lconst X48.here X48.ex rfl (hb hby at_273) (XS.ladd X48.here X48.ex rfl (hb hby at_274) rfl (XS.lstore X48.here X48.ex rfl (hb hby at_275) rfl (l' := #[.val (.long i0), .second, .val (.long i1), .second, .val (.long i2), .second, .val (.long i3), .second, .val (.long i4), .second, .val (.int i5), .val (.long fi), .second, .val (.long wd), .second, .val (.long la), .second, .val (.int (2 : Int32)), .val (.long x), .second, .val (.long y), .second, .val (.ref b46), .val (.int mo), .val (.long (x + (1 : Int64))), .second, .unset, .unset, .unset, .unset]) rfl k)))) ?_
                    show Goes _ _ _ _ T48 (mkF m 277 #[.val (.long i0), .second, .val (.long i1), .second, .val (.long i2), .second, .val (.long i3), .second, .val (.long i4), .second, .val (.int i5), .val (.long fi), .second, .val (.long wd), .second, .val (.long la), .second, .val (.int (2 : Int32)), .val (.long x), .second, .val (.long y), .second, .val (.ref b46), .val (.int mo), .val (.long (x + (1 : Int64))), .second, .unset, .unset, .unset, .unset] [])
                    (try simp only [if_neg hr1, if_neg hr2, if_neg hr3, if_neg hr4, if_neg hr5, if_neg hr6, if_pos hr7] at hJ184 ⊢)
                    exact hJ184
                · have hr6 : mo = (6 : Int32) := Classical.not_not.mp hr6
                  show Goes _ _ _ _ T48 (mkF m 257 #[.val (.long i0), .second, .val (.long i1), .second, .val (.long i2), .second, .val (.long i3), .second, .val (.long i4), .second, .val (.int i5), .val (.long fi), .second, .val (.long wd), .second, .val (.long la), .second, .val (.int (2 : Int32)), .val (.long x), .second, .val (.long y), .second, .val (.ref b46), .val (.int mo), .val (.long i4), .second, .unset, .unset, .unset, .unset] [])
                  refine Goes.go (fun _ k => XS.lload X48.here X48.ex rfl (hb hby at_257) rfl (XS.lstore X48.here X48.ex rfl (hb hby at_259) rfl (l' := #[.val (.long i0), .second, .val (.long i1), .second, .val (.long i2), .second, .val (.long i3), .second, .val (.long i4), .second, .val (.int i5), .val (.long fi), .second, .val (.long wd), .second, .val (.long la), .second, .val (.int (2 : Int32)), .val (.long x), .second, .val (.long y), .second, .val (.ref b46), .val (.int mo), .val (.long y), .second, .unset, .unset, .unset, .unset]) rfl (XS.goto X48.here X48.ex rfl (pc0 := 261) (pc' := 277) rfl (hb hby at_261) (by decide) (by decide) k))) ?_
                  show Goes _ _ _ _ T48 (mkF m 277 #[.val (.long i0), .second, .val (.long i1), .second, .val (.long i2), .second, .val (.long i3), .second, .val (.long i4), .second, .val (.int i5), .val (.long fi), .second, .val (.long wd), .second, .val (.long la), .second, .val (.int (2 : Int32)), .val (.long x), .second, .val (.long y), .second, .val (.ref b46), .val (.int mo), .val (.long y), .second, .unset, .unset, .unset, .unset] [])
                  (try simp only [if_neg hr1, if_neg hr2, if_neg hr3, if_neg hr4, if_neg hr5, if_pos hr6] at hJ184 ⊢)
                  exact hJ184
              · have hr5 : mo = (5 : Int32) := Classical.not_not.mp hr5
                show Goes _ _ _ _ T48 (mkF m 243 #[.val (.long i0), .second, .val (.long i1), .second, .val (.long i2), .second, .val (.long i3), .second, .val (.long i4), .second, .val (.int i5), .val (.long fi), .second, .val (.long wd), .second, .val (.long la), .second, .val (.int (2 : Int32)), .val (.long x), .second, .val (.long y), .second, .val (.ref b46), .val (.int mo), .val (.long i4), .second, .unset, .unset, .unset, .unset] [])
                refine Goes.go (fun _ k => XS.lload X48.here X48.ex rfl (hb hby at_243) rfl (XS.lstore X48.here X48.ex rfl (hb hby at_245) rfl (l' := #[.val (.long i0), .second, .val (.long i1), .second, .val (.long i2), .second, .val (.long i3), .second, .val (.long i4), .second, .val (.int i5), .val (.long fi), .second, .val (.long wd), .second, .val (.long la), .second, .val (.int (2 : Int32)), .val (.long x), .second, .val (.long y), .second, .val (.ref b46), .val (.int mo), .val (.long x), .second, .unset, .unset, .unset, .unset]) rfl (XS.goto X48.here X48.ex rfl (pc0 := 247) (pc' := 277) rfl (hb hby at_247) (by decide) (by decide) k))) ?_
                show Goes _ _ _ _ T48 (mkF m 277 #[.val (.long i0), .second, .val (.long i1), .second, .val (.long i2), .second, .val (.long i3), .second, .val (.long i4), .second, .val (.int i5), .val (.long fi), .second, .val (.long wd), .second, .val (.long la), .second, .val (.int (2 : Int32)), .val (.long x), .second, .val (.long y), .second, .val (.ref b46), .val (.int mo), .val (.long x), .second, .unset, .unset, .unset, .unset] [])
                (try simp only [if_neg hr1, if_neg hr2, if_neg hr3, if_neg hr4, if_pos hr5] at hJ184 ⊢)
                exact hJ184
            · have hr4 : mo = (4 : Int32) := Classical.not_not.mp hr4
              show Goes _ _ _ _ T48 (mkF m 228 #[.val (.long i0), .second, .val (.long i1), .second, .val (.long i2), .second, .val (.long i3), .second, .val (.long i4), .second, .val (.int i5), .val (.long fi), .second, .val (.long wd), .second, .val (.long la), .second, .val (.int (2 : Int32)), .val (.long x), .second, .val (.long y), .second, .val (.ref b46), .val (.int mo), .val (.long i4), .second, .unset, .unset, .unset, .unset] [])
              refine Goes.go (fun _ k => XS.lload X48.here X48.ex rfl (hb hby at_228) rfl (XS.lconst X48.here X48.ex rfl (hb hby at_230) (XS.ladd X48.here X48.ex rfl (hb hby at_231) rfl (XS.lstore X48.here X48.ex rfl (hb hby at_232) rfl (l' := #[.val (.long i0), .second, .val (.long i1), .second, .val (.long i2), .second, .val (.long i3), .second, .val (.long i4), .second, .val (.int i5), .val (.long fi), .second, .val (.long wd), .second, .val (.long la), .second, .val (.int (2 : Int32)), .val (.long x), .second, .val (.long y), .second, .val (.ref b46), .val (.int mo), .val (.long (la + (1 : Int64))), .second, .unset, .unset, .unset, .unset]) rfl (XS.goto X48.here X48.ex rfl (pc0 := 234) (pc' := 277) rfl (hb hby at_234) (by decide) (by decide) k))))) ?_
              show Goes _ _ _ _ T48 (mkF m 277 #[.val (.long i0), .second, .val (.long i1), .second, .val (.long i2), .second, .val (.long i3), .second, .val (.long i4), .second, .val (.int i5), .val (.long fi), .second, .val (.long wd), .second, .val (.long la), .second, .val (.int (2 : Int32)), .val (.long x), .second, .val (.long y), .second, .val (.ref b46), .val (.int mo), .val (.long (la + (1 : Int64))), .second, .unset, .unset, .unset, .unset] [])
              (try simp only [if_neg hr1, if_neg hr2, if_neg hr3, if_pos hr4] at hJ184 ⊢)
              exact hJ184
          · have hr3 : mo = (3 : Int32) := Classical.not_not.mp hr3
            show Goes _ _ _ _ T48 (mkF m 215 #[.val (.long i0), .second, .val (.long i1), .second, .val (.long i2), .second, .val (.long i3), .second, .val (.long i4), .second, .val (.int i5), .val (.long fi), .second, .val (.long wd), .second, .val (.long la), .second, .val (.int (2 : Int32)), .val (.long x), .second, .val (.long y), .second, .val (.ref b46), .val (.int mo), .val (.long i4), .second, .unset, .unset, .unset, .unset] [])
            refine Goes.go (fun _ k => XS.lload X48.here X48.ex rfl (hb hby at_215) rfl (XS.lstore X48.here X48.ex rfl (hb hby at_217) rfl (l' := #[.val (.long i0), .second, .val (.long i1), .second, .val (.long i2), .second, .val (.long i3), .second, .val (.long i4), .second, .val (.int i5), .val (.long fi), .second, .val (.long wd), .second, .val (.long la), .second, .val (.int (2 : Int32)), .val (.long x), .second, .val (.long y), .second, .val (.ref b46), .val (.int mo), .val (.long la), .second, .unset, .unset, .unset, .unset]) rfl (XS.goto X48.here X48.ex rfl (pc0 := 219) (pc' := 277) rfl (hb hby at_219) (by decide) (by decide) k))) ?_
            show Goes _ _ _ _ T48 (mkF m 277 #[.val (.long i0), .second, .val (.long i1), .second, .val (.long i2), .second, .val (.long i3), .second, .val (.long i4), .second, .val (.int i5), .val (.long fi), .second, .val (.long wd), .second, .val (.long la), .second, .val (.int (2 : Int32)), .val (.long x), .second, .val (.long y), .second, .val (.ref b46), .val (.int mo), .val (.long la), .second, .unset, .unset, .unset, .unset] [])
            (try simp only [if_neg hr1, if_neg hr2, if_pos hr3] at hJ184 ⊢)
            exact hJ184
        · have hr2 : mo = (2 : Int32) := Classical.not_not.mp hr2
          show Goes _ _ _ _ T48 (mkF m 202 #[.val (.long i0), .second, .val (.long i1), .second, .val (.long i2), .second, .val (.long i3), .second, .val (.long i4), .second, .val (.int i5), .val (.long fi), .second, .val (.long wd), .second, .val (.long la), .second, .val (.int (2 : Int32)), .val (.long x), .second, .val (.long y), .second, .val (.ref b46), .val (.int mo), .val (.long i4), .second, .unset, .unset, .unset, .unset] [])
          refine Goes.go (fun _ k => XS.lload X48.here X48.ex rfl (hb hby at_202) rfl (XS.lstore X48.here X48.ex rfl (hb hby at_204) rfl (l' := #[.val (.long i0), .second, .val (.long i1), .second, .val (.long i2), .second, .val (.long i3), .second, .val (.long i4), .second, .val (.int i5), .val (.long fi), .second, .val (.long wd), .second, .val (.long la), .second, .val (.int (2 : Int32)), .val (.long x), .second, .val (.long y), .second, .val (.ref b46), .val (.int mo), .val (.long fi), .second, .unset, .unset, .unset, .unset]) rfl (XS.goto X48.here X48.ex rfl (pc0 := 206) (pc' := 277) rfl (hb hby at_206) (by decide) (by decide) k))) ?_
          show Goes _ _ _ _ T48 (mkF m 277 #[.val (.long i0), .second, .val (.long i1), .second, .val (.long i2), .second, .val (.long i3), .second, .val (.long i4), .second, .val (.int i5), .val (.long fi), .second, .val (.long wd), .second, .val (.long la), .second, .val (.int (2 : Int32)), .val (.long x), .second, .val (.long y), .second, .val (.ref b46), .val (.int mo), .val (.long fi), .second, .unset, .unset, .unset, .unset] [])
          (try simp only [if_neg hr1, if_pos hr2] at hJ184 ⊢)
          exact hJ184
      · have hr1 : mo = (1 : Int32) := Classical.not_not.mp hr1
        show Goes _ _ _ _ T48 (mkF m 187 #[.val (.long i0), .second, .val (.long i1), .second, .val (.long i2), .second, .val (.long i3), .second, .val (.long i4), .second, .val (.int i5), .val (.long fi), .second, .val (.long wd), .second, .val (.long la), .second, .val (.int (2 : Int32)), .val (.long x), .second, .val (.long y), .second, .val (.ref b46), .val (.int mo), .val (.long i4), .second, .unset, .unset, .unset, .unset] [])
        refine Goes.go (fun _ k => XS.lload X48.here X48.ex rfl (hb hby at_187) rfl (XS.lconst X48.here X48.ex rfl (hb hby at_189) (XS.lsub X48.here X48.ex rfl (hb hby at_190) rfl (XS.lstore X48.here X48.ex rfl (hb hby at_191) rfl (l' := #[.val (.long i0), .second, .val (.long i1), .second, .val (.long i2), .second, .val (.long i3), .second, .val (.long i4), .second, .val (.int i5), .val (.long fi), .second, .val (.long wd), .second, .val (.long la), .second, .val (.int (2 : Int32)), .val (.long x), .second, .val (.long y), .second, .val (.ref b46), .val (.int mo), .val (.long (fi - (1 : Int64))), .second, .unset, .unset, .unset, .unset]) rfl (XS.goto X48.here X48.ex rfl (pc0 := 193) (pc' := 277) rfl (hb hby at_193) (by decide) (by decide) k))))) ?_
        show Goes _ _ _ _ T48 (mkF m 277 #[.val (.long i0), .second, .val (.long i1), .second, .val (.long i2), .second, .val (.long i3), .second, .val (.long i4), .second, .val (.int i5), .val (.long fi), .second, .val (.long wd), .second, .val (.long la), .second, .val (.int (2 : Int32)), .val (.long x), .second, .val (.long y), .second, .val (.ref b46), .val (.int mo), .val (.long (fi - (1 : Int64))), .second, .unset, .unset, .unset, .unset] [])
        (try simp only [if_pos hr1] at hJ184 ⊢)
        exact hJ184
    obtain ⟨nb, hnb⟩ : ∃ z : Int64, z = (if mo = (1 : Int32) then (fi - (1 : Int64)) else (if mo = (2 : Int32) then fi else (if mo = (3 : Int32) then la else (if mo = (4 : Int32) then (la + (1 : Int64)) else (if mo = (5 : Int32) then x else (if mo = (6 : Int32) then y else (if mo = (7 : Int32) then (x + (1 : Int64)) else i4))))))) := ⟨_, rfl⟩
    refine Goes.cast (show (mkF m 277 #[.val (.long i0), .second, .val (.long i1), .second, .val (.long i2), .second, .val (.long i3), .second, .val (.long i4), .second, .val (.int i5), .val (.long fi), .second, .val (.long wd), .second, .val (.long la), .second, .val (.int (2 : Int32)), .val (.long x), .second, .val (.long y), .second, .val (.ref b46), .val (.int mo), .val (.long (if mo = (1 : Int32) then (fi - (1 : Int64)) else (if mo = (2 : Int32) then fi else (if mo = (3 : Int32) then la else (if mo = (4 : Int32) then (la + (1 : Int64)) else (if mo = (5 : Int32) then x else (if mo = (6 : Int32) then y else (if mo = (7 : Int32) then (x + (1 : Int64)) else i4)))))))), .second, .unset, .unset, .unset, .unset] []) = (mkF m 277 #[.val (.long i0), .second, .val (.long i1), .second, .val (.long i2), .second, .val (.long i3), .second, .val (.long i4), .second, .val (.int i5), .val (.long fi), .second, .val (.long wd), .second, .val (.long la), .second, .val (.int (2 : Int32)), .val (.long x), .second, .val (.long y), .second, .val (.ref b46), .val (.int mo), .val (.long nb), .second, .unset, .unset, .unset, .unset] []) from by rw [hnb]) ?_
    show Goes _ _ _ _ T48 (mkF m 277 #[.val (.long i0), .second, .val (.long i1), .second, .val (.long i2), .second, .val (.long i3), .second, .val (.long i4), .second, .val (.int i5), .val (.long fi), .second, .val (.long wd), .second, .val (.long la), .second, .val (.int (2 : Int32)), .val (.long x), .second, .val (.long y), .second, .val (.ref b46), .val (.int mo), .val (.long nb), .second, .unset, .unset, .unset, .unset] [])
    have X49 := X48.mark
    refine Wk.new X49 (w_6 hw) (w_7 hw) (w_8 hw) rfl (hb hby at_277) (by decide) (by decide) ?_
    intro T50 h50 a50 g50 X50 E50 A50 D50
    have lt_b46_a50 : b46 < a50 := by rw [g50]; exact V_b46.lt
    replace V_b46 := V_b46.ext E50
    replace B_b46 := B_b46.ext E50
    have gz_a50 : Z.heap.size ≤ a50 := g50 ▸ X49.old.1
    have gm_a50 : h48.size ≤ a50 := g50 ▸ X49.ext.1
    have F_a50_first : Fld Z h50 a50 "com/example/assent/assent/log/CrashSet" "first" "J" (.long (0 : Int64)) := D50 (Or.inr (w_16 hw)) (ty := .long) (by decide)
    have F_a50_last : Fld Z h50 a50 "com/example/assent/assent/log/CrashSet" "last" "J" (.long (0 : Int64)) := D50 (Or.inr (w_18 hw)) (ty := .long) (by decide)
    have F_a50_committed : Fld Z h50 a50 "com/example/assent/assent/log/CrashSet" "committed" "[J" .null := D50 (Or.inr (w_29 hw)) (ty := (.array .long)) (by decide)
    clear D50
    show Goes _ _ _ _ T50 (mkF m 280 #[.val (.long i0), .second, .val (.long i1), .second, .val (.long i2), .second, .val (.long i3), .second, .val (.long i4), .second, .val (.int i5), .val (.long fi), .second, .val (.long wd), .second, .val (.long la), .second, .val (.int (2 : Int32)), .val (.long x), .second, .val (.long y), .second, .val (.ref b46), .val (.int mo), .val (.long nb), .second, .unset, .unset, .unset, .unset] [(.ref a50)])
    refine Goes.go (fun _ k => XS.dup X50.here X50.ex rfl (hb hby at_280) rfl rfl (XS.lload X50.here X50.ex rfl (hb hby at_281) rfl (XS.lload X50.here X50.ex rfl (hb hby at_283) rfl (XS.aload X50.here X50.ex rfl (hb hby at_285) rfl rfl k)))) ?_
    show Goes _ _ _ _ T50 (mkF m 287 #[.val (.long i0), .second, .val (.long i1), .second, .val (.long i2), .second, .val (.long i3), .second, .val (.long i4), .second, .val (.int i5), .val (.long fi), .second, .val (.long wd), .second, .val (.long la), .second, .val (.int (2 : Int32)), .val (.long x), .second, .val (.long y), .second, .val (.ref b46), .val (.int mo), .val (.long nb), .second, .unset, .unset, .unset, .unset] [(.ref b46), (.long la), (.long fi), (.ref a50), (.ref a50)])
    have h1' : (1 : Int64).toInt = 1 := rfl
    have lf := own_le fi; have ll := own_le la
    have pa : ¬ fi < 1 := by rw [Int64.lt_iff_toInt_lt]; omega
    have pb : ¬ la < fi := by rw [Int64.lt_iff_toInt_lt]; omega
    have pw : ¬ (la - fi) < (2 : Int64) := by rw [Int64.lt_iff_toInt_lt, own_lsub la fi (by omega) (by omega), show ((2 : Int64)).toInt = 2 from rfl]; have : ((2 : Int32)).toInt = 2 := rfl; omega
    have p1 : fi - 1 < x := by rw [Int64.lt_iff_toInt_lt, own_lsub fi (1 : Int64) (by omega) (by omega)]; omega
    have p2 : ¬ la < x := by rw [Int64.lt_iff_toInt_lt]; omega
    have p3 : x < y := by rw [Int64.lt_iff_toInt_lt]; omega
    have p4 : ¬ la < y := by rw [Int64.lt_iff_toInt_lt]; omega
    refine Wk.special (hm' := fun _ => h48) (y := (⟨"com/example/assent/assent/log/CrashSet", "<init>", "(JJ[J)V"⟩ : MethodName)) (W := 1) (kc := 1) (ks := 2) (argsL := [(.long fi), (.long la), (.ref b46)]) (rest := [(.ref a50)]) (as' := #[(.ref a50), (.long fi), (.long la), (.ref b46)]) (ws := [a50]) X50 rfl (w_9 hw) (w_10 hw) (w_11 hw) (by decide) (CtrN.pays (own_ini_2 l Z a0 hw h50 X50.old a50 fi la b46 _ x y A50 F_a50_first F_a50_last F_a50_committed gz_a50 V_b46 B_b46 pa pb p1 p2 p3 p4 pw) (w_11 hw) (w_8 hw) (by decide) (by decide)) (fun v h' L q => ⟨q.2, q.1.1⟩) (allS gz_a50 all0) (fun _ => Mark.stay (allS gm_a50 all0)) rfl (by rw [hml]; rfl) (lenOf pd_3 rfl) rfl rfl (by show 2 * 0 + _ ≤ _; exact Nat.le_of_eq rfl) (hb hby at_287) (by decide) (by decide) ?_
    intro T51 h51 v51 L51 X51 q51 K51
    obtain ⟨⟨-, rfl, Ex, Ff, Fl, b2, k2, Fc, V2⟩, -⟩ := q51
    show Goes _ _ _ _ T51 (mkF m 290 #[.val (.long i0), .second, .val (.long i1), .second, .val (.long i2), .second, .val (.long i3), .second, .val (.long i4), .second, .val (.int i5), .val (.long fi), .second, .val (.long wd), .second, .val (.long la), .second, .val (.int (2 : Int32)), .val (.long x), .second, .val (.long y), .second, .val (.ref b46), .val (.int mo), .val (.long nb), .second, .unset, .unset, .unset, .unset] [(.ref a50)])
    refine Goes.go (fun _ k => XS.astore X51.here X51.ex rfl (hb hby at_290) rfl rfl (l' := #[.val (.long i0), .second, .val (.long i1), .second, .val (.long i2), .second, .val (.long i3), .second, .val (.long i4), .second, .val (.int i5), .val (.long fi), .second, .val (.long wd), .second, .val (.long la), .second, .val (.int (2 : Int32)), .val (.long x), .second, .val (.long y), .second, .val (.ref b46), .val (.int mo), .val (.long nb), .second, .val (.ref a50), .unset, .unset, .unset]) rfl k) ?_
    show Goes _ _ _ _ T51 (mkF m 292 #[.val (.long i0), .second, .val (.long i1), .second, .val (.long i2), .second, .val (.long i3), .second, .val (.long i4), .second, .val (.int i5), .val (.long fi), .second, .val (.long wd), .second, .val (.long la), .second, .val (.int (2 : Int32)), .val (.long x), .second, .val (.long y), .second, .val (.ref b46), .val (.int mo), .val (.long nb), .second, .val (.ref a50), .unset, .unset, .unset] [])
    suffices hJ292 : Goes p.tables e below (EndN Z s room_1.cells room_1.slots (fun v h' => v = some (.int (1 : Int32)))) T51 (mkF m 313 #[.val (.long i0), .second, .val (.long i1), .second, .val (.long i2), .second, .val (.long i3), .second, .val (.long i4), .second, .val (.int i5), .val (.long fi), .second, .val (.long wd), .second, .val (.long la), .second, .val (.int (2 : Int32)), .val (.long x), .second, .val (.long y), .second, .val (.ref b46), .val (.int mo), .val (.long nb), .second, .val (.ref a50), .unset, .unset, .unset] [(.int (if (lcmpW nb fi) < (0 : Int32) then (0 : Int32) else (if (0 : Int32) < (lcmpW nb la) then (0 : Int32) else (1 : Int32))))]) by
      refine Goes.go (fun _ k => XS.lload X51.here X51.ex rfl (hb hby at_292) rfl (XS.lload X51.here X51.ex rfl (hb hby at_294) rfl (XS.lcmp X51.here X51.ex rfl (hb hby at_296) rfl k))) ?_
      show Goes _ _ _ _ T51 (mkF m 297 #[.val (.long i0), .second, .val (.long i1), .second, .val (.long i2), .second, .val (.long i3), .second, .val (.long i4), .second, .val (.int i5), .val (.long fi), .second, .val (.long wd), .second, .val (.long la), .second, .val (.int (2 : Int32)), .val (.long x), .second, .val (.long y), .second, .val (.ref b46), .val (.int mo), .val (.long nb), .second, .val (.ref a50), .unset, .unset, .unset] [(.int (lcmpW nb fi))])
      refine Goes.ifc (pc' := 312) X51.here X51.ex (hb hby at_297) (by decide) (by decide) (fun hr1 => ?_) (fun hr1 => ?_)
      · have hr1 : (lcmpW nb fi) < (0 : Int32) := hr1
        show Goes _ _ _ _ T51 (mkF m 312 #[.val (.long i0), .second, .val (.long i1), .second, .val (.long i2), .second, .val (.long i3), .second, .val (.long i4), .second, .val (.int i5), .val (.long fi), .second, .val (.long wd), .second, .val (.long la), .second, .val (.int (2 : Int32)), .val (.long x), .second, .val (.long y), .second, .val (.ref b46), .val (.int mo), .val (.long nb), .second, .val (.ref a50), .unset, .unset, .unset] [])
        refine Goes.go (fun _ k => XS.iconst X51.here X51.ex rfl (hb hby at_312) k) ?_
        show Goes _ _ _ _ T51 (mkF m 313 #[.val (.long i0), .second, .val (.long i1), .second, .val (.long i2), .second, .val (.long i3), .second, .val (.long i4), .second, .val (.int i5), .val (.long fi), .second, .val (.long wd), .second, .val (.long la), .second, .val (.int (2 : Int32)), .val (.long x), .second, .val (.long y), .second, .val (.ref b46), .val (.int mo), .val (.long nb), .second, .val (.ref a50), .unset, .unset, .unset] [(.int (0 : Int32))])
        (try simp only [if_pos hr1] at hJ292 ⊢)
        exact hJ292
      · have hr1 : ¬ ((lcmpW nb fi) < (0 : Int32)) := hr1
        show Goes _ _ _ _ T51 (mkF m 300 #[.val (.long i0), .second, .val (.long i1), .second, .val (.long i2), .second, .val (.long i3), .second, .val (.long i4), .second, .val (.int i5), .val (.long fi), .second, .val (.long wd), .second, .val (.long la), .second, .val (.int (2 : Int32)), .val (.long x), .second, .val (.long y), .second, .val (.ref b46), .val (.int mo), .val (.long nb), .second, .val (.ref a50), .unset, .unset, .unset] [])
        refine Goes.go (fun _ k => XS.lload X51.here X51.ex rfl (hb hby at_300) rfl (XS.lload X51.here X51.ex rfl (hb hby at_302) rfl (XS.lcmp X51.here X51.ex rfl (hb hby at_304) rfl k))) ?_
        show Goes _ _ _ _ T51 (mkF m 305 #[.val (.long i0), .second, .val (.long i1), .second, .val (.long i2), .second, .val (.long i3), .second, .val (.long i4), .second, .val (.int i5), .val (.long fi), .second, .val (.long wd), .second, .val (.long la), .second, .val (.int (2 : Int32)), .val (.long x), .second, .val (.long y), .second, .val (.ref b46), .val (.int mo), .val (.long nb), .second, .val (.ref a50), .unset, .unset, .unset] [(.int (lcmpW nb la))])
        refine Goes.ifc (pc' := 312) X51.here X51.ex (hb hby at_305) (by decide) (by decide) (fun hr2 => ?_) (fun hr2 => ?_)
        · have hr2 : (0 : Int32) < (lcmpW nb la) := hr2
          show Goes _ _ _ _ T51 (mkF m 312 #[.val (.long i0), .second, .val (.long i1), .second, .val (.long i2), .second, .val (.long i3), .second, .val (.long i4), .second, .val (.int i5), .val (.long fi), .second, .val (.long wd), .second, .val (.long la), .second, .val (.int (2 : Int32)), .val (.long x), .second, .val (.long y), .second, .val (.ref b46), .val (.int mo), .val (.long nb), .second, .val (.ref a50), .unset, .unset, .unset] [])
          refine Goes.go (fun _ k => XS.iconst X51.here X51.ex rfl (hb hby at_312) k) ?_
          show Goes _ _ _ _ T51 (mkF m 313 #[.val (.long i0), .second, .val (.long i1), .second, .val (.long i2), .second, .val (.long i3), .second, .val (.long i4), .second, .val (.int i5), .val (.long fi), .second, .val (.long wd), .second, .val (.long la), .second, .val (.int (2 : Int32)), .val (.long x), .second, .val (.long y), .second, .val (.ref b46), .val (.int mo), .val (.long nb), .second, .val (.ref a50), .unset, .unset, .unset] [(.int (0 : Int32))])
          (try simp only [if_neg hr1, if_pos hr2] at hJ292 ⊢)
          exact hJ292
        · have hr2 : ¬ ((0 : Int32) < (lcmpW nb la)) := hr2
          show Goes _ _ _ _ T51 (mkF m 308 #[.val (.long i0), .second, .val (.long i1), .second, .val (.long i2), .second, .val (.long i3), .second, .val (.long i4), .second, .val (.int i5), .val (.long fi), .second, .val (.long wd), .second, .val (.long la), .second, .val (.int (2 : Int32)), .val (.long x), .second, .val (.long y), .second, .val (.ref b46), .val (.int mo), .val (.long nb), .second, .val (.ref a50), .unset, .unset, .unset] [])
          refine Goes.go (fun _ k => XS.iconst X51.here X51.ex rfl (hb hby at_308) (XS.goto X51.here X51.ex rfl (pc0 := 309) (pc' := 313) rfl (hb hby at_309) (by decide) (by decide) k)) ?_
          show Goes _ _ _ _ T51 (mkF m 313 #[.val (.long i0), .second, .val (.long i1), .second, .val (.long i2), .second, .val (.long i3), .second, .val (.long i4), .second, .val (.int i5), .val (.long fi), .second, .val (.long wd), .second, .val (.long la), .second, .val (.int (2 : Int32)), .val (.long x), .second, .val (.long y), .second, .val (.ref b46), .val (.int mo), .val (.long nb), .second, .val (.ref a50), .unset, .unset, .unset] [(.int (1 : Int32))])
          (try simp only [if_neg hr1, if_neg hr2] at hJ292 ⊢)
          exact hJ292
    refine Goes.go (fun _ k => XS.istore X51.here X51.ex rfl (hb hby at_313) rfl (l' := #[.val (.long i0), .second, .val (.long i1), .second, .val (.long i2), .second, .val (.long i3), .second, .val (.long i4), .second, .val (.int i5), .val (.long fi), .second, .val (.long wd), .second, .val (.long la), .second, .val (.int (2 : Int32)), .val (.long x), .second, .val (.long y), .second, .val (.ref b46), .val (.int mo), .val (.long nb), .second, .val (.ref a50), .val (.int (if (lcmpW nb fi) < (0 : Int32) then (0 : Int32) else (if (0 : Int32) < (lcmpW nb la) then (0 : Int32) else (1 : Int32)))), .unset, .unset]) rfl k) ?_
    show Goes _ _ _ _ T51 (mkF m 315 #[.val (.long i0), .second, .val (.long i1), .second, .val (.long i2), .second, .val (.long i3), .second, .val (.long i4), .second, .val (.int i5), .val (.long fi), .second, .val (.long wd), .second, .val (.long la), .second, .val (.int (2 : Int32)), .val (.long x), .second, .val (.long y), .second, .val (.ref b46), .val (.int mo), .val (.long nb), .second, .val (.ref a50), .val (.int (if (lcmpW nb fi) < (0 : Int32) then (0 : Int32) else (if (0 : Int32) < (lcmpW nb la) then (0 : Int32) else (1 : Int32)))), .unset, .unset] [])
    suffices hJ315 : Goes p.tables e below (EndN Z s room_1.cells room_1.slots (fun v h' => v = some (.int (1 : Int32)))) T51 (mkF m 348 #[.val (.long i0), .second, .val (.long i1), .second, .val (.long i2), .second, .val (.long i3), .second, .val (.long i4), .second, .val (.int i5), .val (.long fi), .second, .val (.long wd), .second, .val (.long la), .second, .val (.int (2 : Int32)), .val (.long x), .second, .val (.long y), .second, .val (.ref b46), .val (.int mo), .val (.long nb), .second, .val (.ref a50), .val (.int (if (lcmpW nb fi) < (0 : Int32) then (0 : Int32) else (if (0 : Int32) < (lcmpW nb la) then (0 : Int32) else (1 : Int32)))), .unset, .unset] [(.int (if (lcmpW nb x) = (0 : Int32) then (1 : Int32) else (if (lcmpW nb y) = (0 : Int32) then (1 : Int32) else (0 : Int32))))]) by
      refine Goes.go (fun _ k => XS.iload X51.here X51.ex rfl (hb hby at_315) rfl (XS.iconst X51.here X51.ex rfl (hb hby at_317) (XS.icmpNo X51.here X51.ex rfl (hb hby at_318) rfl (cd_f (cd := .lt) (x := (2 : Int32)) (y := (1 : Int32)) (by decide)) (XS.lload X51.here X51.ex rfl (hb hby at_321) rfl (XS.lload X51.here X51.ex rfl (hb hby at_323) rfl (XS.lcmp X51.here X51.ex rfl (hb hby at_325) rfl k)))))) ?_
      show Goes _ _ _ _ T51 (mkF m 326 #[.val (.long i0), .second, .val (.long i1), .second, .val (.long i2), .second, .val (.long i3), .second, .val (.long i4), .second, .val (.int i5), .val (.long fi), .second, .val (.long wd), .second, .val (.long la), .second, .val (.int (2 : Int32)), .val (.long x), .second, .val (.long y), .second, .val (.ref b46), .val (.int mo), .val (.long nb), .second, .val (.ref a50), .val (.int (if (lcmpW nb fi) < (0 : Int32) then (0 : Int32) else (if (0 : Int32) < (lcmpW nb la) then (0 : Int32) else (1 : Int32)))), .unset, .unset] [(.int (lcmpW nb x))])
      refine Goes.ifc (pc' := 343) X51.here X51.ex (hb hby at_326) (by decide) (by decide) (fun hr1 => ?_) (fun hr1 => ?_)
      · have hr1 : (lcmpW nb x) = (0 : Int32) := hr1
        show Goes _ _ _ _ T51 (mkF m 343 #[.val (.long i0), .second, .val (.long i1), .second, .val (.long i2), .second, .val (.long i3), .second, .val (.long i4), .second, .val (.int i5), .val (.long fi), .second, .val (.long wd), .second, .val (.long la), .second, .val (.int (2 : Int32)), .val (.long x), .second, .val (.long y), .second, .val (.ref b46), .val (.int mo), .val (.long nb), .second, .val (.ref a50), .val (.int (if (lcmpW nb fi) < (0 : Int32) then (0 : Int32) else (if (0 : Int32) < (lcmpW nb la) then (0 : Int32) else (1 : Int32)))), .unset, .unset] [])
        refine Goes.go (fun _ k => XS.iconst X51.here X51.ex rfl (hb hby at_343) (XS.goto X51.here X51.ex rfl (pc0 := 344) (pc' := 348) rfl (hb hby at_344) (by decide) (by decide) k)) ?_
        show Goes _ _ _ _ T51 (mkF m 348 #[.val (.long i0), .second, .val (.long i1), .second, .val (.long i2), .second, .val (.long i3), .second, .val (.long i4), .second, .val (.int i5), .val (.long fi), .second, .val (.long wd), .second, .val (.long la), .second, .val (.int (2 : Int32)), .val (.long x), .second, .val (.long y), .second, .val (.ref b46), .val (.int mo), .val (.long nb), .second, .val (.ref a50), .val (.int (if (lcmpW nb fi) < (0 : Int32) then (0 : Int32) else (if (0 : Int32) < (lcmpW nb la) then (0 : Int32) else (1 : Int32)))), .unset, .unset] [(.int (1 : Int32))])
        (try simp only [if_pos hr1] at hJ315 ⊢)
        exact hJ315
      · have hr1 : ¬ ((lcmpW nb x) = (0 : Int32)) := hr1
        show Goes _ _ _ _ T51 (mkF m 329 #[.val (.long i0), .second, .val (.long i1), .second, .val (.long i2), .second, .val (.long i3), .second, .val (.long i4), .second, .val (.int i5), .val (.long fi), .second, .val (.long wd), .second, .val (.long la), .second, .val (.int (2 : Int32)), .val (.long x), .second, .val (.long y), .second, .val (.ref b46), .val (.int mo), .val (.long nb), .second, .val (.ref a50), .val (.int (if (lcmpW nb fi) < (0 : Int32) then (0 : Int32) else (if (0 : Int32) < (lcmpW nb la) then (0 : Int32) else (1 : Int32)))), .unset, .unset] [])
        refine Goes.go (fun _ k => XS.iload X51.here X51.ex rfl (hb hby at_329) rfl (XS.iconst X51.here X51.ex rfl (hb hby at_331) (XS.icmpNo X51.here X51.ex rfl (hb hby at_332) rfl (cd_f (cd := .ne) (x := (2 : Int32)) (y := (2 : Int32)) (by decide)) (XS.lload X51.here X51.ex rfl (hb hby at_335) rfl (XS.lload X51.here X51.ex rfl (hb hby at_337) rfl (XS.lcmp X51.here X51.ex rfl (hb hby at_339) rfl k)))))) ?_
        show Goes _ _ _ _ T51 (mkF m 340 #[.val (.long i0), .second, .val (.long i1), .second, .val (.long i2), .second, .val (.long i3), .second, .val (.long i4), .second, .val (.int i5), .val (.long fi), .second, .val (.long wd), .second, .val (.long la), .second, .val (.int (2 : Int32)), .val (.long x), .second, .val (.long y), .second, .val (.ref b46), .val (.int mo), .val (.long nb), .second, .val (.ref a50), .val (.int (if (lcmpW nb fi) < (0 : Int32) then (0 : Int32) else (if (0 : Int32) < (lcmpW nb la) then (0 : Int32) else (1 : Int32)))), .unset, .unset] [(.int (lcmpW nb y))])
        refine Goes.ifc (pc' := 347) X51.here X51.ex (hb hby at_340) (by decide) (by decide) (fun hr2 => ?_) (fun hr2 => ?_)
        · have hr2 : ¬ ((lcmpW nb y) = (0 : Int32)) := hr2
          show Goes _ _ _ _ T51 (mkF m 347 #[.val (.long i0), .second, .val (.long i1), .second, .val (.long i2), .second, .val (.long i3), .second, .val (.long i4), .second, .val (.int i5), .val (.long fi), .second, .val (.long wd), .second, .val (.long la), .second, .val (.int (2 : Int32)), .val (.long x), .second, .val (.long y), .second, .val (.ref b46), .val (.int mo), .val (.long nb), .second, .val (.ref a50), .val (.int (if (lcmpW nb fi) < (0 : Int32) then (0 : Int32) else (if (0 : Int32) < (lcmpW nb la) then (0 : Int32) else (1 : Int32)))), .unset, .unset] [])
          refine Goes.go (fun _ k => XS.iconst X51.here X51.ex rfl (hb hby at_347) k) ?_
          show Goes _ _ _ _ T51 (mkF m 348 #[.val (.long i0), .second, .val (.long i1), .second, .val (.long i2), .second, .val (.long i3), .second, .val (.long i4), .second, .val (.int i5), .val (.long fi), .second, .val (.long wd), .second, .val (.long la), .second, .val (.int (2 : Int32)), .val (.long x), .second, .val (.long y), .second, .val (.ref b46), .val (.int mo), .val (.long nb), .second, .val (.ref a50), .val (.int (if (lcmpW nb fi) < (0 : Int32) then (0 : Int32) else (if (0 : Int32) < (lcmpW nb la) then (0 : Int32) else (1 : Int32)))), .unset, .unset] [(.int (0 : Int32))])
          (try simp only [if_neg hr1, if_neg hr2] at hJ315 ⊢)
          exact hJ315
        · have hr2 : (lcmpW nb y) = (0 : Int32) := Classical.not_not.mp hr2
          show Goes _ _ _ _ T51 (mkF m 343 #[.val (.long i0), .second, .val (.long i1), .second, .val (.long i2), .second, .val (.long i3), .second, .val (.long i4), .second, .val (.int i5), .val (.long fi), .second, .val (.long wd), .second, .val (.long la), .second, .val (.int (2 : Int32)), .val (.long x), .second, .val (.long y), .second, .val (.ref b46), .val (.int mo), .val (.long nb), .second, .val (.ref a50), .val (.int (if (lcmpW nb fi) < (0 : Int32) then (0 : Int32) else (if (0 : Int32) < (lcmpW nb la) then (0 : Int32) else (1 : Int32)))), .unset, .unset] [])
          refine Goes.go (fun _ k => XS.iconst X51.here X51.ex rfl (hb hby at_343) (XS.goto X51.here X51.ex rfl (pc0 := 344) (pc' := 348) rfl (hb hby at_344) (by decide) (by decide) k)) ?_
          show Goes _ _ _ _ T51 (mkF m 348 #[.val (.long i0), .second, .val (.long i1), .second, .val (.long i2), .second, .val (.long i3), .second, .val (.long i4), .second, .val (.int i5), .val (.long fi), .second, .val (.long wd), .second, .val (.long la), .second, .val (.int (2 : Int32)), .val (.long x), .second, .val (.long y), .second, .val (.ref b46), .val (.int mo), .val (.long nb), .second, .val (.ref a50), .val (.int (if (lcmpW nb fi) < (0 : Int32) then (0 : Int32) else (if (0 : Int32) < (lcmpW nb la) then (0 : Int32) else (1 : Int32)))), .unset, .unset] [(.int (1 : Int32))])
          (try simp only [if_neg hr1, if_pos hr2] at hJ315 ⊢)
          exact hJ315
    refine Goes.go (fun _ k => XS.istore X51.here X51.ex rfl (hb hby at_348) rfl (l' := #[.val (.long i0), .second, .val (.long i1), .second, .val (.long i2), .second, .val (.long i3), .second, .val (.long i4), .second, .val (.int i5), .val (.long fi), .second, .val (.long wd), .second, .val (.long la), .second, .val (.int (2 : Int32)), .val (.long x), .second, .val (.long y), .second, .val (.ref b46), .val (.int mo), .val (.long nb), .second, .val (.ref a50), .val (.int (if (lcmpW nb fi) < (0 : Int32) then (0 : Int32) else (if (0 : Int32) < (lcmpW nb la) then (0 : Int32) else (1 : Int32)))), .val (.int (if (lcmpW nb x) = (0 : Int32) then (1 : Int32) else (if (lcmpW nb y) = (0 : Int32) then (1 : Int32) else (0 : Int32)))), .unset]) rfl k) ?_
    show Goes _ _ _ _ T51 (mkF m 350 #[.val (.long i0), .second, .val (.long i1), .second, .val (.long i2), .second, .val (.long i3), .second, .val (.long i4), .second, .val (.int i5), .val (.long fi), .second, .val (.long wd), .second, .val (.long la), .second, .val (.int (2 : Int32)), .val (.long x), .second, .val (.long y), .second, .val (.ref b46), .val (.int mo), .val (.long nb), .second, .val (.ref a50), .val (.int (if (lcmpW nb fi) < (0 : Int32) then (0 : Int32) else (if (0 : Int32) < (lcmpW nb la) then (0 : Int32) else (1 : Int32)))), .val (.int (if (lcmpW nb x) = (0 : Int32) then (1 : Int32) else (if (lcmpW nb y) = (0 : Int32) then (1 : Int32) else (0 : Int32)))), .unset] [])
    suffices hJ350 : Goes p.tables e below (EndN Z s room_1.cells room_1.slots (fun v h' => v = some (.int (1 : Int32)))) T51 (mkF m 365 #[.val (.long i0), .second, .val (.long i1), .second, .val (.long i2), .second, .val (.long i3), .second, .val (.long i4), .second, .val (.int i5), .val (.long fi), .second, .val (.long wd), .second, .val (.long la), .second, .val (.int (2 : Int32)), .val (.long x), .second, .val (.long y), .second, .val (.ref b46), .val (.int mo), .val (.long nb), .second, .val (.ref a50), .val (.int (if (lcmpW nb fi) < (0 : Int32) then (0 : Int32) else (if (0 : Int32) < (lcmpW nb la) then (0 : Int32) else (1 : Int32)))), .val (.int (if (lcmpW nb x) = (0 : Int32) then (1 : Int32) else (if (lcmpW nb y) = (0 : Int32) then (1 : Int32) else (0 : Int32)))), .unset] [(.int (if (if (lcmpW nb fi) < (0 : Int32) then (0 : Int32) else (if (0 : Int32) < (lcmpW nb la) then (0 : Int32) else (1 : Int32))) = (0 : Int32) then (0 : Int32) else (if (if (lcmpW nb x) = (0 : Int32) then (1 : Int32) else (if (lcmpW nb y) = (0 : Int32) then (1 : Int32) else (0 : Int32))) = (0 : Int32) then (1 : Int32) else (0 : Int32))))]) by
      refine Goes.go (fun _ k => XS.iload X51.here X51.ex rfl (hb hby at_350) rfl k) ?_
      show Goes _ _ _ _ T51 (mkF m 352 #[.val (.long i0), .second, .val (.long i1), .second, .val (.long i2), .second, .val (.long i3), .second, .val (.long i4), .second, .val (.int i5), .val (.long fi), .second, .val (.long wd), .second, .val (.long la), .second, .val (.int (2 : Int32)), .val (.long x), .second, .val (.long y), .second, .val (.ref b46), .val (.int mo), .val (.long nb), .second, .val (.ref a50), .val (.int (if (lcmpW nb fi) < (0 : Int32) then (0 : Int32) else (if (0 : Int32) < (lcmpW nb la) then (0 : Int32) else (1 : Int32)))), .val (.int (if (lcmpW nb x) = (0 : Int32) then (1 : Int32) else (if (lcmpW nb y) = (0 : Int32) then (1 : Int32) else (0 : Int32)))), .unset] [(.int (if (lcmpW nb fi) < (0 : Int32) then (0 : Int32) else (if (0 : Int32) < (lcmpW nb la) then (0 : Int32) else (1 : Int32))))])
      refine Goes.ifc (pc' := 364) X51.here X51.ex (hb hby at_352) (by decide) (by decide) (fun hr1 => ?_) (fun hr1 => ?_)
      · have hr1 : (if (lcmpW nb fi) < (0 : Int32) then (0 : Int32) else (if (0 : Int32) < (lcmpW nb la) then (0 : Int32) else (1 : Int32))) = (0 : Int32) := hr1
        show Goes _ _ _ _ T51 (mkF m 364 #[.val (.long i0), .second, .val (.long i1), .second, .val (.long i2), .second, .val (.long i3), .second, .val (.long i4), .second, .val (.int i5), .val (.long fi), .second, .val (.long wd), .second, .val (.long la), .second, .val (.int (2 : Int32)), .val (.long x), .second, .val (.long y), .second, .val (.ref b46), .val (.int mo), .val (.long nb), .second, .val (.ref a50), .val (.int (if (lcmpW nb fi) < (0 : Int32) then (0 : Int32) else (if (0 : Int32) < (lcmpW nb la) then (0 : Int32) else (1 : Int32)))), .val (.int (if (lcmpW nb x) = (0 : Int32) then (1 : Int32) else (if (lcmpW nb y) = (0 : Int32) then (1 : Int32) else (0 : Int32)))), .unset] [])
        refine Goes.go (fun _ k => XS.iconst X51.here X51.ex rfl (hb hby at_364) k) ?_
        show Goes _ _ _ _ T51 (mkF m 365 #[.val (.long i0), .second, .val (.long i1), .second, .val (.long i2), .second, .val (.long i3), .second, .val (.long i4), .second, .val (.int i5), .val (.long fi), .second, .val (.long wd), .second, .val (.long la), .second, .val (.int (2 : Int32)), .val (.long x), .second, .val (.long y), .second, .val (.ref b46), .val (.int mo), .val (.long nb), .second, .val (.ref a50), .val (.int (if (lcmpW nb fi) < (0 : Int32) then (0 : Int32) else (if (0 : Int32) < (lcmpW nb la) then (0 : Int32) else (1 : Int32)))), .val (.int (if (lcmpW nb x) = (0 : Int32) then (1 : Int32) else (if (lcmpW nb y) = (0 : Int32) then (1 : Int32) else (0 : Int32)))), .unset] [(.int (0 : Int32))])
        (try simp only [if_pos hr1] at hJ350 ⊢)
        exact hJ350
      · have hr1 : ¬ ((if (lcmpW nb fi) < (0 : Int32) then (0 : Int32) else (if (0 : Int32) < (lcmpW nb la) then (0 : Int32) else (1 : Int32))) = (0 : Int32)) := hr1
        show Goes _ _ _ _ T51 (mkF m 355 #[.val (.long i0), .second, .val (.long i1), .second, .val (.long i2), .second, .val (.long i3), .second, .val (.long i4), .second, .val (.int i5), .val (.long fi), .second, .val (.long wd), .second, .val (.long la), .second, .val (.int (2 : Int32)), .val (.long x), .second, .val (.long y), .second, .val (.ref b46), .val (.int mo), .val (.long nb), .second, .val (.ref a50), .val (.int (if (lcmpW nb fi) < (0 : Int32) then (0 : Int32) else (if (0 : Int32) < (lcmpW nb la) then (0 : Int32) else (1 : Int32)))), .val (.int (if (lcmpW nb x) = (0 : Int32) then (1 : Int32) else (if (lcmpW nb y) = (0 : Int32) then (1 : Int32) else (0 : Int32)))), .unset] [])
        refine Goes.go (fun _ k => XS.iload X51.here X51.ex rfl (hb hby at_355) rfl k) ?_
        show Goes _ _ _ _ T51 (mkF m 357 #[.val (.long i0), .second, .val (.long i1), .second, .val (.long i2), .second, .val (.long i3), .second, .val (.long i4), .second, .val (.int i5), .val (.long fi), .second, .val (.long wd), .second, .val (.long la), .second, .val (.int (2 : Int32)), .val (.long x), .second, .val (.long y), .second, .val (.ref b46), .val (.int mo), .val (.long nb), .second, .val (.ref a50), .val (.int (if (lcmpW nb fi) < (0 : Int32) then (0 : Int32) else (if (0 : Int32) < (lcmpW nb la) then (0 : Int32) else (1 : Int32)))), .val (.int (if (lcmpW nb x) = (0 : Int32) then (1 : Int32) else (if (lcmpW nb y) = (0 : Int32) then (1 : Int32) else (0 : Int32)))), .unset] [(.int (if (lcmpW nb x) = (0 : Int32) then (1 : Int32) else (if (lcmpW nb y) = (0 : Int32) then (1 : Int32) else (0 : Int32))))])
        refine Goes.ifc (pc' := 364) X51.here X51.ex (hb hby at_357) (by decide) (by decide) (fun hr2 => ?_) (fun hr2 => ?_)
        · have hr2 : ¬ ((if (lcmpW nb x) = (0 : Int32) then (1 : Int32) else (if (lcmpW nb y) = (0 : Int32) then (1 : Int32) else (0 : Int32))) = (0 : Int32)) := hr2
          show Goes _ _ _ _ T51 (mkF m 364 #[.val (.long i0), .second, .val (.long i1), .second, .val (.long i2), .second, .val (.long i3), .second, .val (.long i4), .second, .val (.int i5), .val (.long fi), .second, .val (.long wd), .second, .val (.long la), .second, .val (.int (2 : Int32)), .val (.long x), .second, .val (.long y), .second, .val (.ref b46), .val (.int mo), .val (.long nb), .second, .val (.ref a50), .val (.int (if (lcmpW nb fi) < (0 : Int32) then (0 : Int32) else (if (0 : Int32) < (lcmpW nb la) then (0 : Int32) else (1 : Int32)))), .val (.int (if (lcmpW nb x) = (0 : Int32) then (1 : Int32) else (if (lcmpW nb y) = (0 : Int32) then (1 : Int32) else (0 : Int32)))), .unset] [])
          refine Goes.go (fun _ k => XS.iconst X51.here X51.ex rfl (hb hby at_364) k) ?_
          show Goes _ _ _ _ T51 (mkF m 365 #[.val (.long i0), .second, .val (.long i1), .second, .val (.long i2), .second, .val (.long i3), .second, .val (.long i4), .second, .val (.int i5), .val (.long fi), .second, .val (.long wd), .second, .val (.long la), .second, .val (.int (2 : Int32)), .val (.long x), .second, .val (.long y), .second, .val (.ref b46), .val (.int mo), .val (.long nb), .second, .val (.ref a50), .val (.int (if (lcmpW nb fi) < (0 : Int32) then (0 : Int32) else (if (0 : Int32) < (lcmpW nb la) then (0 : Int32) else (1 : Int32)))), .val (.int (if (lcmpW nb x) = (0 : Int32) then (1 : Int32) else (if (lcmpW nb y) = (0 : Int32) then (1 : Int32) else (0 : Int32)))), .unset] [(.int (0 : Int32))])
          (try simp only [if_neg hr1, if_neg hr2] at hJ350 ⊢)
          exact hJ350
        · have hr2 : (if (lcmpW nb x) = (0 : Int32) then (1 : Int32) else (if (lcmpW nb y) = (0 : Int32) then (1 : Int32) else (0 : Int32))) = (0 : Int32) := Classical.not_not.mp hr2
          show Goes _ _ _ _ T51 (mkF m 360 #[.val (.long i0), .second, .val (.long i1), .second, .val (.long i2), .second, .val (.long i3), .second, .val (.long i4), .second, .val (.int i5), .val (.long fi), .second, .val (.long wd), .second, .val (.long la), .second, .val (.int (2 : Int32)), .val (.long x), .second, .val (.long y), .second, .val (.ref b46), .val (.int mo), .val (.long nb), .second, .val (.ref a50), .val (.int (if (lcmpW nb fi) < (0 : Int32) then (0 : Int32) else (if (0 : Int32) < (lcmpW nb la) then (0 : Int32) else (1 : Int32)))), .val (.int (if (lcmpW nb x) = (0 : Int32) then (1 : Int32) else (if (lcmpW nb y) = (0 : Int32) then (1 : Int32) else (0 : Int32)))), .unset] [])
          refine Goes.go (fun _ k => XS.iconst X51.here X51.ex rfl (hb hby at_360) (XS.goto X51.here X51.ex rfl (pc0 := 361) (pc' := 365) rfl (hb hby at_361) (by decide) (by decide) k)) ?_
          show Goes _ _ _ _ T51 (mkF m 365 #[.val (.long i0), .second, .val (.long i1), .second, .val (.long i2), .second, .val (.long i3), .second, .val (.long i4), .second, .val (.int i5), .val (.long fi), .second, .val (.long wd), .second, .val (.long la), .second, .val (.int (2 : Int32)), .val (.long x), .second, .val (.long y), .second, .val (.ref b46), .val (.int mo), .val (.long nb), .second, .val (.ref a50), .val (.int (if (lcmpW nb fi) < (0 : Int32) then (0 : Int32) else (if (0 : Int32) < (lcmpW nb la) then (0 : Int32) else (1 : Int32)))), .val (.int (if (lcmpW nb x) = (0 : Int32) then (1 : Int32) else (if (lcmpW nb y) = (0 : Int32) then (1 : Int32) else (0 : Int32)))), .unset] [(.int (1 : Int32))])
          (try simp only [if_neg hr1, if_pos hr2] at hJ350 ⊢)
          exact hJ350
    refine Goes.go (fun _ k => XS.istore X51.here X51.ex rfl (hb hby at_365) rfl (l' := #[.val (.long i0), .second, .val (.long i1), .second, .val (.long i2), .second, .val (.long i3), .second, .val (.long i4), .second, .val (.int i5), .val (.long fi), .second, .val (.long wd), .second, .val (.long la), .second, .val (.int (2 : Int32)), .val (.long x), .second, .val (.long y), .second, .val (.ref b46), .val (.int mo), .val (.long nb), .second, .val (.ref a50), .val (.int (if (lcmpW nb fi) < (0 : Int32) then (0 : Int32) else (if (0 : Int32) < (lcmpW nb la) then (0 : Int32) else (1 : Int32)))), .val (.int (if (lcmpW nb x) = (0 : Int32) then (1 : Int32) else (if (lcmpW nb y) = (0 : Int32) then (1 : Int32) else (0 : Int32)))), .val (.int (if (if (lcmpW nb fi) < (0 : Int32) then (0 : Int32) else (if (0 : Int32) < (lcmpW nb la) then (0 : Int32) else (1 : Int32))) = (0 : Int32) then (0 : Int32) else (if (if (lcmpW nb x) = (0 : Int32) then (1 : Int32) else (if (lcmpW nb y) = (0 : Int32) then (1 : Int32) else (0 : Int32))) = (0 : Int32) then (1 : Int32) else (0 : Int32))))]) rfl (XS.aload X51.here X51.ex rfl (hb hby at_367) rfl rfl (XS.lload X51.here X51.ex rfl (hb hby at_369) rfl k))) ?_
    show Goes _ _ _ _ T51 (mkF m 371 #[.val (.long i0), .second, .val (.long i1), .second, .val (.long i2), .second, .val (.long i3), .second, .val (.long i4), .second, .val (.int i5), .val (.long fi), .second, .val (.long wd), .second, .val (.long la), .second, .val (.int (2 : Int32)), .val (.long x), .second, .val (.long y), .second, .val (.ref b46), .val (.int mo), .val (.long nb), .second, .val (.ref a50), .val (.int (if (lcmpW nb fi) < (0 : Int32) then (0 : Int32) else (if (0 : Int32) < (lcmpW nb la) then (0 : Int32) else (1 : Int32)))), .val (.int (if (lcmpW nb x) = (0 : Int32) then (1 : Int32) else (if (lcmpW nb y) = (0 : Int32) then (1 : Int32) else (0 : Int32)))), .val (.int (if (if (lcmpW nb fi) < (0 : Int32) then (0 : Int32) else (if (0 : Int32) < (lcmpW nb la) then (0 : Int32) else (1 : Int32))) = (0 : Int32) then (0 : Int32) else (if (if (lcmpW nb x) = (0 : Int32) then (1 : Int32) else (if (lcmpW nb y) = (0 : Int32) then (1 : Int32) else (0 : Int32))) = (0 : Int32) then (1 : Int32) else (0 : Int32))))] [(.long nb), (.ref a50)])
    have hpl := own_plain2 nb fi la x y
    refine Wk.virtual (hm' := fun _ => h48) (C := "com/example/assent/assent/log/CrashSet") (y := (⟨"com/example/assent/assent/log/CrashSet", "contains", "(J)Z"⟩ : MethodName)) (z := (⟨"com/example/assent/assent/log/CrashSet", "contains", "(J)Z"⟩ : MethodName)) (W := 0) (kc := 0) (ks := 0) (argsL := [(.long nb)]) (rest := []) (as' := #[(.ref a50), (.long nb)]) (ws := []) X51 (w_30 hw) (w_31 hw) (w_33 hw) (w_32 hw) (by decide) Ex (nf_sel (w_33 hw)) (CtrN.pays (own_ct_2 l Z a0 hw h51 X51.old a50 fi la b2 k2 nb x y Ff Fl Fc V2 p3) (w_34 hw) (w_8 hw) (by decide) (by decide)) (fun v h' L q => ⟨q.2, q.1.1⟩) all0 (fun _ => Mark.stay all0) rfl (by rw [hml]; rfl) (lenOf pd_4 rfl) rfl rfl (by show 2 * 0 + _ ≤ _; exact Nat.le_of_eq rfl) (hb hby at_371) (by decide) (by decide) ?_
    intro T52 h52 v52 L52 X52 q52 K52
    obtain ⟨⟨-, hE52⟩, -⟩ := q52
    rcases hE52 with ⟨rfl, hq⟩ | ⟨rfl, hq⟩
    · show Goes _ _ _ _ T52 (mkF m 374 #[.val (.long i0), .second, .val (.long i1), .second, .val (.long i2), .second, .val (.long i3), .second, .val (.long i4), .second, .val (.int i5), .val (.long fi), .second, .val (.long wd), .second, .val (.long la), .second, .val (.int (2 : Int32)), .val (.long x), .second, .val (.long y), .second, .val (.ref b46), .val (.int mo), .val (.long nb), .second, .val (.ref a50), .val (.int (if (lcmpW nb fi) < (0 : Int32) then (0 : Int32) else (if (0 : Int32) < (lcmpW nb la) then (0 : Int32) else (1 : Int32)))), .val (.int (if (lcmpW nb x) = (0 : Int32) then (1 : Int32) else (if (lcmpW nb y) = (0 : Int32) then (1 : Int32) else (0 : Int32)))), .val (.int (if (if (lcmpW nb fi) < (0 : Int32) then (0 : Int32) else (if (0 : Int32) < (lcmpW nb la) then (0 : Int32) else (1 : Int32))) = (0 : Int32) then (0 : Int32) else (if (if (lcmpW nb x) = (0 : Int32) then (1 : Int32) else (if (lcmpW nb y) = (0 : Int32) then (1 : Int32) else (0 : Int32))) = (0 : Int32) then (1 : Int32) else (0 : Int32))))] [(.int (1 : Int32))])
      rw [if_pos hq] at hpl
      refine Goes.go (fun _ k => XS.iload X52.here X52.ex rfl (hb hby at_374) rfl k) ?_
      show Goes _ _ _ _ T52 (mkF m 376 #[.val (.long i0), .second, .val (.long i1), .second, .val (.long i2), .second, .val (.long i3), .second, .val (.long i4), .second, .val (.int i5), .val (.long fi), .second, .val (.long wd), .second, .val (.long la), .second, .val (.int (2 : Int32)), .val (.long x), .second, .val (.long y), .second, .val (.ref b46), .val (.int mo), .val (.long nb), .second, .val (.ref a50), .val (.int (if (lcmpW nb fi) < (0 : Int32) then (0 : Int32) else (if (0 : Int32) < (lcmpW nb la) then (0 : Int32) else (1 : Int32)))), .val (.int (if (lcmpW nb x) = (0 : Int32) then (1 : Int32) else (if (lcmpW nb y) = (0 : Int32) then (1 : Int32) else (0 : Int32)))), .val (.int (if (if (lcmpW nb fi) < (0 : Int32) then (0 : Int32) else (if (0 : Int32) < (lcmpW nb la) then (0 : Int32) else (1 : Int32))) = (0 : Int32) then (0 : Int32) else (if (if (lcmpW nb x) = (0 : Int32) then (1 : Int32) else (if (lcmpW nb y) = (0 : Int32) then (1 : Int32) else (0 : Int32))) = (0 : Int32) then (1 : Int32) else (0 : Int32))))] [(.int (if (if (lcmpW nb fi) < (0 : Int32) then (0 : Int32) else (if (0 : Int32) < (lcmpW nb la) then (0 : Int32) else (1 : Int32))) = (0 : Int32) then (0 : Int32) else (if (if (lcmpW nb x) = (0 : Int32) then (1 : Int32) else (if (lcmpW nb y) = (0 : Int32) then (1 : Int32) else (0 : Int32))) = (0 : Int32) then (1 : Int32) else (0 : Int32)))), (.int (1 : Int32))])
      refine Goes.go (fun _ k => XS.icmpNo X52.here X52.ex rfl (hb hby at_376) rfl (cd_f (cd := .ne) (x := (1 : Int32)) (y := (if (if (lcmpW nb fi) < (0 : Int32) then (0 : Int32) else (if (0 : Int32) < (lcmpW nb la) then (0 : Int32) else (1 : Int32))) = (0 : Int32) then (0 : Int32) else (if (if (lcmpW nb x) = (0 : Int32) then (1 : Int32) else (if (lcmpW nb y) = (0 : Int32) then (1 : Int32) else (0 : Int32))) = (0 : Int32) then (1 : Int32) else (0 : Int32)))) ((fun q => absurd (hpl.symm) q))) k) ?_
      show Goes _ _ _ _ T52 (mkF m 379 #[.val (.long i0), .second, .val (.long i1), .second, .val (.long i2), .second, .val (.long i3), .second, .val (.long i4), .second, .val (.int i5), .val (.long fi), .second, .val (.long wd), .second, .val (.long la), .second, .val (.int (2 : Int32)), .val (.long x), .second, .val (.long y), .second, .val (.ref b46), .val (.int mo), .val (.long nb), .second, .val (.ref a50), .val (.int (if (lcmpW nb fi) < (0 : Int32) then (0 : Int32) else (if (0 : Int32) < (lcmpW nb la) then (0 : Int32) else (1 : Int32)))), .val (.int (if (lcmpW nb x) = (0 : Int32) then (1 : Int32) else (if (lcmpW nb y) = (0 : Int32) then (1 : Int32) else (0 : Int32)))), .val (.int (if (if (lcmpW nb fi) < (0 : Int32) then (0 : Int32) else (if (0 : Int32) < (lcmpW nb la) then (0 : Int32) else (1 : Int32))) = (0 : Int32) then (0 : Int32) else (if (if (lcmpW nb x) = (0 : Int32) then (1 : Int32) else (if (lcmpW nb y) = (0 : Int32) then (1 : Int32) else (0 : Int32))) = (0 : Int32) then (1 : Int32) else (0 : Int32))))] [])
      refine Goes.go (fun _ k => XS.iconst X52.here X52.ex rfl (hb hby at_379) (XS.goto X52.here X52.ex rfl (pc0 := 380) (pc' := 384) rfl (hb hby at_380) (by decide) (by decide) k)) ?_
      show Goes _ _ _ _ T52 (mkF m 384 #[.val (.long i0), .second, .val (.long i1), .second, .val (.long i2), .second, .val (.long i3), .second, .val (.long i4), .second, .val (.int i5), .val (.long fi), .second, .val (.long wd), .second, .val (.long la), .second, .val (.int (2 : Int32)), .val (.long x), .second, .val (.long y), .second, .val (.ref b46), .val (.int mo), .val (.long nb), .second, .val (.ref a50), .val (.int (if (lcmpW nb fi) < (0 : Int32) then (0 : Int32) else (if (0 : Int32) < (lcmpW nb la) then (0 : Int32) else (1 : Int32)))), .val (.int (if (lcmpW nb x) = (0 : Int32) then (1 : Int32) else (if (lcmpW nb y) = (0 : Int32) then (1 : Int32) else (0 : Int32)))), .val (.int (if (if (lcmpW nb fi) < (0 : Int32) then (0 : Int32) else (if (0 : Int32) < (lcmpW nb la) then (0 : Int32) else (1 : Int32))) = (0 : Int32) then (0 : Int32) else (if (if (lcmpW nb x) = (0 : Int32) then (1 : Int32) else (if (lcmpW nb y) = (0 : Int32) then (1 : Int32) else (0 : Int32))) = (0 : Int32) then (1 : Int32) else (0 : Int32))))] [(.int (1 : Int32))])
      refine Goes.outN X52 (fun q => by rw [hret] at q; cases q) hlk (X52.rB hret (by simp) (hb hby at_384)) ?_ (by decide) (by decide)
      exact rfl
    · show Goes _ _ _ _ T52 (mkF m 374 #[.val (.long i0), .second, .val (.long i1), .second, .val (.long i2), .second, .val (.long i3), .second, .val (.long i4), .second, .val (.int i5), .val (.long fi), .second, .val (.long wd), .second, .val (.long la), .second, .val (.int (2 : Int32)), .val (.long x), .second, .val (.long y), .second, .val (.ref b46), .val (.int mo), .val (.long nb), .second, .val (.ref a50), .val (.int (if (lcmpW nb fi) < (0 : Int32) then (0 : Int32) else (if (0 : Int32) < (lcmpW nb la) then (0 : Int32) else (1 : Int32)))), .val (.int (if (lcmpW nb x) = (0 : Int32) then (1 : Int32) else (if (lcmpW nb y) = (0 : Int32) then (1 : Int32) else (0 : Int32)))), .val (.int (if (if (lcmpW nb fi) < (0 : Int32) then (0 : Int32) else (if (0 : Int32) < (lcmpW nb la) then (0 : Int32) else (1 : Int32))) = (0 : Int32) then (0 : Int32) else (if (if (lcmpW nb x) = (0 : Int32) then (1 : Int32) else (if (lcmpW nb y) = (0 : Int32) then (1 : Int32) else (0 : Int32))) = (0 : Int32) then (1 : Int32) else (0 : Int32))))] [(.int (0 : Int32))])
      rw [if_neg hq] at hpl
      refine Goes.go (fun _ k => XS.iload X52.here X52.ex rfl (hb hby at_374) rfl k) ?_
      show Goes _ _ _ _ T52 (mkF m 376 #[.val (.long i0), .second, .val (.long i1), .second, .val (.long i2), .second, .val (.long i3), .second, .val (.long i4), .second, .val (.int i5), .val (.long fi), .second, .val (.long wd), .second, .val (.long la), .second, .val (.int (2 : Int32)), .val (.long x), .second, .val (.long y), .second, .val (.ref b46), .val (.int mo), .val (.long nb), .second, .val (.ref a50), .val (.int (if (lcmpW nb fi) < (0 : Int32) then (0 : Int32) else (if (0 : Int32) < (lcmpW nb la) then (0 : Int32) else (1 : Int32)))), .val (.int (if (lcmpW nb x) = (0 : Int32) then (1 : Int32) else (if (lcmpW nb y) = (0 : Int32) then (1 : Int32) else (0 : Int32)))), .val (.int (if (if (lcmpW nb fi) < (0 : Int32) then (0 : Int32) else (if (0 : Int32) < (lcmpW nb la) then (0 : Int32) else (1 : Int32))) = (0 : Int32) then (0 : Int32) else (if (if (lcmpW nb x) = (0 : Int32) then (1 : Int32) else (if (lcmpW nb y) = (0 : Int32) then (1 : Int32) else (0 : Int32))) = (0 : Int32) then (1 : Int32) else (0 : Int32))))] [(.int (if (if (lcmpW nb fi) < (0 : Int32) then (0 : Int32) else (if (0 : Int32) < (lcmpW nb la) then (0 : Int32) else (1 : Int32))) = (0 : Int32) then (0 : Int32) else (if (if (lcmpW nb x) = (0 : Int32) then (1 : Int32) else (if (lcmpW nb y) = (0 : Int32) then (1 : Int32) else (0 : Int32))) = (0 : Int32) then (1 : Int32) else (0 : Int32)))), (.int (0 : Int32))])
      refine Goes.go (fun _ k => XS.icmpNo X52.here X52.ex rfl (hb hby at_376) rfl (cd_f (cd := .ne) (x := (0 : Int32)) (y := (if (if (lcmpW nb fi) < (0 : Int32) then (0 : Int32) else (if (0 : Int32) < (lcmpW nb la) then (0 : Int32) else (1 : Int32))) = (0 : Int32) then (0 : Int32) else (if (if (lcmpW nb x) = (0 : Int32) then (1 : Int32) else (if (lcmpW nb y) = (0 : Int32) then (1 : Int32) else (0 : Int32))) = (0 : Int32) then (1 : Int32) else (0 : Int32)))) ((fun q => absurd (hpl.symm) q))) k) ?_
      show Goes _ _ _ _ T52 (mkF m 379 #[.val (.long i0), .second, .val (.long i1), .second, .val (.long i2), .second, .val (.long i3), .second, .val (.long i4), .second, .val (.int i5), .val (.long fi), .second, .val (.long wd), .second, .val (.long la), .second, .val (.int (2 : Int32)), .val (.long x), .second, .val (.long y), .second, .val (.ref b46), .val (.int mo), .val (.long nb), .second, .val (.ref a50), .val (.int (if (lcmpW nb fi) < (0 : Int32) then (0 : Int32) else (if (0 : Int32) < (lcmpW nb la) then (0 : Int32) else (1 : Int32)))), .val (.int (if (lcmpW nb x) = (0 : Int32) then (1 : Int32) else (if (lcmpW nb y) = (0 : Int32) then (1 : Int32) else (0 : Int32)))), .val (.int (if (if (lcmpW nb fi) < (0 : Int32) then (0 : Int32) else (if (0 : Int32) < (lcmpW nb la) then (0 : Int32) else (1 : Int32))) = (0 : Int32) then (0 : Int32) else (if (if (lcmpW nb x) = (0 : Int32) then (1 : Int32) else (if (lcmpW nb y) = (0 : Int32) then (1 : Int32) else (0 : Int32))) = (0 : Int32) then (1 : Int32) else (0 : Int32))))] [])
      refine Goes.go (fun _ k => XS.iconst X52.here X52.ex rfl (hb hby at_379) (XS.goto X52.here X52.ex rfl (pc0 := 380) (pc' := 384) rfl (hb hby at_380) (by decide) (by decide) k)) ?_
      show Goes _ _ _ _ T52 (mkF m 384 #[.val (.long i0), .second, .val (.long i1), .second, .val (.long i2), .second, .val (.long i3), .second, .val (.long i4), .second, .val (.int i5), .val (.long fi), .second, .val (.long wd), .second, .val (.long la), .second, .val (.int (2 : Int32)), .val (.long x), .second, .val (.long y), .second, .val (.ref b46), .val (.int mo), .val (.long nb), .second, .val (.ref a50), .val (.int (if (lcmpW nb fi) < (0 : Int32) then (0 : Int32) else (if (0 : Int32) < (lcmpW nb la) then (0 : Int32) else (1 : Int32)))), .val (.int (if (lcmpW nb x) = (0 : Int32) then (1 : Int32) else (if (lcmpW nb y) = (0 : Int32) then (1 : Int32) else (0 : Int32)))), .val (.int (if (if (lcmpW nb fi) < (0 : Int32) then (0 : Int32) else (if (0 : Int32) < (lcmpW nb la) then (0 : Int32) else (1 : Int32))) = (0 : Int32) then (0 : Int32) else (if (if (lcmpW nb x) = (0 : Int32) then (1 : Int32) else (if (lcmpW nb y) = (0 : Int32) then (1 : Int32) else (0 : Int32))) = (0 : Int32) then (1 : Int32) else (0 : Int32))))] [(.int (1 : Int32))])
      refine Goes.outN X52 (fun q => by rw [hret] at q; cases q) hlk (X52.rB hret (by simp) (hb hby at_384)) ?_ (by decide) (by decide)
      exact rfl
set_option maxRecDepth 65536 in
set_option maxHeartbeats 40000000 in
theorem comes_1 {Post : Tables → Env → Array Value → State → Outcome → State → Prop} (hpost : ∀ tb e args s v u, (limb_1_1.after args s (.returned v) u = true ∧ limb_1_2.after args s (.returned v) u = true ∧ True) → Framed s (.returned v) u (Jvm.fieldLocs frame_1_writes args s ++ Jvm.arrayLocs frame_1_arrays args s ++ Jvm.staticLocs frame_1_statics s) 16 128 → Post tb e args s (.returned v) u) :
    ArmFor flags0 classFile x code maxLocals ret World_1 tables_1 room_1 Calls_1 rest_1 Pre_1 Post := by
  intro l hfl _ _ p e ha hc hk s m args below hf hA hF happ hP
  obtain ⟨hcalls, hrest, hpre⟩ := hP
  obtain ⟨-, -, -, hnamed, -, -, -, hat⟩ := (Spec.applies_iff hf).mp happ
  obtain ⟨hg, hn⟩ := and_e (Cond.before_iff.mp (show (Jvm.Cond.and given_1 narrow_1).before args s = true from hpre))
  obtain ⟨h1, r0⟩ := and_e hg
  obtain ⟨w0, w1, w2, w3, w4, w5, rfl⟩ : ∃ w0 w1 w2 w3 w4 w5 : Value, args = #[w0, w1, w2, w3, w4, w5] := by
    have hs : args.size = 6 := by simpa [Cond.value, given_1] using h1
    obtain ⟨L⟩ := args
    match L, hs with
    | [w0, w1, w2, w3, w4, w5], _ => exact ⟨w0, w1, w2, w3, w4, w5, rfl⟩
  have hw := fun d (hd : d ∈ tables_1) => atoms_spec (ws := Jvm.Cond.code x code maxLocals ret :: tables_1) hat d (List.mem_cons_of_mem _ hd)
  have hfit : Fit s := fun {y c} hc i hi => by
    obtain ⟨ha, rfl⟩ := Array.getElem?_eq_some_iff.mp hc
    have q := List.all_eq_true.mp ((Array.all_eq_true_iff_forall_mem.mp hF) _ (Array.getElem_mem ha)) i (List.mem_range.mpr hi)
    simpa [Array.getElem?_eq_getElem hi] using q
  obtain ⟨q0, r1⟩ := and_e r0
  obtain ⟨i0, e0⟩ := isL_v q0
  obtain rfl : w0 = (.long i0) := Option.some.inj e0
  obtain ⟨q1, r2⟩ := and_e r1
  obtain ⟨i1, e1⟩ := isL_v q1
  obtain rfl : w1 = (.long i1) := Option.some.inj e1
  obtain ⟨q2, r3⟩ := and_e r2
  obtain ⟨i2, e2⟩ := isL_v q2
  obtain rfl : w2 = (.long i2) := Option.some.inj e2
  obtain ⟨q3, r4⟩ := and_e r3
  obtain ⟨i3, e3⟩ := isL_v q3
  obtain rfl : w3 = (.long i3) := Option.some.inj e3
  obtain ⟨q4, r5⟩ := and_e r4
  obtain ⟨i4, e4⟩ := isL_v q4
  obtain rfl : w4 = (.long i4) := Option.some.inj e4
  obtain ⟨i5, e5⟩ := is_v r5
  obtain rfl : w5 = (.int i5) := Option.some.inj e5
  obtain ⟨n, o, h1, h2, h3, _, L, rfl, ⟨rfl, N⟩, hq⟩ := own_law l s _ hw s.heap (Ext.oRefl _) i0 i1 i2 i3 i4 i5 tables_1 p e ha hc hk s m _ below hf ((Spec.applies_iff_loose hf).mp happ).1 ⟨rfl, State.Warmed39.refl s, rfl⟩ trivial
  exact ⟨n, _, h1, h2, h3, hpost _ _ _ _ _ _ ⟨Cond.after_iff.mpr rfl, Cond.after_iff.mpr (eq_i res_at (Term.int_eval (1)) rfl), trivial⟩ ⟨hq.1, hq.2.1, (hq.2.2.sift fun y hy => Or.inr (N y hy)).mono (by decide) (by decide)⟩⟩
theorem main_1_1 : Claimed_1_1 := comes_1 fun _ _ _ _ _ _ h hF => ⟨h.1, hF⟩
theorem main_1_2 : Claimed_1_2 := comes_1 fun _ _ _ _ _ _ h hF => ⟨h.2.1, hF⟩
end Jvm.Pilot.@@N@@
namespace Jvm.Pilot.@@N@@
open Jvm Jvm.ClassFile Sem Op Lib Jvm.Free Jvm.Stand Jvm.Pilot.@@N@@.Jvm.D
/-! MADE BY PROGRAM (witnessworld.py) out of the Statement's table words and the real class files: 13 classes; the members and pool entries that the words name. The judged class is class 1, her method 1. -/
namespace start1
open Jvm.ClassFile
def u (s : String) : CpInfo := .utf8 (stringToUtf16 s)
/-- a pool by its gaps: so many unusable entries, then the entry; so many at the end -/
def gap : Nat → List CpInfo → List CpInfo
  | 0, r => r
  | n + 1, r => .unusable :: gap n r
def poolList (es : List (Nat × CpInfo)) (last : Nat) : List CpInfo := es.foldr (fun e r => gap e.1 (e.2 :: r)) (gap last [])
def pool (es : List (Nat × CpInfo)) (last : Nat) : Array CpInfo := ⟨poolList es last⟩
def fileOf (pool : Array CpInfo) (this : Nat) (attrs : Array Attribute := #[]) (ms : Array MethodInfo := #[]) (fl : Nat := 33) (sup : Nat := 0) (ifs : Array Nat := #[]) (fds : Array FieldInfo := #[]) : ClassFile where
  minorVersion := 0
  majorVersion := 65
  constantPool := pool
  accessFlags := fl
  thisClass := this
  superClass := sup
  interfaces := ifs
  fields := fds
  methods := ms
  attributes := attrs
def plain (name : String) (sup : Option ClassId) : Class where
  name := name
  kind := .ordinary
  loader := none
  accessFlags := 33
  super := sup
  interfaces := #[]
  cf := none
  fields := #[]
  methods := #[]
  instanceTypes := #[]
  staticTypes := #[]
  resolved := #[]
  callSites := []
  init := .initialized
  statics := none
  mirror := none

def pool0 : Array CpInfo := pool [(5, u "<init>"), (0, u "()V"), (1, .class_ 10), (1, u "java/lang/Object"), (85, u "clone"), (0, u "()Ljava/lang/Object;")] 26

def k0c0 : Code := { maxStack := 0, maxLocals := 1, code := object_method_1_code, exceptionTable := #[], attributes := #[] }
def k0m0 : Method := { name := "<init>", desc := "()V", sig := { parameters := [], returnType := none }, accessFlags := 1, code := some k0c0 }
def k0m1 : Method := { name := "clone", desc := "()Ljava/lang/Object;", sig := { parameters := [], returnType := some (.object "java/lang/Object") }, accessFlags := 260, code := none }
/-- java/lang/Object -/
def k0 : Class := { plain "java/lang/Object" none with
  accessFlags := 33
  interfaces := #[]
  cf := some (fileOf pool0 8 #[] #[{ accessFlags := 1, nameIndex := 5, descriptorIndex := 6, attributes := #[] }, { accessFlags := 260, nameIndex := 96, descriptorIndex := 97, attributes := #[] }] 33 0 #[] #[])
  fields := #[]
  methods := #[k0m0, k0m1]
  instanceTypes := #[]
  staticTypes := #[]
  resolved := Array.replicate 124 none
  statics := none }

def pool1 : Array CpInfo := pool [(2, .class_ 4), (1, u "java/lang/Object"), (0, u "<init>"), (0, u "()V"), (2, .long 9223372036854775807), (1, .methodref 12 13), (0, .class_ 14), (0, .nameAndType 15 16), (0, u "java/lang/Math"), (0, u "max"), (0, u "(JJ)J"), (0, .class_ 18), (0, u "com/example/assent/assent/log/CrashSet"), (0, .methodref 17 20), (0, .nameAndType 5 21), (0, u "(JJ[J)V"), (0, .methodref 17 23), (0, .nameAndType 24 25), (0, u "contains"), (0, u "(J)Z"), (0, .class_ 27), (0, u "com/example/assent/assent/log/CrashSetContainsPinLaw"), (2, u "law"), (0, u "(JJJJJI)Z")] 5

def k1m0 : Method := { name := "<init>", desc := "()V", sig := { parameters := [], returnType := none }, accessFlags := 1, code := none }
def k1c1 : Code := { maxStack := 8, maxLocals := 30, code := code, exceptionTable := #[], attributes := #[] }
def k1m1 : Method := { name := "law", desc := "(JJJJJI)Z", sig := { parameters := [.long, .long, .long, .long, .long, .int], returnType := some .boolean }, accessFlags := 9, code := some k1c1 }
/-- com/example/assent/assent/log/CrashSetContainsPinLaw -/
def k1 : Class := { plain "com/example/assent/assent/log/CrashSetContainsPinLaw" (some 0) with
  accessFlags := 49
  interfaces := #[]
  cf := some (fileOf pool1 26 #[] #[{ accessFlags := 1, nameIndex := 5, descriptorIndex := 6, attributes := #[] }, { accessFlags := 9, nameIndex := 30, descriptorIndex := 31, attributes := #[] }] 49 2 #[] #[])
  fields := #[]
  methods := #[k1m0, k1m1]
  instanceTypes := #[]
  staticTypes := #[]
  resolved := Array.replicate 37 none
  statics := none }

def pool2 : Array CpInfo := pool [(1, .class_ 2), (0, u "java/lang/Math"), (1, .class_ 6), (1, u "java/lang/Object"), (0, u "<init>"), (0, u "()V"), (89, .class_ 100), (1, u "java/lang/Math$RandomNumberGeneratorHolder"), (20, u "(JJ)J"), (50, u "negativeZeroFloatBits"), (0, u "J"), (2, u "negativeZeroDoubleBits"), (21, u "max"), (46, u "$assertionsDisabled"), (0, u "Z"), (91, u "twoToTheDoubleScaleDown"), (0, u "D"), (4, u "twoToTheDoubleScaleUp"), (9, u "E"), (3, u "PI"), (2, u "TAU"), (2, u "DEGREES_TO_RADIANS"), (0, u "RADIANS_TO_DEGREES")] 94

def k2m0 : Method := { name := "<init>", desc := "()V", sig := { parameters := [], returnType := none }, accessFlags := 2, code := none }
def k2c1 : Code := { maxStack := 4, maxLocals := 4, code := jdk_29_method_66_code, exceptionTable := #[], attributes := #[] }
def k2m1 : Method := { name := "max", desc := "(JJ)J", sig := { parameters := [.long, .long], returnType := some .long }, accessFlags := 9, code := some k2c1 }
/-- java/lang/Math -/
def k2 : Class := { plain "java/lang/Math" (some 0) with
  accessFlags := 49
  interfaces := #[]
  cf := some (fileOf pool2 1 #[.nestMembers #[98]] #[{ accessFlags := 2, nameIndex := 7, descriptorIndex := 8, attributes := #[] }, { accessFlags := 9, nameIndex := 198, descriptorIndex := 121, attributes := #[] }] 49 4 #[] #[{ accessFlags := 25, nameIndex := 354, descriptorIndex := 339, attributes := #[] }, { accessFlags := 25, nameIndex := 358, descriptorIndex := 339, attributes := #[] }, { accessFlags := 25, nameIndex := 361, descriptorIndex := 339, attributes := #[] }, { accessFlags := 26, nameIndex := 364, descriptorIndex := 339, attributes := #[] }, { accessFlags := 26, nameIndex := 365, descriptorIndex := 339, attributes := #[] }, { accessFlags := 26, nameIndex := 172, descriptorIndex := 173, attributes := #[] }, { accessFlags := 26, nameIndex := 176, descriptorIndex := 173, attributes := #[] }, { accessFlags := 8, nameIndex := 344, descriptorIndex := 339, attributes := #[] }, { accessFlags := 8, nameIndex := 338, descriptorIndex := 339, attributes := #[] }, { accessFlags := 4120, nameIndex := 245, descriptorIndex := 246, attributes := #[] }])
  fields := #[{ name := "E", type := .double, accessFlags := 25, slot := 0, constantValue := 0 }, { name := "PI", type := .double, accessFlags := 25, slot := 1, constantValue := 0 }, { name := "TAU", type := .double, accessFlags := 25, slot := 2, constantValue := 0 }, { name := "DEGREES_TO_RADIANS", type := .double, accessFlags := 26, slot := 3, constantValue := 0 }, { name := "RADIANS_TO_DEGREES", type := .double, accessFlags := 26, slot := 4, constantValue := 0 }, { name := "negativeZeroFloatBits", type := .long, accessFlags := 26, slot := 5, constantValue := 0 }, { name := "negativeZeroDoubleBits", type := .long, accessFlags := 26, slot := 6, constantValue := 0 }, { name := "twoToTheDoubleScaleUp", type := .double, accessFlags := 8, slot := 7, constantValue := 0 }, { name := "twoToTheDoubleScaleDown", type := .double, accessFlags := 8, slot := 8, constantValue := 0 }, { name := "$assertionsDisabled", type := .boolean, accessFlags := 4120, slot := 9, constantValue := 0 }]
  methods := #[k2m0, k2m1]
  instanceTypes := #[]
  staticTypes := #[.double, .double, .double, .double, .double, .long, .long, .double, .double, .boolean]
  resolved := Array.replicate 460 none
  statics := none }

def pool3 : Array CpInfo := pool [(1, .methodref 2 3), (0, .class_ 4), (0, .nameAndType 5 6), (0, u "java/lang/Object"), (0, u "<init>"), (0, u "()V"), (10, .class_ 19), (1, u "java/util/Arrays"), (6, .fieldref 27 28), (0, .class_ 29), (0, .nameAndType 30 31), (0, u "com/example/assent/assent/log/CrashSet"), (0, u "first"), (0, u "J"), (0, .fieldref 27 33), (0, .nameAndType 34 31), (0, u "last"), (0, .methodref 36 37), (0, .class_ 38), (0, .nameAndType 39 40), (0, u "[J"), (0, u "clone"), (0, u "()Ljava/lang/Object;"), (0, .fieldref 27 42), (0, .nameAndType 43 38), (0, u "committed"), (3, u "([JJ)I"), (6, u "(JJ[J)V"), (0, .methodref 17 56), (0, .nameAndType 57 47), (0, u "binarySearch"), (10, u "contains"), (0, u "(J)Z")] 24

def k3c0 : Code := { maxStack := 7, maxLocals := 13, code := prog_16_method_1_code, exceptionTable := #[], attributes := #[] }
def k3m0 : Method := { name := "<init>", desc := "(JJ[J)V", sig := { parameters := [.long, .long, (.array .long)], returnType := none }, accessFlags := 0, code := some k3c0 }
def k3c1 : Code := { maxStack := 4, maxLocals := 3, code := prog_16_method_7_code, exceptionTable := #[], attributes := #[] }
def k3m1 : Method := { name := "contains", desc := "(J)Z", sig := { parameters := [.long], returnType := some .boolean }, accessFlags := 0, code := some k3c1 }
/-- com/example/assent/assent/log/CrashSet -/
def k3 : Class := { plain "com/example/assent/assent/log/CrashSet" (some 0) with
  accessFlags := 48
  interfaces := #[]
  cf := some (fileOf pool3 27 #[] #[{ accessFlags := 0, nameIndex := 5, descriptorIndex := 54, attributes := #[] }, { accessFlags := 0, nameIndex := 68, descriptorIndex := 69, attributes := #[] }] 48 2 #[] #[{ accessFlags := 18, nameIndex := 30, descriptorIndex := 31, attributes := #[] }, { accessFlags := 18, nameIndex := 34, descriptorIndex := 31, attributes := #[] }, { accessFlags := 18, nameIndex := 43, descriptorIndex := 38, attributes := #[] }])
  fields := #[{ name := "first", type := .long, accessFlags := 18, slot := 0, constantValue := 0 }, { name := "last", type := .long, accessFlags := 18, slot := 1, constantValue := 0 }, { name := "committed", type := (.array .long), accessFlags := 18, slot := 2, constantValue := 0 }]
  methods := #[k3m0, k3m1]
  instanceTypes := #[.long, .long, (.array .long)]
  staticTypes := #[]
  resolved := Array.replicate 94 none
  statics := none }

def pool4 : Array CpInfo := pool [(1, .class_ 2), (0, u "java/lang/Cloneable"), (0, .class_ 4), (0, u "java/lang/Object")] 2

/-- java/lang/Cloneable -/
def k4 : Class := { plain "java/lang/Cloneable" (some 0) with
  accessFlags := 1537
  interfaces := #[]
  cf := some (fileOf pool4 1 #[] #[] 1537 3 #[] #[])
  fields := #[]
  methods := #[]
  instanceTypes := #[]
  staticTypes := #[]
  resolved := Array.replicate 7 none
  statics := none }

def pool5 : Array CpInfo := pool [(2, .class_ 4), (1, u "java/lang/Object"), (0, u "<init>"), (0, u "()V"), (7, .class_ 16), (1, u "java/util/Arrays"), (57, .class_ 76), (1, u "java/util/Arrays$NaturalOrder"), (36, .class_ 115), (1, u "java/util/Arrays$LegacyMergeSort"), (1, u "Z"), (87, .methodref 14 206), (0, .nameAndType 207 208), (0, u "binarySearch0"), (0, u "([JIIJ)I"), (166, .class_ 376), (0, u "java/util/Arrays$ArrayList"), (68, u "$assertionsDisabled"), (269, u "MIN_ARRAY_SORT_GRAN"), (0, u "I"), (2, u "INSERTIONSORT_THRESHOLD"), (74, u "binarySearch"), (0, u "([JJ)I"), (179, .class_ 976), (0, u "java/util/Arrays$ArrayItr")] 52

def k5m0 : Method := { name := "<init>", desc := "()V", sig := { parameters := [], returnType := none }, accessFlags := 2, code := none }
def k5c1 : Code := { maxStack := 5, maxLocals := 3, code := jdk_65_method_54_code, exceptionTable := #[], attributes := #[] }
def k5m1 : Method := { name := "binarySearch", desc := "([JJ)I", sig := { parameters := [(.array .long), .long], returnType := some .int }, accessFlags := 9, code := some k5c1 }
def k5c2 : Code := { maxStack := 4, maxLocals := 10, code := jdk_65_method_56_code, exceptionTable := #[], attributes := #[] }
def k5m2 : Method := { name := "binarySearch0", desc := "([JIIJ)I", sig := { parameters := [(.array .long), .int, .int, .long], returnType := some .int }, accessFlags := 10, code := some k5c2 }
/-- java/util/Arrays -/
def k5 : Class := { plain "java/util/Arrays" (some 0) with
  accessFlags := 49
  interfaces := #[]
  cf := some (fileOf pool5 14 #[.nestMembers #[975, 375, 113, 74]] #[{ accessFlags := 2, nameIndex := 5, descriptorIndex := 6, attributes := #[] }, { accessFlags := 9, nameIndex := 794, descriptorIndex := 795, attributes := #[] }, { accessFlags := 10, nameIndex := 207, descriptorIndex := 208, attributes := #[] }] 49 2 #[] #[{ accessFlags := 26, nameIndex := 715, descriptorIndex := 716, attributes := #[] }, { accessFlags := 26, nameIndex := 719, descriptorIndex := 716, attributes := #[] }, { accessFlags := 4120, nameIndex := 445, descriptorIndex := 117, attributes := #[] }])
  fields := #[{ name := "MIN_ARRAY_SORT_GRAN", type := .int, accessFlags := 26, slot := 0, constantValue := 0 }, { name := "INSERTIONSORT_THRESHOLD", type := .int, accessFlags := 26, slot := 1, constantValue := 0 }, { name := "$assertionsDisabled", type := .boolean, accessFlags := 4120, slot := 2, constantValue := 0 }]
  methods := #[k5m0, k5m1, k5m2]
  instanceTypes := #[]
  staticTypes := #[.int, .int, .boolean]
  resolved := Array.replicate 1029 none
  statics := none }

def pool6 : Array CpInfo := pool [(1, u "java/io/Serializable"), (0, .class_ 1), (0, u "java/lang/Object"), (0, .class_ 3)] 3

/-- java/io/Serializable -/
def k6 : Class := { plain "java/io/Serializable" (some 0) with
  accessFlags := 1537
  interfaces := #[]
  cf := some (fileOf pool6 2 #[] #[] 1537 4 #[] #[])
  fields := #[]
  methods := #[]
  instanceTypes := #[]
  staticTypes := #[]
  resolved := Array.replicate 8 none
  statics := none }

/-- the primitive byte -/
def k7 : Class := { plain "byte" none with kind := .primitive 'B', accessFlags := 0x411 }
/-- [B -/
def k8 : Class := { plain "[B" (some 0) with kind := .array 7 .byte, interfaces := #[4, 6], accessFlags := 1041 }

/-- the primitive int -/
def k9 : Class := { plain "int" none with kind := .primitive 'I', accessFlags := 0x411 }
/-- [I -/
def k10 : Class := { plain "[I" (some 0) with kind := .array 9 .int, interfaces := #[4, 6], accessFlags := 1041 }

/-- the primitive long -/
def k11 : Class := { plain "long" none with kind := .primitive 'J', accessFlags := 0x411 }
/-- [J -/
def k12 : Class := { plain "[J" (some 0) with kind := .array 11 .long, interfaces := #[4, 6], accessFlags := 1041 }

def heap : Heap := #[]
def classes : Array Class := #[k0, k1, k2, k3, k4, k5, k6, k7, k8, k9, k10, k11, k12]
def interned : List (Array UInt16 × Addr) := []
def slotsUsed : Nat := 0
def theMethod : MethodId := ⟨1, 1⟩
def args0 : Array Value := #[.long 5, .long 5, .long 5, .long 5, .long 5, .int 7]
def aboutOver (below : List Frame) : State where
  vm := { classes := classes, interned := interned.toArray }
  heap := heap
  slotsUsed := slotsUsed
  threads := #[{ frames := .invoking theMethod args0 :: below }]
def below0 : List Frame := [.native { method := ⟨0, 0⟩, args := #[] }]
def about1 : State := aboutOver below0
def p0 : Program := .bare "" "" ""
def e0 : Env := launch0.env 0 0 0
theorem w_frames : about1.frames = Frame.invoking theMethod args0 :: below0 := rfl
set_option maxRecDepth 65536 in
theorem w_args : argsFit about1.vm theMethod args0 = true := by decide +kernel
set_option maxRecDepth 65536 in
theorem w_heap : heapFits about1 = true := by decide +kernel
set_option maxRecDepth 65536 in
theorem w_runnable : about1.curStatus? = some .runnable := by decide +kernel
set_option maxRecDepth 65536 in
theorem w_alone : about1.alone = true := by decide +kernel
set_option maxRecDepth 65536 in
theorem w_named : about1.methodNamed? x = some theMethod := by decide +kernel
set_option maxRecDepth 65536 in
theorem w_hears : about1.hears theMethod below0 = true := by decide +kernel
set_option maxRecDepth 65536 in
theorem w_ripe : about1.ripe theMethod args0 below0 = true := by decide +kernel
theorem w_running : about1.status = .running := rfl
set_option maxRecDepth 65536 in
theorem w_room : about1.hasRoom e0.platform room_1 = true :=
  launch0.hasRoom_least _ room_1 (by decide +kernel) (by decide +kernel) (by decide +kernel) (by decide +kernel) (by decide +kernel) (by decide +kernel)
theorem allAtoms_all (ts : List Jvm.Cond) (a : Array Jvm.Value) (st : Jvm.State) : (allAtoms ts).before a st = ts.all (fun c => c.before a st) := by
  induction ts with
  | nil => rfl
  | cons c t ih =>
    show (Jvm.Cond.and c (allAtoms t)).before a st = _
    rw [Jvm.Cond.before_and, ih, List.all_cons]
def words1 : List Jvm.Cond := Jvm.Cond.code x code maxLocals ret :: tables_1
/-- a 'code' word, met by the world's own term for the bytes: nothing is compared byte by byte -/
theorem code_word {y : MethodName} {bytes : ByteArray} {mx : Nat} {rt : Option FieldType} {a : Array Value} {s : State} {m : MethodId} {meth : Method} {c : Code} (h1 : s.methodNamed? y = some m) (h2 : s.vm.method? m = some meth) (h3 : meth.code = some c) (h4 : c.code = bytes)
    (h5 : (c.maxLocals == mx && c.exceptionTable.isEmpty && decide (c.maxStack ≤ mostOperands) && decide (meth.sig.returnType = rt) && !meth.locks && decide (parseMethodDescriptor y.desc = some meth.sig)) = true) : (Jvm.Cond.code y bytes mx rt).before a s = true := by
  simp only [Bool.and_eq_true, beq_iff_eq, Bool.not_eq_true', decide_eq_true_eq] at h5
  obtain ⟨⟨⟨⟨⟨g1, g2⟩, g3⟩, g4⟩, g5⟩, g6⟩ := h5
  simp [Cond.before, Cond.holds, Cond.value, h1, h2, h3, h4, g1, g2, g3, g4, g5, g6]
def isCode : Jvm.Cond → Bool
  | .code _ _ _ _ => true
  | _ => false
theorem all_split {L : List Jvm.Cond} {P : Jvm.Cond → Bool} (h1 : L.all (fun c => isCode c || P c) = true) (h2 : ∀ c ∈ L.filter isCode, P c = true) : L.all P = true := by
  refine List.all_eq_true.mpr fun c hc => ?_
  have h := List.all_eq_true.mp h1 c hc
  rcases Bool.eq_false_or_eq_true (isCode c) with hi | hi
  · exact h2 c (List.mem_filter.mpr ⟨hc, hi⟩)
  · simpa [hi] using h
set_option maxRecDepth 65536 in
theorem w_c0 : (Jvm.Cond.code x code maxLocals ret).before args0 about1 = true := code_word (m := ⟨1, 1⟩) (meth := k1m1) (c := k1c1) (by decide +kernel) rfl rfl rfl (by decide +kernel)
set_option maxRecDepth 65536 in
theorem w_c1 : (Jvm.Cond.code ({ cls := "java/lang/Math", name := "max", desc := "(JJ)J" } : Jvm.MethodName) jdk_29_method_66_code (4 : Nat) (Option.some Jvm.ClassFile.FieldType.long)).before args0 about1 = true := code_word (m := ⟨2, 1⟩) (meth := k2m1) (c := k2c1) (by decide +kernel) rfl rfl rfl (by decide +kernel)
set_option maxRecDepth 65536 in
theorem w_c2 : (Jvm.Cond.code ({ cls := "com/example/assent/assent/log/CrashSet", name := "<init>", desc := "(JJ[J)V" } : Jvm.MethodName) prog_16_method_1_code (13 : Nat) (Option.none : Option Jvm.ClassFile.FieldType)).before args0 about1 = true := code_word (m := ⟨3, 0⟩) (meth := k3m0) (c := k3c0) (by decide +kernel) rfl rfl rfl (by decide +kernel)
set_option maxRecDepth 65536 in
theorem w_c3 : (Jvm.Cond.code ({ cls := "java/lang/Object", name := "<init>", desc := "()V" } : Jvm.MethodName) object_method_1_code (1 : Nat) (Option.none : Option Jvm.ClassFile.FieldType)).before args0 about1 = true := code_word (m := ⟨0, 0⟩) (meth := k0m0) (c := k0c0) (by decide +kernel) rfl rfl rfl (by decide +kernel)
set_option maxRecDepth 65536 in
theorem w_c4 : (Jvm.Cond.code ({ cls := "com/example/assent/assent/log/CrashSet", name := "contains", desc := "(J)Z" } : Jvm.MethodName) prog_16_method_7_code (3 : Nat) (Option.some Jvm.ClassFile.FieldType.boolean)).before args0 about1 = true := code_word (m := ⟨3, 1⟩) (meth := k3m1) (c := k3c1) (by decide +kernel) rfl rfl rfl (by decide +kernel)
set_option maxRecDepth 65536 in
theorem w_c5 : (Jvm.Cond.code ({ cls := "java/util/Arrays", name := "binarySearch", desc := "([JJ)I" } : Jvm.MethodName) jdk_65_method_54_code (3 : Nat) (Option.some Jvm.ClassFile.FieldType.int)).before args0 about1 = true := code_word (m := ⟨5, 1⟩) (meth := k5m1) (c := k5c1) (by decide +kernel) rfl rfl rfl (by decide +kernel)
set_option maxRecDepth 65536 in
theorem w_c6 : (Jvm.Cond.code ({ cls := "java/util/Arrays", name := "binarySearch0", desc := "([JIIJ)I" } : Jvm.MethodName) jdk_65_method_56_code (10 : Nat) (Option.some Jvm.ClassFile.FieldType.int)).before args0 about1 = true := code_word (m := ⟨5, 2⟩) (meth := k5m2) (c := k5c2) (by decide +kernel) rfl rfl rfl (by decide +kernel)
def codes1 : List Jvm.Cond := [Jvm.Cond.code x code maxLocals ret, Jvm.Cond.code ({ cls := "java/lang/Math", name := "max", desc := "(JJ)J" } : Jvm.MethodName) jdk_29_method_66_code (4 : Nat) (Option.some Jvm.ClassFile.FieldType.long), Jvm.Cond.code ({ cls := "com/example/assent/assent/log/CrashSet", name := "<init>", desc := "(JJ[J)V" } : Jvm.MethodName) prog_16_method_1_code (13 : Nat) (Option.none : Option Jvm.ClassFile.FieldType), Jvm.Cond.code ({ cls := "java/lang/Object", name := "<init>", desc := "()V" } : Jvm.MethodName) object_method_1_code (1 : Nat) (Option.none : Option Jvm.ClassFile.FieldType), Jvm.Cond.code ({ cls := "com/example/assent/assent/log/CrashSet", name := "contains", desc := "(J)Z" } : Jvm.MethodName) prog_16_method_7_code (3 : Nat) (Option.some Jvm.ClassFile.FieldType.boolean), Jvm.Cond.code ({ cls := "java/util/Arrays", name := "binarySearch", desc := "([JJ)I" } : Jvm.MethodName) jdk_65_method_54_code (3 : Nat) (Option.some Jvm.ClassFile.FieldType.int), Jvm.Cond.code ({ cls := "java/util/Arrays", name := "binarySearch0", desc := "([JIIJ)I" } : Jvm.MethodName) jdk_65_method_56_code (10 : Nat) (Option.some Jvm.ClassFile.FieldType.int)]
set_option maxRecDepth 65536 in
theorem codes_eq : words1.filter isCode = codes1 := rfl
theorem w_codes : ∀ c ∈ words1.filter isCode, c.before args0 about1 = true := by
  rw [codes_eq]
  intro c hc
  simp only [codes1, List.mem_cons, List.not_mem_nil, or_false] at hc
  rcases hc with rfl | rfl | rfl | rfl | rfl | rfl | rfl
  · exact w_c0
  · exact w_c1
  · exact w_c2
  · exact w_c3
  · exact w_c4
  · exact w_c5
  · exact w_c6
set_option maxRecDepth 65536 in
theorem w_t1 : (words1.take 24).all (fun c => isCode c || c.before args0 about1) = true := by decide +kernel
set_option maxRecDepth 65536 in
theorem w_t2 : (words1.drop 24).all (fun c => isCode c || c.before args0 about1) = true := by decide +kernel
theorem w_tables : (allAtoms (Jvm.Cond.code x code maxLocals ret :: tables_1)).before args0 about1 = true := by
  rw [allAtoms_all]
  show words1.all (fun c => c.before args0 about1) = true
  refine all_split ?_ w_codes
  rw [← List.take_append_drop 24 words1, List.all_append, w_t1, w_t2]
  rfl
set_option maxRecDepth 65536 in
theorem w_case : (Jvm.Cond.and given_1 narrow_1).before args0 about1 = true := by decide +kernel
theorem w_applies : (headSpec (Jvm.Cond.code x code maxLocals ret :: tables_1) room_1).applies x e0.platform about1 = true :=
  (Spec.applies_iff w_frames).mpr ⟨w_running, w_runnable, w_alone, w_named, w_hears, w_ripe, w_room, w_tables⟩
theorem atStart : AtStart classFile x code maxLocals ret World_1 tables_1 room_1 Calls_1 rest_1 Pre_1 launch0 p0 e0 about1 theMethod args0 below0 :=
  ⟨lists_1, trivial, launch0.admits_env _ _ _, launch0.least_env, fairChoices_fair.cas, fairChoices_fair.clock, w_frames, w_args, w_heap, w_applies, trivial, trivial, w_case⟩
end start1
theorem witness_1 : WitnessClaimed_1 := ⟨start1.p0, start1.e0, start1.about1, start1.theMethod, start1.args0, start1.below0, start1.atStart⟩
end Jvm.Pilot.@@N@@
