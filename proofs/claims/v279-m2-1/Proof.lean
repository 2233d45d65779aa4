import JvmDerived
import JvmDerived.Pilot.@@N@@Statement
import JvmDerived.Pilot.@@N@@Code
set_option linter.unusedVariables false
set_option linter.unusedSimpArgs false
namespace Jvm.RoadKit
section OwnHeaps
variable {h h' h2 hm : Heap} {ws : List Addr}
theorem Ext.oRefl (h : Heap) : Ext h h := ⟨Nat.le_refl _, fun _ _ q => q⟩
theorem Ext.oTrans (A : Ext h h') (B : Ext h' h2) : Ext h h2 := ⟨Nat.le_trans A.1 B.1, fun x c q => B.2 x c (A.2 x c q)⟩
theorem Keep.oExt (K : Keep h h' []) : Ext h h' := ⟨K.1, fun x c q => K.2.1 x c q (fun z => nomatch z)⟩
theorem Ext.oKeepOf (E : Ext h h') (ws : List Addr) : Keep h h' ws := (Keep.refl h ws).ext E
theorem Ext.oKeep (A : Ext hm h) (K : Keep h h' ws) (q : ∀ x ∈ ws, hm.size ≤ x) : Ext hm h' :=
  ⟨Nat.le_trans A.1 K.1, fun x c hx => K.2.1 x c (A.2 x c hx) fun z => absurd (Array.getElem?_eq_some_iff.mp hx).1 (Nat.not_lt.mpr (q x z))⟩
end OwnHeaps
end Jvm.RoadKit
namespace Jvm.OwnKit
open Sem ClassFile Op Lib Jvm.Stand Jvm.Free Jvm.LawKit Jvm.RoadKit Bundle
/-! the author's own layer: a walk as a chain of goals 'from this frame the body ends right' -/
/-- from this frame on the body comes to an end of which Q holds -/
def Goes (tb : Tables) (e : Env) (below : List Frame) (Q : Outcome → State → Prop) (T : State) (g : JFrame) : Prop :=
  ∃ s₂ o, Steps tb e below (T.setTop g) s₂ ∧ s₂.status = .running ∧ Ended s₂ below o ∧ Q o s₂
section Core
variable {tb : Tables} {e : Env} {below : List Frame} {Q : Outcome → State → Prop} {T T' : State} {g g' : JFrame}
theorem Goes.go (st : ∀ t, Steps tb e below (T'.setTop g') t → Steps tb e below (T.setTop g) t) (k : Goes tb e below Q T' g') : Goes tb e below Q T g := by
  obtain ⟨s₂, o, h1, h2⟩ := k
  exact ⟨s₂, o, st _ h1, h2⟩
theorem Goes.via (st : Steps tb e below (T.setTop g) (T'.setTop g')) (k : Goes tb e below Q T' g') : Goes tb e below Q T g := Goes.go (fun _ h => st.trans h) k
theorem Goes.cast {g1 : JFrame} (q : g = g1) (k : Goes tb e below Q T g1) : Goes tb e below Q T g := q ▸ k
end Core
/-! heaps -/
section Heaps
variable {Z : State} {EL : List (String × Nat)} {vm vm0 : Vm} {h h' h0 h2 hm : Heap} {ws : List Addr} {a b : Addr}
/-- safe under whatever alike tables -/
def SafeA (Z : State) (EL : List (String × Nat)) (h : Heap) (x : Addr) : Prop := ∀ vm : Vm, Z.vm.Alike vm → Safe Z EL vm h x
theorem SafeA.exa {C : String} (E : Exa Z h a C) (h1 : C ≠ "java/lang/String") (h2 : C ≠ "[B") : SafeA Z EL h a := fun _ hal => Safe.exa hal E h1 h2
theorem SafeA.arv {k : ClassId} {ty : FieldType} {z : Int32} {vs : List Value} {dv : Value} (A : Arv Z h a k ty z vs dv) (ht : ty ≠ .byte) : SafeA Z EL h a := fun _ hal => Safe.arv hal A ht
theorem SafeA.nil : SafeA Z [] h a := fun _ _ B => by obtain ⟨p, hp, -⟩ := B; cases hp
/-- how the mark goes on: it stays where only younger cells were written; or it is set anew, where what was written is younger or safe -/
def Mark (Z : State) (EL : List (String × Nat)) (hm h : Heap) (ws : List Addr) (h' hm' : Heap) : Prop :=
  (hm' = hm ∧ ∀ x ∈ ws, hm.size ≤ x) ∨ (hm' = h' ∧ ∀ x ∈ ws, hm.size ≤ x ∨ SafeA Z EL h x)
theorem Mark.stay (q : ∀ x ∈ ws, hm.size ≤ x) : Mark Z EL hm h ws h' hm := Or.inl ⟨rfl, q⟩
theorem Mark.anew (q : ∀ x ∈ ws, hm.size ≤ x ∨ SafeA Z EL h x) : Mark Z EL hm h ws h' h' := Or.inr ⟨rfl, q⟩
theorem mark_go {vs : Vm} {hs hm' : Heap} (hal : Z.vm.Alike vm0) (C : CHr Z EL vs hs vm0 hm) (E : Ext hm h) (K : Keep h h' ws) (M : Mark Z EL hm h ws h' hm') : CHr Z EL vs hs vm0 hm' ∧ Ext hm' h' := by
  rcases M with ⟨rfl, q⟩ | ⟨rfl, q⟩
  · exact ⟨C, E.oKeep K q⟩
  · have C1 := C.trans (CHr.ext E C.1)
    exact ⟨C1.trans (CHr.keep K (fun x hx => (q x hx).elim (fun y => Safe.ext E C.1 (Safe.new y)) (fun y => y _ hal)) C1.1), Ext.oRefl _⟩
end Heaps
/-! the walk -/
/-- where a walk stands: N: it may not have interned; hm: the mark (literals that the tables book lie in it); h: the heap -/
def Wk (N : Prop) (p : Program) (l : Launch) (e : Env) (R : Room) (s : State) (m : MethodId) (args : Array Value) (below : List Frame) (meth : Method) (c : Code) (Z : State) (own : String) (EL : List (String × Nat)) (hm : Heap) (T : State) (h : Heap) (cells slots : Nat) : Prop :=
  ∃ (vm0 : Vm) (locs : List Loc) (k0 : Nat), (N → vm0 = s.vm) ∧ Stand p l e R (s.setVm vm0) m args below meth c T locs cells slots ∧ T.heap = h ∧ p.tables.exec = Jvm.exec ∧ Z.Warmed39 vm0 ∧ vm0.findClass own = some m.cls ∧ Fr Z.heap.size locs ∧ s.Since vm0 k0 ∧ k0 ≤ h.size ∧ CHr Z EL s.vm s.heap vm0 hm ∧ Ext hm h ∧ Ext Z.heap h
/-- the two kinds of end -/
def EndN (Z s : State) (C S : Nat) (Qv : Option Value → Heap → Prop) (o : Outcome) (U : State) : Prop := ∃ v L, o = .returned v ∧ (Qv v U.heap ∧ Fr Z.heap.size L) ∧ FrameEnd s o U L C S
def EndS (Z s : State) (EL : List (String × Nat)) (C S : Nat) (Qv : Option Value → Heap → Prop) (o : Outcome) (U : State) : Prop := ∃ v L, o = .returned v ∧ (Qv v U.heap ∧ Fr Z.heap.size L) ∧ CHr Z EL s.vm s.heap U.vm U.heap ∧ ReturnedEndW s o U L C S
/-- a callee's contract: it interns nothing -/
def CtrN (l : Launch) (Z : State) (y : MethodName) (bytes : ByteArray) (maxL : Nat) (ret : Option FieldType) (rm : Room) (as' : Array Value) (h0 : Heap) (Qv : Option Value → Heap → Prop) : Prop :=
  ∀ ws, MetFree l y (head1 (Cond.code y bytes maxL ret :: ws) rm) (fun a U => a = as' ∧ Z.Warmed39 U.vm ∧ U.heap = h0) (fun _ _ _ _ _ => True) (fun _ U o U' => EndN Z U rm.cells rm.slots Qv o U')
/-- a callee's contract: it may intern -/
def CtrS (l : Launch) (Z : State) (EL : List (String × Nat)) (y : MethodName) (bytes : ByteArray) (maxL : Nat) (ret : Option FieldType) (rm : Room) (as' : Array Value) (h0 : Heap) (Qv : Option Value → Heap → Prop) : Prop :=
  ∀ ws, MetFree l y (head1 (Cond.code y bytes maxL ret :: ws) rm) (fun a U => a = as' ∧ Z.Warmed39 U.vm ∧ U.heap = h0 ∧ CHv Z EL U.vm h0) (fun _ _ _ _ _ => True) (fun _ U o U' => EndS Z U EL rm.cells rm.slots Qv o U')
section Walk
variable {N : Prop} {p : Program} {l : Launch} {e : Env} {R : Room} {s : State} {m : MethodId} {args : Array Value} {below : List Frame} {meth : Method} {c : Code} {Z : State} {a0 : Array Value} {own : String} {EL : List (String × Nat)} {hm : Heap} {T : State} {h : Heap} {cells slots : Nat} {Q : Outcome → State → Prop} {g : JFrame}
theorem Wk.here (X : Wk N p l e R s m args below meth c Z own EL hm T h cells slots) : At T m c below := by obtain ⟨_, _, _, _, X, _⟩ := X; exact X.here
theorem Wk.ex (X : Wk N p l e R s m args below meth c Z own EL hm T h cells slots) : p.tables.exec = Jvm.exec := by obtain ⟨_, _, _, _, _, _, q, _⟩ := X; exact q
theorem Wk.ext (X : Wk N p l e R s m args below meth c Z own EL hm T h cells slots) : Ext hm h := by obtain ⟨_, _, _, _, _, _, _, _, _, _, _, _, _, q, _⟩ := X; exact q
theorem Wk.old (X : Wk N p l e R s m args below meth c Z own EL hm T h cells slots) : Ext Z.heap h := by obtain ⟨_, _, _, _, _, _, _, _, _, _, _, _, _, _, q⟩ := X; exact q
theorem Wk.free (X : Wk N p l e R s m args below meth c Z own EL hm T h cells slots) : Wk False p l e R s m args below meth c Z own EL hm T h cells slots := by
  obtain ⟨vm0, locs, k0, _, r⟩ := X; exact ⟨vm0, locs, k0, fun q => q.elim, r⟩
/-- the mark may be set anew at any time -/
theorem Wk.mark (X : Wk N p l e R s m args below meth c Z own EL hm T h cells slots) : Wk N p l e R s m args below meth c Z own EL h T h cells slots := by
  obtain ⟨vm0, locs, k0, h1, h2, h3, h4, h5, h6, h7, h8, h9, h10, h11, h12⟩ := X
  exact ⟨vm0, locs, k0, h1, h2, h3, h4, h5, h6, h7, h8, h9, h10.trans (CHr.ext h11 h10.1), Ext.oRefl _, h12⟩
theorem Wk.mono {c' n' : Nat} (X : Wk N p l e R s m args below meth c Z own EL hm T h cells slots) (hc : cells ≤ c') (hn : slots ≤ n') : Wk N p l e R s m args below meth c Z own EL hm T h c' n' := by
  obtain ⟨vm0, locs, k0, h1, h2, r⟩ := X
  exact ⟨vm0, locs, k0, h1, h2.mono hc hn, r⟩
theorem Wk.start {s₁ : State} {h0 : Heap} (X : Stand p l e R s m args below meth c s₁ [] 0 0) (e0 : s₁.heap = h0) (es : s.heap = h0) (hx : p.tables.exec = Jvm.exec) (hZ : Z.Warmed39 s.vm) (hown : s.vm.findClass own = some m.cls) (H : CHv Z EL s.vm h0) (hO : Ext Z.heap h0) :
    Wk N p l e R s m args below meth c Z own EL h0 s₁ h0 0 0 :=
  ⟨s.vm, [], s.heap.size, fun _ => rfl, X, e0, hx, hZ, hown, Fr.nil _, (State.WarmedH.refl s).since _, by rw [es]; exact Nat.le_refl _, by rw [es]; exact CHr.refl H, Ext.oRefl _, hO⟩
/-! leaving -/
theorem Goes.outN {C S : Nat} {Qv : Option Value → Heap → Prop} (X : Wk True p l e R s m args below meth c Z own EL hm T h cells slots) {v : Option Value} (hv : meth.sig.returnType = none → v = none) (hlk : meth.locks = false)
    (st : ∀ fs, (∀ (f : JFrame) (acts : List Action), f.method = m → f.locked = none → f.entered = [] → (doReturn e (T.setTop f) acts v).1 = T.setFrames fs) → Steps p.tables e below (T.setTop g) (T.setFrames fs))
    (hq : Qv v h) (hc : cells ≤ C) (hs : slots ≤ S) : Goes p.tables e below (EndN Z s C S Qv) T g := by
  obtain ⟨vm0, locs, k0, h1, X, h3, h4, h5, h6, h7, h8, h9, h10, h11, h12⟩ := X
  obtain rfl := h1 trivial
  obtain ⟨fs, hr, hrun, hended, hW, hsame⟩ := X.leave (v := v) hv hlk
  exact ⟨_, _, st fs hr, hrun, hended, v, locs, rfl, ⟨by rw [← h3] at hq; exact hq, h7⟩, ⟨v, rfl⟩, hW, hsame.mono hc hs⟩
theorem Goes.outS {C S : Nat} {Qv : Option Value → Heap → Prop} (X : Wk N p l e R s m args below meth c Z own EL hm T h cells slots) (hEL : EW Z a0 EL) {v : Option Value} (hv : meth.sig.returnType = none → v = none) (hlk : meth.locks = false)
    (st : ∀ fs, (∀ (f : JFrame) (acts : List Action), f.method = m → f.locked = none → f.entered = [] → (doReturn e (T.setTop f) acts v).1 = T.setFrames fs) → Steps p.tables e below (T.setTop g) (T.setFrames fs))
    (hq : Qv v h) (hc : cells ≤ C) (hs : slots ≤ S) : Goes p.tables e below (EndS Z s EL C S Qv) T g := by
  obtain ⟨vm0, locs, k0, h1, X, h3, h4, h5, h6, h7, h8, h9, h10, h11, h12⟩ := X
  have h9' : k0 ≤ T.heap.size := by rw [h3]; exact h9
  obtain ⟨fs, hr, hrun, hended, r1, r2, r3, r4⟩ := X.leaveW h8 h9' (v := v) hv hlk
  have C1 := h10.trans (CHr.ext h11 h10.1)
  have C2 : CHr Z EL vm0 h T.vm h := CHv.at X h5 hEL C1.1
  refine ⟨_, _, st fs hr, hrun, hended, v, locs, rfl, ⟨by rw [← h3] at hq; exact hq, h7⟩, ?_, r1, r2, r3, r4.mono hc hs⟩
  have C3 := C1.trans C2
  rw [← h3] at C3
  exact C3
/-- the six returns; t: what is owed at the end (EndN or EndS) by outN, outS -/
theorem st_int {vm0 : Vm} {locs : List Loc} (X : Stand p l e R (s.setVm vm0) m args below meth c T locs cells slots) (hx : p.tables.exec = Jvm.exec) {pc : Nat} {Ls : Array Slot} {z : Int32} {rest : List Value} (hret : meth.sig.returnType = some .int) (hd : decode c.code pc = .ok (.ireturn, 1)) :
    ∀ fs, (∀ (f : JFrame) (acts : List Action), f.method = m → f.locked = none → f.entered = [] → (doReturn e (T.setTop f) acts (some (.int z))).1 = T.setFrames fs) → Steps p.tables e below (T.setTop (mkF m pc Ls (.int z :: rest))) (T.setFrames fs) :=
  fun fs hl => retOut X hx hret rfl (Or.inl ⟨rfl, Or.inl rfl, z, rfl⟩) hd hl
theorem Wk.rI (X : Wk N p l e R s m args below meth c Z own EL hm T h cells slots) {pc : Nat} {Ls : Array Slot} {z : Int32} {rest : List Value} (hret : meth.sig.returnType = some .int) (hd : decode c.code pc = .ok (.ireturn, 1)) :
    ∀ fs, (∀ (f : JFrame) (acts : List Action), f.method = m → f.locked = none → f.entered = [] → (doReturn e (T.setTop f) acts (some (.int z))).1 = T.setFrames fs) → Steps p.tables e below (T.setTop (mkF m pc Ls (.int z :: rest))) (T.setFrames fs) := by
  obtain ⟨vm0, locs, k0, h1, X', h3, h4, r⟩ := X
  exact fun fs hl => retOut X' h4 hret rfl (Or.inl ⟨rfl, Or.inl rfl, z, rfl⟩) hd hl
theorem Wk.rB (X : Wk N p l e R s m args below meth c Z own EL hm T h cells slots) {t : FieldType} {pc : Nat} {Ls : Array Slot} {z : Int32} {rest : List Value} (hret : meth.sig.returnType = some t) (ht : t = .boolean ∨ t = .byte ∨ t = .char ∨ t = .short) (hd : decode c.code pc = .ok (.ireturn, 1)) :
    ∀ fs, (∀ (f : JFrame) (acts : List Action), f.method = m → f.locked = none → f.entered = [] → (doReturn e (T.setTop f) acts (some (.int (nar t z)))).1 = T.setFrames fs) → Steps p.tables e below (T.setTop (mkF m pc Ls (.int z :: rest))) (T.setFrames fs) := by
  obtain ⟨vm0, locs, k0, h1, X', h3, h4, r⟩ := X
  exact fun fs hl => retN X' h4 hret ht hd hl
theorem Wk.rJ (X : Wk N p l e R s m args below meth c Z own EL hm T h cells slots) {pc : Nat} {Ls : Array Slot} {z : Int64} {rest : List Value} (hret : meth.sig.returnType = some .long) (hd : decode c.code pc = .ok (.lreturn, 1)) :
    ∀ fs, (∀ (f : JFrame) (acts : List Action), f.method = m → f.locked = none → f.entered = [] → (doReturn e (T.setTop f) acts (some (.long z))).1 = T.setFrames fs) → Steps p.tables e below (T.setTop (mkF m pc Ls (.long z :: rest))) (T.setFrames fs) := by
  obtain ⟨vm0, locs, k0, h1, X', h3, h4, r⟩ := X
  exact fun fs hl => retOut X' h4 hret rfl (Or.inr (Or.inl ⟨rfl, rfl, z, rfl⟩)) hd hl
theorem Wk.rA (X : Wk N p l e R s m args below meth c Z own EL hm T h cells slots) {t : FieldType} {pc : Nat} {Ls : Array Slot} {w : Value} {rest : List Value} (hret : meth.sig.returnType = some t) (ht : t.isReference = true) (hw : w.isRef = true) (hd : decode c.code pc = .ok (.areturn, 1)) :
    ∀ fs, (∀ (f : JFrame) (acts : List Action), f.method = m → f.locked = none → f.entered = [] → (doReturn e (T.setTop f) acts (some w)).1 = T.setFrames fs) → Steps p.tables e below (T.setTop (mkF m pc Ls (w :: rest))) (T.setFrames fs) := by
  obtain ⟨vm0, locs, k0, h1, X', h3, h4, r⟩ := X
  have hn : narrow t w = w := by
    rcases ref_cases hw with rfl | ⟨_, rfl⟩ <;> cases t <;> first | rfl | exact absurd ht (by decide)
  exact fun fs hl => retOut X' h4 hret hn (Or.inr (Or.inr (Or.inr (Or.inr ⟨rfl, ht, hw⟩)))) hd hl
theorem Wk.rV (X : Wk N p l e R s m args below meth c Z own EL hm T h cells slots) {pc : Nat} {Ls : Array Slot} (hret : meth.sig.returnType = none) (hd : decode c.code pc = .ok (.return_, 1)) :
    ∀ fs, (∀ (f : JFrame) (acts : List Action), f.method = m → f.locked = none → f.entered = [] → (doReturn e (T.setTop f) acts none).1 = T.setFrames fs) → Steps p.tables e below (T.setTop (mkF m pc Ls [])) (T.setFrames fs) := by
  obtain ⟨vm0, locs, k0, h1, X', h3, h4, r⟩ := X
  exact fun fs hl => X'.returnOut h4 hret hd hl
/-! steps that move the tables or the heap -/
theorem Wk.getF (X : Wk N p l e R s m args below meth c Z own EL hm T h cells slots) {R0 O n d host : String} {index : Nat} (w : (Cond.fieldLink own index R0 n d).before a0 Z = true ∨ (Cond.fieldLinkNest own index R0 n d host).before a0 Z = true) (via : Via Z R0 O n d) {a : Addr} {v : Value} (F : Fld Z h a O n d v)
    {g : JFrame} (hg : g.method = m) {rest : List Value} (hs : g.stack = .ref a :: rest) (hd : decode c.code g.pc = .ok (.getfield index, 3))
    (k : ∀ T', Wk N p l e R s m args below meth c Z own EL hm T' h cells slots → Goes p.tables e below Q T' { g with pc := g.pc + 3, stack := v :: rest }) : Goes p.tables e below Q T g := by
  obtain ⟨vm0, locs, k0, h1, X', h3, h4, h5, h6, r⟩ := X
  obtain ⟨T', X2, e2, st⟩ := RoadKit.getF (s := s.setVm vm0) X' h4 h5 h6 w via h3 F hg hs hd
  exact Goes.go st (k T' ⟨vm0, locs, k0, h1, X2, e2, h4, h5, h6, r⟩)
theorem Wk.getS (X : Wk N p l e R s m args below meth c Z own EL hm T h cells slots) {R0 O n d host : String} {index : Nat} (w : (Cond.fieldLink own index R0 n d).before a0 Z = true ∨ (Cond.fieldLinkNest own index R0 n d host).before a0 Z = true) (via : Via Z R0 O n d) {v : Value} (F : Sta Z Z.heap O n d v)
    {g : JFrame} (hg : g.method = m) (hd : decode c.code g.pc = .ok (.getstatic index, 3))
    (k : ∀ T', Wk N p l e R s m args below meth c Z own EL hm T' h cells slots → Goes p.tables e below Q T' { g with pc := g.pc + 3, stack := v :: g.stack }) : Goes p.tables e below Q T g := by
  have hOld := X.old
  obtain ⟨vm0, locs, k0, h1, X', h3, h4, h5, h6, r⟩ := X
  obtain ⟨T', X2, e2, st⟩ := getS2 (s := s.setVm vm0) X' h4 h5 h6 w via h3 (F.ext hOld) hg hd
  exact Goes.go st (k T' ⟨vm0, locs, k0, h1, X2, e2, h4, h5, h6, r⟩)
theorem Wk.new (X : Wk N p l e R s m args below meth c Z own EL hm T h cells slots) {C : String} {index n : Nat} (w : (Cond.classLink own index C).before a0 Z = true) (wi : (Cond.instantiable C n).before a0 Z = true) (wz : (Cond.initialized C).before a0 Z = true)
    {g : JFrame} (hg : g.method = m) (hd : decode c.code g.pc = .ok (.new index, 3)) (hc : cells + 1 ≤ R.cells) (hl : slots + n ≤ R.slots)
    (k : ∀ (T' : State) (h' : Heap) (a : Addr), a = h.size → Wk N p l e R s m args below meth c Z own EL hm T' h' (cells + 1) (slots + n) → Ext h h' → Exa Z h' a C → (∀ {O nm d : String} {ty : FieldType}, Laid Z a0 C O nm d → parseFieldDescriptor d = some ty → Fld Z h' a O nm d (defaultValue ty)) →
      Goes p.tables e below Q T' { g with pc := g.pc + 3, stack := .ref a :: g.stack }) : Goes p.tables e below Q T g := by
  obtain ⟨vm0, locs, k0, h1, X', h3, h4, h5, h6, h7, h8, h9, h10, h11, h12⟩ := X
  obtain ⟨T', h', X2, e2, E, A, D, -, st⟩ := newO (s := s.setVm vm0) X' h4 h5 h6 w wi wz h3 hg hd hc hl
  exact Goes.go st (k T' h' _ rfl ⟨vm0, locs, k0, h1, X2, e2, h4, h5, h6, h7, h8, Nat.le_trans h9 E.1, h10, h11.oTrans E, h12.oTrans E⟩ E A D)
theorem Wk.newA (X : Wk N p l e R s m args below meth c Z own EL hm T h cells slots) {aty : ArrayType} (w : (Cond.arrayClass (newarray.typeOf aty)).before a0 Z = true)
    {g : JFrame} (hg : g.method = m) (hd : decode c.code g.pc = .ok (.newarray aty, 2)) {n : Int32} {rest : List Value} (hs : g.stack = .int n :: rest) (hn : ¬ n < 0) {cap : Nat} (hcap : n.toNatClampNeg ≤ cap) (hb : cap * 8 ≤ 536870912) (hc : cells + 1 ≤ R.cells) (hl : slots + cap ≤ R.slots)
    (k : ∀ (T' : State) (h' : Heap) (a : Addr) (kA : ClassId), a = h.size → Wk N p l e R s m args below meth c Z own EL hm T' h' (cells + 1) (slots + cap) → Ext h h' → Arv Z h' a kA (newarray.typeOf aty) n [] (defaultValue (newarray.typeOf aty)) → Exa Z h' a ("[" ++ (newarray.typeOf aty).toString) →
      Goes p.tables e below Q T' { g with pc := g.pc + 2, stack := .ref a :: rest }) : Goes p.tables e below Q T g := by
  obtain ⟨vm0, locs, k0, h1, X', h3, h4, h5, h6, h7, h8, h9, h10, h11, h12⟩ := X
  obtain ⟨T', h', kA, X2, e2, E, A, B, st⟩ := newPE (s := s.setVm vm0) X' h4 h5 w h3 hg hd hs hn hcap hb hc hl rfl
  exact Goes.go st (k T' h' _ kA rfl ⟨vm0, locs, k0, h1, X2, e2, h4, h5, h6, h7, h8, Nat.le_trans h9 E.1, h10, h11.oTrans E, h12.oTrans E⟩ E (Arv.new A hn) B)
theorem own_fitC {a : Addr} {kA : ClassId} {ty : FieldType} {z : Int32} {vs : List Value} {dv : Value} {cl : Cell} (A : Arr Z h a cl ty) (Hh : Has cl vs dv) (G : ∀ i, i < cl.slots.size → fits ty (vs.getD i dv) = true) : FitC Z cl := by
  intro i v hv
  obtain ⟨-, kk, hk, comp, hkind⟩ := A.2.1
  have hi : i < cl.slots.size := (Array.getElem?_eq_some_iff.mp hv).1
  have e := Hh i hi
  rw [hv] at e
  cases e
  have e2 : Z.slotType? cl.cls .none i = some ty := by simp [State.slotType?, hk, hkind]
  simpa [State.fitsSlot, e2] using G i hi
theorem Wk.cloneV (X : Wk N p l e R s m args below meth c Z own EL hm T h cells slots) {ad : String} {index : Nat}
    (w1 : (Cond.methodLink own index ⟨ad, "clone", "()Ljava/lang/Object;"⟩).before a0 Z = true) (w2 : (Cond.sameMethod ad "java/lang/Object" "clone" "()Ljava/lang/Object;").before a0 Z = true) (w3 : (Cond.native ⟨"java/lang/Object", "clone", "()Ljava/lang/Object;"⟩).before a0 Z = true)
    (w4 : (Cond.instanceMethod ⟨"java/lang/Object", "clone", "()Ljava/lang/Object;"⟩).before a0 Z = true) (w5 : (Cond.selects ad ⟨ad, "clone", "()Ljava/lang/Object;"⟩ ⟨"java/lang/Object", "clone", "()Ljava/lang/Object;"⟩).before a0 Z = true) (w6 : (Cond.castable ad "java/lang/Cloneable").before a0 Z = true)
    {a : Addr} {kA : ClassId} {ty : FieldType} {z : Int32} {vs : List Value} {dv : Value} (A : Arv Z h a kA ty z vs dv) (E : Exa Z h a ad) {g : JFrame} (hg : g.method = m) (hsize : g.locals.size = c.maxLocals) {rest : List Value} (hs : g.stack = .ref a :: rest) (hd : decode c.code g.pc = .ok (.invokevirtual index, 3))
    (hf : 1 ≤ R.frames) {W cap : Nat} (hW : 2 * g.monitorRoom + (rest.map fun v => v.category).sum ≤ W) (hl : W + 14 ≤ R.locals) (hcap : z.toNatClampNeg ≤ cap) (hc : cells + 1 ≤ R.cells) (hsl : slots + cap ≤ R.slots)
    (k : ∀ (T' : State) (h' : Heap) (b : Addr), b = h.size → Wk N p l e R s m args below meth c Z own EL hm T' h' (cells + 1) (slots + cap) → Ext h h' → Arv Z h' b kA ty z vs dv → Exa Z h' b ad →
      Goes p.tables e below Q T' { g with pc := g.pc + 3, stack := .ref b :: rest }) : Goes p.tables e below Q T g := by
  obtain ⟨vm0, locs, k0, h1, X', h3, h4, h5, h6, h7, h8, h9, h10, h11, h12⟩ := X
  obtain ⟨cl, Ar, q, Sz, Nn, Hh, G⟩ := A
  obtain ⟨T', h', X2, e2, E2, A2, B2, st⟩ := cloneA (s := s.setVm vm0) X' h4 h5 h6 w1 w2 w3 w4 w5 w6 h3 Ar E (own_fitC (kA := kA) (z := z) Ar Hh G) hg hsize hs hd hf hW hl (cap := cap) (by rw [Sz]; exact hcap) hc hsl
  exact Goes.go st (k T' h' _ rfl ⟨vm0, locs, k0, h1, X2, e2, h4, h5, h6, h7, h8, Nat.le_trans h9 E2.1, h10, h11.oTrans E2, h12.oTrans E2⟩ E2 ⟨_, A2, q, Sz, Nn, Hh, G⟩ B2)
/-- the core of every write of one slot -/
theorem Wk.wrote {vm0 : Vm} {locs : List Loc} {k0 : Nat} {T' : State} {h' hm' : Heap} {a : Addr} {sl : Nat} {v : Value} (h1 : N → vm0 = s.vm) (h4 : p.tables.exec = Jvm.exec) (h5 : Z.Warmed39 vm0) (h6 : vm0.findClass own = some m.cls) (h7 : Fr Z.heap.size locs) (h8 : s.Since vm0 k0) (h9 : k0 ≤ h.size) (h10 : CHr Z EL s.vm s.heap vm0 hm) (h11 : Ext hm h) (h12 : Ext Z.heap h)
    (X2 : Stand p l e R (s.setVm vm0) m args below meth c T' (locs ++ [⟨a, sl⟩]) cells slots) (e2 : T'.heap = h') (W : Wr h h' a sl v) (ga : Z.heap.size ≤ a) (M : Mark Z EL hm h [a] h' hm') : Wk N p l e R s m args below meth c Z own EL hm' T' h' cells slots := by
  have K := Keep.of_wr W
  obtain ⟨C, E⟩ := mark_go h5.alike h10 h11 K M
  exact ⟨vm0, _, k0, h1, X2, e2, h4, h5, h6, Fr.snoc X2 h7 ga, h8, Nat.le_trans h9 K.1, C, E, h12.oKeep K (fun x hx => by cases List.mem_singleton.mp hx; exact ga)⟩
theorem Wk.putF {hm' : Heap → Heap} (X : Wk N p l e R s m args below meth c Z own EL hm T h cells slots) {R0 O n d host C : String} {index kk : Nat} {ty : FieldType} (w : (Cond.fieldLink own index R0 n d).before a0 Z = true ∨ (Cond.fieldLinkNest own index R0 n d host).before a0 Z = true) (via : Via Z R0 O n d)
    {a : Addr} {v old : Value} (F : Fld Z h a O n d old) (E : Exa Z h a C) (L : (Cond.lays C O n d).before a0 Z = true ∨ ((Cond.laysFinal C O n d).before a0 Z = true ∧ own = O ∧ meth.name = "<init>")) (wi : (Cond.instantiable C kk).before a0 Z = true)
    (hty : parseFieldDescriptor d = some ty) (hn : narrow ty v = v) (hf : fits ty v = true) (ga : Z.heap.size ≤ a) (M : ∀ h', Mark Z EL hm h [a] h' (hm' h')) {g : JFrame} (hg : g.method = m) {rest : List Value} (hs : g.stack = v :: .ref a :: rest) (hd : decode c.code g.pc = .ok (.putfield index, 3))
    (k : ∀ (T' : State) (h' : Heap), Wk N p l e R s m args below meth c Z own EL (hm' h') T' h' cells slots → Wr h h' a (Jvm.RoadKit.slotOf Z O n d) v → Goes p.tables e below Q T' { g with pc := g.pc + 3, stack := rest }) : Goes p.tables e below Q T g := by
  obtain ⟨vm0, locs, k0, h1, X', h3, h4, h5, h6, h7, h8, h9, h10, h11, h12⟩ := X
  obtain ⟨T', h', X2, e2, W, st⟩ := RoadKit.putF (s := s.setVm vm0) X' h4 h5 h6 w via h3 F E L wi hty hn hf hg hs hd
  exact Goes.go st (k T' h' (Wk.wrote h1 h4 h5 h6 h7 h8 h9 h10 h11 h12 X2 e2 W ga (M h')) W)
theorem Wk.putFN {hm' : Heap → Heap} (X : Wk N p l e R s m args below meth c Z own EL hm T h cells slots) {R0 O n d C : String} {index kk : Nat} {ty : FieldType} (w : (Cond.fieldLink own index R0 n d).before a0 Z = true) (via : Via Z R0 O n d)
    {a : Addr} {v v' old : Value} (F : Fld Z h a O n d old) (E : Exa Z h a C) (L : (Cond.lays C O n d).before a0 Z = true ∨ ((Cond.laysFinal C O n d).before a0 Z = true ∧ own = O ∧ meth.name = "<init>")) (wi : (Cond.instantiable C kk).before a0 Z = true)
    (hty : parseFieldDescriptor d = some ty) (hn : narrow ty v = v') (hf : fits ty v' = true) (ga : Z.heap.size ≤ a) (M : ∀ h', Mark Z EL hm h [a] h' (hm' h')) {g : JFrame} (hg : g.method = m) {rest : List Value} (hs : g.stack = v :: .ref a :: rest) (hd : decode c.code g.pc = .ok (.putfield index, 3))
    (k : ∀ (T' : State) (h' : Heap), Wk N p l e R s m args below meth c Z own EL (hm' h') T' h' cells slots → Wr h h' a (Jvm.RoadKit.slotOf Z O n d) v' → Goes p.tables e below Q T' { g with pc := g.pc + 3, stack := rest }) : Goes p.tables e below Q T g := by
  obtain ⟨vm0, locs, k0, h1, X', h3, h4, h5, h6, h7, h8, h9, h10, h11, h12⟩ := X
  obtain ⟨T', h', X2, e2, W, st⟩ := RoadKit.putFN (s := s.setVm vm0) X' h4 h5 h6 w via h3 F E L wi hty hn hf hg hs hd
  exact Goes.go st (k T' h' (Wk.wrote h1 h4 h5 h6 h7 h8 h9 h10 h11 h12 X2 e2 W ga (M h')) W)
theorem wr_same {O n d : String} {h' : Heap} {a : Addr} {v : Value} (W : Wr h h' a (Jvm.RoadKit.slotOf Z O n d) v) (F : Fld Z h a O n d v) : h' = h := by
  obtain ⟨cell, h1, -, hlt, rfl⟩ := W
  obtain ⟨c2, cf, k, i, f, g1, g2, -, -, -, -, g7⟩ := F
  cases h1.symm.trans g1
  have es : Jvm.RoadKit.slotOf Z O n d = f.slot := by simp [Jvm.RoadKit.slotOf, g2]
  have e1 : cell.setSlot f.slot v = cell := by
    have e2 : cell.slots.setIfInBounds f.slot v = cell.slots := by
      apply Array.ext_getElem?
      intro j
      by_cases q : f.slot = j
      · subst q
        rw [Array.getElem?_setIfInBounds_self_of_lt (Array.getElem?_eq_some_iff.mp g7).1, g7]
      · rw [Array.getElem?_setIfInBounds_ne q]
    show { cell with slots := cell.slots.setIfInBounds f.slot v } = cell
    rw [e2]
  rw [es, e1]
  apply Array.ext_getElem?
  intro j
  by_cases q : a = j
  · subst q
    rw [Array.getElem?_setIfInBounds_self_of_lt (Array.getElem?_eq_some_iff.mp h1).1, h1]
  · rw [Array.getElem?_setIfInBounds_ne q]
theorem Wk.putFNsame (X : Wk N p l e R s m args below meth c Z own EL hm T h cells slots) {R0 O n d C : String} {index kk : Nat} {ty : FieldType} (w : (Cond.fieldLink own index R0 n d).before a0 Z = true) (via : Via Z R0 O n d)
    {a : Addr} {v v' : Value} (F : Fld Z h a O n d v') (E : Exa Z h a C) (L : (Cond.lays C O n d).before a0 Z = true ∨ ((Cond.laysFinal C O n d).before a0 Z = true ∧ own = O ∧ meth.name = "<init>")) (wi : (Cond.instantiable C kk).before a0 Z = true)
    (hty : parseFieldDescriptor d = some ty) (hn : narrow ty v = v') (hf : fits ty v' = true) (ga : Z.heap.size ≤ a) {g : JFrame} (hg : g.method = m) {rest : List Value} (hs : g.stack = v :: .ref a :: rest) (hd : decode c.code g.pc = .ok (.putfield index, 3))
    (k : ∀ (T' : State), Wk N p l e R s m args below meth c Z own EL hm T' h cells slots → Goes p.tables e below Q T' { g with pc := g.pc + 3, stack := rest }) : Goes p.tables e below Q T g := by
  obtain ⟨vm0, locs, k0, h1, X', h3, h4, h5, h6, h7, h8, h9, h10, h11, h12⟩ := X
  obtain ⟨T', h', X2, e2, W, st⟩ := RoadKit.putFN (s := s.setVm vm0) X' h4 h5 h6 w via h3 F E L wi hty hn hf hg hs hd
  obtain rfl := wr_same W F
  exact Goes.go st (k T' ⟨vm0, _, k0, h1, X2, e2, h4, h5, h6, Fr.snoc X2 h7 ga, h8, h9, h10, h11, h12⟩)
theorem Wk.castore {hm' : Heap → Heap} (X : Wk N p l e R s m args below meth c Z own EL hm T h cells slots) {a : Addr} {kA : ClassId} {z j x : Int32} {vs : List Value} {dv : Value} (A : Arv Z h a kA .char z vs dv) (hj : ¬ j < 0 ∧ j < z) {i : Nat} (hi : j.toNatClampNeg = i) (hl : i < vs.length) (ga : Z.heap.size ≤ a) (M : ∀ h', Mark Z EL hm h [a] h' (hm' h'))
    {g : JFrame} (hg : g.method = m) {rest : List Value} (hs : g.stack = .int x :: .int j :: .ref a :: rest) (hd : decode c.code g.pc = .ok (.castore, 1))
    (k : ∀ (T' : State) (h' : Heap), Wk N p l e R s m args below meth c Z own EL (hm' h') T' h' cells slots → Wr h h' a j.toNatClampNeg (.int (nar .char x)) → Arv Z h' a kA .char z (vs.set i (.int (nar .char x))) dv → Goes p.tables e below Q T' { g with pc := g.pc + 1, stack := rest }) : Goes p.tables e below Q T g := by
  obtain ⟨vm0, locs, k0, h1, X', h3, h4, h5, h6, h7, h8, h9, h10, h11, h12⟩ := X
  obtain ⟨cl, Ar, q, Sz, Nn, Hh, G⟩ := A
  obtain ⟨T', h', X2, e2, W, st⟩ := stC (s := s.setVm vm0) X' h4 h5 h3 Ar (j := j) (inb_of Sz hj) hg hs hd
  exact Goes.go st (k T' h' (Wk.wrote h1 h4 h5 h6 h7 h8 h9 h10 h11 h12 X2 e2 W ga (M h')) W (Arv.set Ar q Sz Nn Hh G (fits_nar_char _) W i hi hl))
theorem Wk.lastore {hm' : Heap → Heap} (X : Wk N p l e R s m args below meth c Z own EL hm T h cells slots) {a : Addr} {kA : ClassId} {z j : Int32} {x : Int64} {vs : List Value} {dv : Value} (A : Arv Z h a kA .long z vs dv) (hj : ¬ j < 0 ∧ j < z) {i : Nat} (hi : j.toNatClampNeg = i) (hl : i < vs.length) (ga : Z.heap.size ≤ a) (M : ∀ h', Mark Z EL hm h [a] h' (hm' h'))
    {g : JFrame} (hg : g.method = m) {rest : List Value} (hs : g.stack = .long x :: .int j :: .ref a :: rest) (hd : decode c.code g.pc = .ok (.lastore, 1))
    (k : ∀ (T' : State) (h' : Heap), Wk N p l e R s m args below meth c Z own EL (hm' h') T' h' cells slots → Wr h h' a j.toNatClampNeg (.long x) → Arv Z h' a kA .long z (vs.set i (.long x)) dv → Goes p.tables e below Q T' { g with pc := g.pc + 1, stack := rest }) : Goes p.tables e below Q T g := by
  obtain ⟨vm0, locs, k0, h1, X', h3, h4, h5, h6, h7, h8, h9, h10, h11, h12⟩ := X
  obtain ⟨cl, Ar, q, Sz, Nn, Hh, G⟩ := A
  obtain ⟨T', h', X2, e2, W, st⟩ := stJ (s := s.setVm vm0) X' h4 h5 h3 Ar (j := j) (inb_of Sz hj) hg hs hd
  exact Goes.go st (k T' h' (Wk.wrote h1 h4 h5 h6 h7 h8 h9 h10 h11 h12 X2 e2 W ga (M h')) W (Arv.set Ar q Sz Nn Hh G rfl W i hi hl))
theorem Wk.bastore {hm' : Heap → Heap} (X : Wk N p l e R s m args below meth c Z own EL hm T h cells slots) {a : Addr} {kA : ClassId} {z j x : Int32} {vs : List Value} {dv : Value} (A : Arv Z h a kA .byte z vs dv) (hj : ¬ j < 0 ∧ j < z) {i : Nat} (hi : j.toNatClampNeg = i) (hl : i < vs.length) (ga : Z.heap.size ≤ a) (M : ∀ h', Mark Z EL hm h [a] h' (hm' h'))
    {g : JFrame} (hg : g.method = m) {rest : List Value} (hs : g.stack = .int x :: .int j :: .ref a :: rest) (hd : decode c.code g.pc = .ok (.bastore, 1))
    (k : ∀ (T' : State) (h' : Heap), Wk N p l e R s m args below meth c Z own EL (hm' h') T' h' cells slots → Wr h h' a j.toNatClampNeg (.int (nar .byte x)) → Arv Z h' a kA .byte z (vs.set i (.int (nar .byte x))) dv → Goes p.tables e below Q T' { g with pc := g.pc + 1, stack := rest }) : Goes p.tables e below Q T g := by
  obtain ⟨vm0, locs, k0, h1, X', h3, h4, h5, h6, h7, h8, h9, h10, h11, h12⟩ := X
  obtain ⟨cl, Ar, q, Sz, Nn, Hh, G⟩ := A
  obtain ⟨T', h', X2, e2, W, st⟩ := stB (s := s.setVm vm0) X' h4 h5 h3 Ar (j := j) (inb_of Sz hj) hg hs hd
  exact Goes.go st (k T' h' (Wk.wrote h1 h4 h5 h6 h7 h8 h9 h10 h11 h12 X2 e2 W ga (M h')) W (Arv.set Ar q Sz Nn Hh G (fits_nar_byte _) W i hi hl))
/-! loads out of arrays, lengths -/
theorem Wk.caload (X : Wk N p l e R s m args below meth c Z own EL hm T h cells slots) {a : Addr} {kA : ClassId} {z j : Int32} {vs : List Value} {dv v : Value} (A : Arv Z h a kA .char z vs dv) (hj : ¬ j < 0 ∧ j < z) (hv : vs.getD j.toNatClampNeg dv = v)
    {g : JFrame} (hg : g.method = m) {rest : List Value} (hs : g.stack = .int j :: .ref a :: rest) (hd : decode c.code g.pc = .ok (.caload, 1)) : ∀ t, Steps p.tables e below (T.setTop { g with pc := g.pc + 1, stack := v :: rest }) t → Steps p.tables e below (T.setTop g) t := by
  obtain ⟨vm0, locs, k0, h1, X', h3, h4, h5, r⟩ := X
  obtain ⟨cl, Ar, q, Sz, Nn, Hh, G⟩ := A
  intro t k
  exact X'.caload h4 (j := j) (v := v) (by rw [h3]; exact Ar.1) (State.isArrayOf_alike h5.alike Ar.2.1) Ar.2.2 (inb_of Sz hj) (Hh.at (inb_of Sz hj) hv) hg hs hd t k
theorem Wk.laload (X : Wk N p l e R s m args below meth c Z own EL hm T h cells slots) {a : Addr} {kA : ClassId} {z j : Int32} {vs : List Value} {dv v : Value} (A : Arv Z h a kA .long z vs dv) (hj : ¬ j < 0 ∧ j < z) (hv : vs.getD j.toNatClampNeg dv = v)
    {g : JFrame} (hg : g.method = m) {rest : List Value} (hs : g.stack = .int j :: .ref a :: rest) (hd : decode c.code g.pc = .ok (.laload, 1)) : ∀ t, Steps p.tables e below (T.setTop { g with pc := g.pc + 1, stack := v :: rest }) t → Steps p.tables e below (T.setTop g) t := by
  obtain ⟨vm0, locs, k0, h1, X', h3, h4, h5, r⟩ := X
  obtain ⟨cl, Ar, q, Sz, Nn, Hh, G⟩ := A
  intro t k
  exact X'.laload h4 (j := j) (v := v) (by rw [h3]; exact Ar.1) (State.isArrayOf_alike h5.alike Ar.2.1) Ar.2.2 (inb_of Sz hj) (Hh.at (inb_of Sz hj) hv) hg hs hd t k
theorem Wk.baload (X : Wk N p l e R s m args below meth c Z own EL hm T h cells slots) {a : Addr} {kA : ClassId} {z j : Int32} {vs : List Value} {dv v : Value} (A : Arv Z h a kA .byte z vs dv) (hj : ¬ j < 0 ∧ j < z) (hv : vs.getD j.toNatClampNeg dv = v)
    {g : JFrame} (hg : g.method = m) {rest : List Value} (hs : g.stack = .int j :: .ref a :: rest) (hd : decode c.code g.pc = .ok (.baload, 1)) : ∀ t, Steps p.tables e below (T.setTop { g with pc := g.pc + 1, stack := v :: rest }) t → Steps p.tables e below (T.setTop g) t := by
  obtain ⟨vm0, locs, k0, h1, X', h3, h4, h5, r⟩ := X
  obtain ⟨cl, Ar, q, Sz, Nn, Hh, G⟩ := A
  intro t k
  exact X'.baloadBytes h4 (j := j) (v := v) (by rw [h3]; exact Ar.1) (State.isArrayOf_alike h5.alike Ar.2.1) Ar.2.2 (inb_of Sz hj) (Hh.at (inb_of Sz hj) hv) hg hs hd t k
theorem Wk.alen (X : Wk N p l e R s m args below meth c Z own EL hm T h cells slots) {a : Addr} {kA : ClassId} {ty : FieldType} {z : Int32} {vs : List Value} {dv : Value} (A : Arv Z h a kA ty z vs dv)
    {g : JFrame} (hg : g.method = m) {rest : List Value} (hs : g.stack = .ref a :: rest) (hd : decode c.code g.pc = .ok (.arraylength, 1)) : ∀ t, Steps p.tables e below (T.setTop { g with pc := g.pc + 1, stack := .int z :: rest }) t → Steps p.tables e below (T.setTop g) t := by
  obtain ⟨vm0, locs, k0, h1, X', h3, h4, h5, r⟩ := X
  obtain ⟨cl, Ar, q, Sz, Nn, Hh, G⟩ := A
  intro t k
  rw [← len_of Sz Nn] at k
  exact X'.arraylength h4 (by rw [h3]; exact Ar.1) (State.isArrayOf_alike h5.alike Ar.2.1) hg hs hd t k
theorem Wk.acopy {hm' : Heap → Heap} (X : Wk N p l e R s m args below meth c Z own EL hm T h cells slots) {index : Nat}
    (w1 : (Cond.methodLink own index Jvm.Stand.acN).before a0 Z = true) (w2 : (Cond.native Jvm.Stand.acN).before a0 Z = true) (w3 : (Cond.static Jvm.Stand.acN).before a0 Z = true) (w4 : (Cond.initialized "java/lang/System").before a0 Z = true)
    {a b : Addr} {k' kA : ClassId} {ty ty' : FieldType} {z z' sp dp nn : Int32} {vs vd us : List Value} {dv dd : Value} (A : Arv Z h a kA ty z vs dv) (B : Arv Z h b k' ty' z' vd dd) (hty : ty = ty' ∧ refKind ty = false)
    (h1 : ¬ sp < 0) (h2 : ¬ dp < 0) (h3 : ¬ nn < 0) (h4 : sp.toNatClampNeg + nn.toNatClampNeg ≤ z.toNatClampNeg) (h5 : dp.toNatClampNeg + nn.toNatClampNeg ≤ z'.toNatClampNeg)
    (hus : us = (List.range nn.toNatClampNeg).map fun i => vs.getD (sp.toNatClampNeg + i) dv) (hl : dp.toNatClampNeg + nn.toNatClampNeg ≤ vd.length) (gb : Z.heap.size ≤ b) (M : ∀ h', Mark Z EL hm h [b] h' (hm' h'))
    {g : JFrame} (hg : g.method = m) (hsize : g.locals.size = c.maxLocals) {rest : List Value} (hs : g.stack = .int nn :: .int dp :: .ref b :: .int sp :: .ref a :: rest) (hd : decode c.code g.pc = .ok (.invokestatic index, 3))
    (hf : 1 ≤ R.frames) {W : Nat} (hW : 2 * g.monitorRoom + (rest.map fun v => v.category).sum ≤ W) (hlo : W + (nativeFrameWords "java/lang/System" "arraycopy" 5 + 11) ≤ R.locals)
    (k : ∀ (T' : State) (h' : Heap), Wk N p l e R s m args below meth c Z own EL (hm' h') T' h' cells slots → Keep h h' [b] → Arv Z h' b k' ty' z' (vd.take dp.toNatClampNeg ++ us ++ vd.drop (dp.toNatClampNeg + nn.toNatClampNeg)) dd → Goes p.tables e below Q T' { g with pc := g.pc + 3, stack := rest }) : Goes p.tables e below Q T g := by
  obtain ⟨vm0, locs, k0, x1, X', x3, x4, x5, x6, x7, x8, x9, x10, x11, x12⟩ := X
  obtain ⟨T', h', L, X2, e2, FL, K, A2, st⟩ := cpA (s := s.setVm vm0) X' x4 x5 x6 w1 w2 w3 w4 x3 A B (Or.inl hty) h1 h2 h3 h4 h5 hus hl x7 gb hg hsize hs hd hf hW hlo
  obtain ⟨C, E⟩ := mark_go x5.alike x10 x11 K (M h')
  exact Goes.go st (k T' h' ⟨vm0, L, k0, x1, X2, e2, x4, x5, x6, FL, x8, Nat.le_trans x9 K.1, C, E, x12.oKeep K (fun x hx => by cases List.mem_singleton.mp hx; exact gb)⟩ K A2)
theorem Wk.ldcI (X : Wk N p l e R s m args below meth c Z own EL hm T h cells slots) {index : Nat} {v : Int32} (w : (Cond.constant own index v).before a0 Z = true) {g : JFrame} (hg : g.method = m) (hd : decode c.code g.pc = .ok (.ldc index, 2)) : ∀ t, Steps p.tables e below (T.setTop { g with pc := g.pc + 2, stack := .int v :: g.stack }) t → Steps p.tables e below (T.setTop g) t := by
  obtain ⟨vm0, locs, k0, h1, X', h3, h4, h5, h6, r⟩ := X
  exact X'.ldcInt h4 h6 (mv (s := s.setVm vm0) h5 w) hg hd
theorem Wk.ldcL (X : Wk N p l e R s m args below meth c Z own EL hm T h cells slots) {index : Nat} {v : Int64} (w : (Cond.constantLong own index v).before a0 Z = true) {g : JFrame} (hg : g.method = m) (hd : decode c.code g.pc = .ok (.ldc2_w index, 3)) : ∀ t, Steps p.tables e below (T.setTop { g with pc := g.pc + 3, stack := .long v :: g.stack }) t → Steps p.tables e below (T.setTop g) t := by
  obtain ⟨vm0, locs, k0, h1, X', h3, h4, h5, h6, r⟩ := X
  exact X'.ldc2Long h4 h6 (mv (s := s.setVm vm0) h5 w) hg hd
theorem Wk.castY (X : Wk N p l e R s m args below meth c Z own EL hm T h cells slots) {K : String} {index : Nat} (w : (Cond.classLink own index K).before a0 Z = true) {a : Addr} (F : Ins Z h a K true) {g : JFrame} (hg : g.method = m) {rest : List Value} (hs : g.stack = .ref a :: rest) (hd : decode c.code g.pc = .ok (.checkcast index, 3))
    (k : ∀ T', Wk N p l e R s m args below meth c Z own EL hm T' h cells slots → Goes p.tables e below Q T' { g with pc := g.pc + 3 }) : Goes p.tables e below Q T g := by
  obtain ⟨vm0, locs, k0, h1, X', h3, h4, h5, h6, r⟩ := X
  obtain ⟨T', X2, e2, st⟩ := RoadKit.castY (s := s.setVm vm0) X' h4 h5 h6 w h3 F hg hs hd
  exact Goes.go st (k T' ⟨vm0, locs, k0, h1, X2, e2, h4, h5, h6, r⟩)
theorem Wk.instY (X : Wk N p l e R s m args below meth c Z own EL hm T h cells slots) {K : String} {index : Nat} (w : (Cond.classLink own index K).before a0 Z = true) {a : Addr} (F : Ins Z h a K true) {g : JFrame} (hg : g.method = m) {rest : List Value} (hs : g.stack = .ref a :: rest) (hd : decode c.code g.pc = .ok (.instanceof index, 3))
    (k : ∀ T', Wk N p l e R s m args below meth c Z own EL hm T' h cells slots → Goes p.tables e below Q T' { g with pc := g.pc + 3, stack := .int 1 :: rest }) : Goes p.tables e below Q T g := by
  obtain ⟨vm0, locs, k0, h1, X', h3, h4, h5, h6, r⟩ := X
  obtain ⟨T', X2, e2, st⟩ := RoadKit.instY (s := s.setVm vm0) X' h4 h5 h6 w h3 F hg hs hd
  exact Goes.go st (k T' ⟨vm0, locs, k0, h1, X2, e2, h4, h5, h6, r⟩)
theorem Wk.instNo (X : Wk N p l e R s m args below meth c Z own EL hm T h cells slots) {C K : String} {index : Nat} (w : (Cond.classLink own index K).before a0 Z = true) {a : Addr} (E : Exa Z h a C) (F : ∃ c t, Z.vm.findClass C = some c ∧ Z.vm.findClass K = some t ∧ Z.vm.assignable c t = false) {g : JFrame} (hg : g.method = m) {rest : List Value} (hs : g.stack = .ref a :: rest) (hd : decode c.code g.pc = .ok (.instanceof index, 3))
    (k : ∀ T', Wk N p l e R s m args below meth c Z own EL hm T' h cells slots → Goes p.tables e below Q T' { g with pc := g.pc + 3, stack := .int 0 :: rest }) : Goes p.tables e below Q T g := by
  obtain ⟨vm0, locs, k0, h1, X', h3, h4, h5, h6, r⟩ := X
  obtain ⟨T', X2, e2, st⟩ := RoadKit.instNo (s := s.setVm vm0) X' h4 h5 h6 w h3 E F hg hs hd
  exact Goes.go st (k T' ⟨vm0, locs, k0, h1, X2, e2, h4, h5, h6, r⟩)
theorem Wk.instNull (X : Wk N p l e R s m args below meth c Z own EL hm T h cells slots) {index : Nat} {g : JFrame} (hg : g.method = m) {rest : List Value} (hs : g.stack = .null :: rest) (hd : decode c.code g.pc = .ok (.instanceof index, 3)) : ∀ t, Steps p.tables e below (T.setTop { g with pc := g.pc + 3, stack := .int 0 :: rest }) t → Steps p.tables e below (T.setTop g) t := by
  obtain ⟨vm0, locs, k0, h1, X', h3, h4, r⟩ := X
  exact X'.instanceofNull h4 hg hs hd
theorem own_noinst {C S K : String} {n : Nat} (w : (Cond.superclass C S).before a0 Z = true) (wr : (Cond.noSuperclass S).before a0 Z = true) (wi : (Cond.instantiable K n).before a0 Z = true) (n1 : C ≠ K) (n2 : S ≠ K) : ∃ c t, Z.vm.findClass C = some c ∧ Z.vm.findClass K = some t ∧ Z.vm.assignable c t = false := by
  obtain ⟨cS, kS, s1, s2, s3, -, -⟩ := Cond.noSuperclass_spec wr
  obtain ⟨t, kt, t1, t2, t3, t4, -⟩ := Cond.instantiable_spec wi
  have ne2 := ids_ne s1 t1 n2
  have nS : NS Z S K := ⟨cS, t, s1, t1, fun fuel => by
    cases fuel with
    | zero => rfl
    | succ f => simp [Vm.isSubclassAux, ne2, s2, s3]⟩
  obtain ⟨c, t', h0, g0, n3⟩ := NS.step w nS n1
  cases g0.symm.trans t1
  obtain ⟨p', k, kp, h1, h2, h3, h4, h5, -, h7⟩ := Cond.superclass_spec h0 w
  have ne := ids_ne h0 g0 n1
  simp only [Bool.or_eq_false_iff] at t4
  refine ⟨c, _, h0, t1, ?_⟩
  show Z.vm.assignableAux (255 + 1) c _ = false
  simp [Vm.assignableAux, ne, h2, t2, h5, t3, t4.1, Vm.isSubclass, n3]
/-! Object.<init>, literals -/
theorem Wk.initO (X : Wk N p l e R s m args below meth c Z own EL hm T h cells slots) {idx : Nat} (w1 : (Cond.methodLink own idx Lib.objectInit).before a0 Z = true) (w2 : (Cond.instanceMethod Lib.objectInit).before a0 Z = true) (w3 : (Cond.code Lib.objectInit ⟨#[0xb1]⟩ 1 none).before a0 Z = true)
    {g : JFrame} (hg : g.method = m) (hsize : g.locals.size = c.maxLocals) {a : Addr} {rest : List Value} (hs : g.stack = .ref a :: rest) (hd : decode c.code g.pc = .ok (.invokespecial idx, 3)) (hf : 1 ≤ R.frames) {W : Nat} (hW : 2 * g.monitorRoom + (rest.map fun v => v.category).sum ≤ W) (hl : W + 12 ≤ R.locals)
    (k : ∀ T', Wk N p l e R s m args below meth c Z own EL hm T' h cells slots → Goes p.tables e below Q T' { g with pc := g.pc + 3, stack := rest }) : Goes p.tables e below Q T g := by
  obtain ⟨vm0, locs, k0, h1, X', h3, h4, h5, h6, r⟩ := X
  obtain ⟨T', X2, e2, st⟩ := RoadKit.initO (s := s.setVm vm0) X' h4 h5 h6 w1 w2 w3 h3 hg hsize hs hd hf hW hl
  exact Goes.go st (k T' ⟨vm0, locs, k0, h1, X2, e2, h4, h5, h6, r⟩)
theorem Wk.ldcR (X : Wk N p l e R s m args below meth c Z own EL hm T h cells slots) {text : String} {index : Nat} (w : (Cond.stringLink own index text).before a0 Z = true) (wS : ∀ a ∈ Bundle.stringAtoms, a.before a0 Z = true) (hEL : EW Z a0 EL) (hmem : (own, index) ∈ EL)
    {vs : List Value} {z : Int32} (ht : (∀ c ∈ text.toList, c.toNat < 256) ∧ text.toList.map (fun c => Value.int (Jvm.Lit.byteI c.toNat.toUInt16)) = vs) (hz : ¬ z < 0) (hl : z.toNatClampNeg = vs.length)
    {g : JFrame} (hg : g.method = m) (hd : decode c.code g.pc = .ok (.ldc index, 2)) {n : Nat} (hn : 4 * text.toList.length ≤ n) (hbig : n ≤ 536870912) (hc : cells + 2 ≤ R.cells) (hl' : slots + (n + 4) ≤ R.slots)
    (k : ∀ (T' : State) (h' : Heap) (a b : Addr) (kB : ClassId), Wk False p l e R s m args below meth c Z own EL h' T' h' (cells + 2) (slots + (n + 4)) → Ext h h' → Exa Z h' a "java/lang/String" → Fld Z h' a "java/lang/String" "coder" "B" (.int 0) → Fld Z h' a "java/lang/String" "value" "[B" (.ref b) → Arv Z h' b kB .byte z vs (.int 0) →
      Goes p.tables e below Q T' { g with pc := g.pc + 2, stack := .ref a :: g.stack }) : Goes p.tables e below Q T g := by
  obtain ⟨vm0, locs, k0, h1, X', h3, h4, h5, h6, h7, h8, h9, h10, h11, h12⟩ := X
  have C1 := h10.trans (CHr.ext h11 h10.1)
  obtain ⟨a, T', h', k1, b, kB, X2, e2, E, S2, hk2, hW, hf, r1, r2, r3, r4, -, -, C2, -, -, st⟩ := ldcCH X' h4 h5 h6 w wS h3 h8 h9 hEL hmem C1.1 ht hz hl hg hd hn hbig hc hl'
  exact Goes.go st (k T' h' a b kB ⟨T'.vm, locs, k1, fun q => q.elim, X2, e2, h4, hW, hf, h7, S2, hk2, C1.trans C2, Ext.oRefl _, h12.oTrans E⟩ E r1 r2 r3 r4)
theorem Wk.ldcO (X : Wk N p l e R s m args below meth c Z own EL hm T h cells slots) {text : String} {index : Nat} (w : (Cond.stringLink own index text).before a0 Z = true) (wS : ∀ a ∈ Bundle.stringAtoms, a.before a0 Z = true) (hEL : EW Z a0 EL)
    {g : JFrame} (hg : g.method = m) (hd : decode c.code g.pc = .ok (.ldc index, 2)) {n : Nat} (hn : 4 * text.toList.length ≤ n) (hbig : n ≤ 536870912) (hc : cells + 2 ≤ R.cells) (hl' : slots + (n + 4) ≤ R.slots)
    (k : ∀ (T' : State) (h' : Heap) (a : Addr), Wk False p l e R s m args below meth c Z own EL h' T' h' (cells + 2) (slots + (n + 4)) → Ext h h' →
      Goes p.tables e below Q T' { g with pc := g.pc + 2, stack := .ref a :: g.stack }) : Goes p.tables e below Q T g := by
  obtain ⟨vm0, locs, k0, h1, X', h3, h4, h5, h6, h7, h8, h9, h10, h11, h12⟩ := X
  have C1 := h10.trans (CHr.ext h11 h10.1)
  obtain ⟨a, T', h', k1, X2, e2, E, S2, hk2, hW, hf, C2, -, st⟩ := ldcOH X' h4 h5 h6 w wS h3 h8 h9 hEL C1.1 hg hd hn hbig hc hl'
  exact Goes.go st (k T' h' a ⟨T'.vm, locs, k1, fun q => q.elim, X2, e2, h4, hW, hf, h7, S2, hk2, C1.trans C2, Ext.oRefl _, h12.oTrans E⟩ E)
/-! calls -/
theorem CtrN.back {y : MethodName} {bytes : ByteArray} {maxL : Nat} {ret : Option FieldType} {rm : Room} {as' : Array Value} {Qv : Option Value → Heap → Prop} {len W : Nat} (K : CtrN l Z y bytes maxL ret rm as' h Qv) {vm0 : Vm} (hZ : Z.Warmed39 vm0) (wc : (Cond.code y bytes maxL ret).before a0 Z = true) (wz : (Cond.initialized y.cls).before a0 Z = true) (hf : rm.frames + 1 ≤ R.frames) (hl : W + (maxL + 11) + rm.locals ≤ R.locals) :
    Back l R p e below (s.setVm vm0) args y len W (fun A a => a = as' ∧ A.U.heap = h ∧ A.cells + rm.cells ≤ R.cells ∧ A.slots + rm.slots ≤ R.slots) (fun A _ v B => ∃ L, (Qv v B.U.heap ∧ Fr Z.heap.size L) ∧ B.locs = A.locs ++ L ∧ B.cells = A.cells + rm.cells ∧ B.slots = A.slots + rm.slots) :=
  backOf (s := s.setVm vm0) (Q := fun v h' L => Qv v h' ∧ Fr Z.heap.size L) (K []) hZ wc wz hf hl
theorem CtrS.back {y : MethodName} {bytes : ByteArray} {maxL : Nat} {ret : Option FieldType} {rm : Room} {as' : Array Value} {Qv : Option Value → Heap → Prop} {len W : Nat} (K : CtrS l Z EL y bytes maxL ret rm as' h Qv) {vm0 : Vm} (hZ : Z.Warmed39 vm0) (wc : (Cond.code y bytes maxL ret).before a0 Z = true) (wz : (Cond.initialized y.cls).before a0 Z = true) (hf : rm.frames + 1 ≤ R.frames) (hl : W + (maxL + 11) + rm.locals ≤ R.locals) (hEL : EW Z a0 EL) (H : CHv Z EL vm0 h) :
    BackS l R p e below (s.setVm vm0) args y len W (fun A a => a = as' ∧ A.U.heap = h ∧ A.cells + rm.cells ≤ R.cells ∧ A.slots + rm.slots ≤ R.slots) (fun A _ v B => ∃ L, (Qv v B.U.heap ∧ Fr Z.heap.size L) ∧ B.locs = A.locs ++ L ∧ B.cells = A.cells + rm.cells ∧ B.slots = A.slots + rm.slots ∧ CHr Z EL vm0 h B.U.vm B.U.heap) :=
  backOfSH (Q := fun v h' L => Qv v h' ∧ Fr Z.heap.size L) (K []) hZ wc wz hf hl hEL H
/-- what a payer says that interns nothing -/
def Pays (l : Launch) (R : Room) (p : Program) (e : Env) (below : List Frame) (s : State) (args : Array Value) (Z : State) (y : MethodName) (len W : Nat) (as' : Array Value) (h : Heap) (kc ks : Nat) (QQ : Option Value → Heap → List Loc → Prop) : Prop :=
  ∀ vm0, Z.Warmed39 vm0 → Back l R p e below (s.setVm vm0) args y len W (fun A a => a = as' ∧ A.U.heap = h ∧ A.cells + kc ≤ R.cells ∧ A.slots + ks ≤ R.slots) (fun A _ v B => ∃ L, QQ v B.U.heap L ∧ B.locs = A.locs ++ L ∧ B.cells = A.cells + kc ∧ B.slots = A.slots + ks)
def PaysS (l : Launch) (R : Room) (p : Program) (e : Env) (below : List Frame) (s : State) (args : Array Value) (Z : State) (EL : List (String × Nat)) (y : MethodName) (len W : Nat) (as' : Array Value) (h : Heap) (kc ks : Nat) (QQ : Option Value → Heap → List Loc → Prop) : Prop :=
  ∀ vm0, Z.Warmed39 vm0 → CHv Z EL vm0 h → BackS l R p e below (s.setVm vm0) args y len W (fun A a => a = as' ∧ A.U.heap = h ∧ A.cells + kc ≤ R.cells ∧ A.slots + ks ≤ R.slots) (fun A _ v B => ∃ L, QQ v B.U.heap L ∧ B.locs = A.locs ++ L ∧ B.cells = A.cells + kc ∧ B.slots = A.slots + ks ∧ CHr Z EL vm0 h B.U.vm B.U.heap)
theorem CtrN.pays {y : MethodName} {bytes : ByteArray} {maxL : Nat} {ret : Option FieldType} {rm : Room} {as' : Array Value} {Qv : Option Value → Heap → Prop} {len W : Nat} (K : CtrN l Z y bytes maxL ret rm as' h Qv) (wc : (Cond.code y bytes maxL ret).before a0 Z = true) (wz : (Cond.initialized y.cls).before a0 Z = true) (hf : rm.frames + 1 ≤ R.frames) (hl : W + (maxL + 11) + rm.locals ≤ R.locals) :
    Pays l R p e below s args Z y len W as' h rm.cells rm.slots (fun v h' L => Qv v h' ∧ Fr Z.heap.size L) := fun _ hZ => CtrN.back K hZ wc wz hf hl
theorem CtrS.pays {y : MethodName} {bytes : ByteArray} {maxL : Nat} {ret : Option FieldType} {rm : Room} {as' : Array Value} {Qv : Option Value → Heap → Prop} {len W : Nat} (K : CtrS l Z EL y bytes maxL ret rm as' h Qv) (wc : (Cond.code y bytes maxL ret).before a0 Z = true) (wz : (Cond.initialized y.cls).before a0 Z = true) (hf : rm.frames + 1 ≤ R.frames) (hl : W + (maxL + 11) + rm.locals ≤ R.locals) (hEL : EW Z a0 EL) :
    PaysS l R p e below s args Z EL y len W as' h rm.cells rm.slots (fun v h' L => Qv v h' ∧ Fr Z.heap.size L) := fun _ hZ H => CtrS.back K hZ wc wz hf hl hEL H
theorem Wk.came {vm0 : Vm} {locs L : List Loc} {k0 kc ks : Nat} {T' : State} {hm' : Heap} {ws : List Addr} (h1 : N → vm0 = s.vm) (h4 : p.tables.exec = Jvm.exec) (h5 : Z.Warmed39 vm0) (h6 : vm0.findClass own = some m.cls) (h7 : Fr Z.heap.size locs) (h8 : s.Since vm0 k0) (h9 : k0 ≤ h.size) (h10 : CHr Z EL s.vm s.heap vm0 hm) (h11 : Ext hm h) (h12 : Ext Z.heap h)
    (X2 : Stand p l e R (s.setVm vm0) m args below meth c T' (locs ++ L) (cells + kc) (slots + ks)) (F : Fr Z.heap.size L) (K : Keep h T'.heap ws) (hws : ∀ x ∈ ws, Z.heap.size ≤ x) (M : Mark Z EL hm h ws T'.heap hm') : Wk N p l e R s m args below meth c Z own EL hm' T' T'.heap (cells + kc) (slots + ks) := by
  obtain ⟨C, E⟩ := mark_go h5.alike h10 h11 K M
  exact ⟨vm0, _, k0, h1, X2, rfl, h4, h5, h6, Fr.app h7 F, h8, Nat.le_trans h9 K.1, C, E, h12.oKeep K hws⟩
theorem Wk.cameS {vm0 : Vm} {locs L : List Loc} {k0 kc ks : Nat} {T' : State} {ws : List Addr} (h4 : p.tables.exec = Jvm.exec) (h5 : Z.Warmed39 vm0) (h6 : vm0.findClass own = some m.cls) (h7 : Fr Z.heap.size locs) (h8 : s.Since vm0 k0) (h9 : k0 ≤ h.size) (C1 : CHr Z EL s.vm s.heap vm0 h) (h12 : Ext Z.heap h)
    (X2 : Stand p l e R ((s.setVm vm0).setVm T'.vm) m args below meth c T' (locs ++ L) (cells + kc) (slots + ks)) (S2 : (s.setVm vm0).Since T'.vm T'.heap.size) (F : Fr Z.heap.size L) (K : Keep h T'.heap ws) (hws : ∀ x ∈ ws, Z.heap.size ≤ x) (C2 : CHr Z EL vm0 h T'.vm T'.heap) : Wk False p l e R s m args below meth c Z own EL T'.heap T' T'.heap (cells + kc) (slots + ks) :=
  ⟨T'.vm, _, T'.heap.size, fun q => q.elim, X2, rfl, h4, State.Warmed39.trans (t := s.setVm vm0) h5 S2.1, (S2.1.alike.findClass _ _).trans h6, Fr.app h7 F, h8.trans S2 (Nat.le_trans h9 K.1), Nat.le_refl _, C1.trans C2, Ext.oRefl _, h12.oKeep K hws⟩
theorem Wk.static {hm' : Heap → Heap} {y : MethodName} {bytes : ByteArray} {maxL : Nat} {ret : Option FieldType} {index W kc ks : Nat} {QQ : Option Value → Heap → List Loc → Prop} {argsL rest : List Value} {as' : Array Value} {ws : List Addr} (X : Wk N p l e R s m args below meth c Z own EL hm T h cells slots)
    (w1 : (Cond.methodLink own index y).before a0 Z = true) (w2 : (Cond.static y).before a0 Z = true) (w3 : (Cond.initialized y.cls).before a0 Z = true) (w4 : (Cond.code y bytes maxL ret).before a0 Z = true) (hy : y.cls ≠ "java/lang/invoke/MethodHandle" ∧ y.cls ≠ "java/lang/invoke/VarHandle")
    (hK : Pays l R p e below s args Z y 3 W as' h kc ks QQ) (hQ : ∀ v h' L, QQ v h' L → Fr Z.heap.size L ∧ Keep h h' ws) (hws : ∀ x ∈ ws, Z.heap.size ≤ x) (M : ∀ h', Mark Z EL hm h ws h' (hm' h'))
    {g : JFrame} (hg : g.method = m) (hsize : g.locals.size = c.maxLocals) (hlen : ∀ sig, parseMethodDescriptor y.desc = some sig → argsL.length = sig.parameters.length) (has : argsL.toArray = as') (hstack : g.stack = argsL.reverse ++ rest) (hW : 2 * g.monitorRoom + (rest.map fun v => v.category).sum ≤ W)
    (hdg : decode c.code g.pc = .ok (.invokestatic index, 3)) (hc : cells + kc ≤ R.cells) (hs : slots + ks ≤ R.slots)
    (k : ∀ (T' : State) (h' : Heap) (v : Option Value) (L : List Loc), Wk N p l e R s m args below meth c Z own EL (hm' h') T' h' (cells + kc) (slots + ks) → QQ v h' L → Keep h h' ws → Goes p.tables e below Q T' { g with pc := g.pc + 3, stack := v.toList ++ rest }) : Goes p.tables e below Q T g := by
  obtain ⟨vm0, locs, k0, h1, X', h3, h4, h5, h6, h7, h8, h9, h10, h11, h12⟩ := X
  obtain ⟨v, vm₁, ⟨T', L', k', n'⟩, -, X2, ⟨L, q, l2, y2, z2⟩, st⟩ := Jvm.LawKit.callS (s := s.setVm vm0) X' h4 h6 (mvT (s := s.setVm vm0) h5 w1) (mvT (s := s.setVm vm0) h5 w2) (mvT (s := s.setVm vm0) h5 w3) (mvT (s := s.setVm vm0) h5 w4) hy (hK vm0 h5) hg hsize hlen hstack hW hdg (fun _ _ => ⟨has, h3, hc, hs⟩)
  dsimp only [Pt.U, Pt.locs, Pt.cells, Pt.slots] at X2 l2 y2 z2 st q
  subst l2 y2 z2
  obtain ⟨F, K⟩ := hQ _ _ _ q
  exact Goes.go st (k T' T'.heap v L (Wk.came h1 h4 h5 h6 h7 h8 h9 h10 h11 h12 X2 F K hws (M _)) q K)
theorem Wk.special {hm' : Heap → Heap} {y : MethodName} {bytes : ByteArray} {maxL : Nat} {index W kc ks : Nat} {QQ : Option Value → Heap → List Loc → Prop} {a : Addr} {argsL rest : List Value} {as' : Array Value} {ws : List Addr} (X : Wk N p l e R s m args below meth c Z own EL hm T h cells slots)
    (hy1 : y.name = "<init>") (w1 : (Cond.methodLink own index y).before a0 Z = true) (w2 : (Cond.instanceMethod y).before a0 Z = true) (w4 : (Cond.code y bytes maxL none).before a0 Z = true) (hy : y.cls ≠ "java/lang/invoke/MethodHandle" ∧ y.cls ≠ "java/lang/invoke/VarHandle")
    (hK : Pays l R p e below s args Z y 3 W as' h kc ks QQ) (hQ : ∀ v h' L, QQ v h' L → Fr Z.heap.size L ∧ Keep h h' ws) (hws : ∀ x ∈ ws, Z.heap.size ≤ x) (M : ∀ h', Mark Z EL hm h ws h' (hm' h'))
    {g : JFrame} (hg : g.method = m) (hsize : g.locals.size = c.maxLocals) (hlen : ∀ sig, parseMethodDescriptor y.desc = some sig → argsL.length = sig.parameters.length) (has : (.ref a :: argsL).toArray = as') (hstack : g.stack = argsL.reverse ++ .ref a :: rest) (hW : 2 * g.monitorRoom + (rest.map fun v => v.category).sum ≤ W)
    (hdg : decode c.code g.pc = .ok (.invokespecial index, 3)) (hc : cells + kc ≤ R.cells) (hs : slots + ks ≤ R.slots)
    (k : ∀ (T' : State) (h' : Heap) (v : Option Value) (L : List Loc), Wk N p l e R s m args below meth c Z own EL (hm' h') T' h' (cells + kc) (slots + ks) → QQ v h' L → Keep h h' ws → Goes p.tables e below Q T' { g with pc := g.pc + 3, stack := v.toList ++ rest }) : Goes p.tables e below Q T g := by
  obtain ⟨vm0, locs, k0, h1, X', h3, h4, h5, h6, h7, h8, h9, h10, h11, h12⟩ := X
  obtain ⟨v, vm₁, ⟨T', L', k', n'⟩, -, X2, ⟨L, q, l2, y2, z2⟩, st⟩ := Stand.specialBack (s := s.setVm vm0) X' h4 hy1 h6 (mvT (s := s.setVm vm0) h5 w1) (mvT (s := s.setVm vm0) h5 w2) (mvT (s := s.setVm vm0) h5 w4) hy (hK vm0 h5) hg hsize (Steps.refl _) hlen hstack hW hdg (fun _ _ => ⟨has, h3, hc, hs⟩)
  dsimp only [Pt.U, Pt.locs, Pt.cells, Pt.slots] at X2 l2 y2 z2 st q
  subst l2 y2 z2
  obtain ⟨F, K⟩ := hQ _ _ _ q
  exact Goes.via st (k T' T'.heap v L (Wk.came h1 h4 h5 h6 h7 h8 h9 h10 h11 h12 X2 F K hws (M _)) q K)
theorem Wk.virtual {hm' : Heap → Heap} {C : String} {y z : MethodName} {index W kc ks : Nat} {QQ : Option Value → Heap → List Loc → Prop} {b : Addr} {argsL rest : List Value} {as' : Array Value} {ws : List Addr} (X : Wk N p l e R s m args below meth c Z own EL hm T h cells slots)
    (w1 : (Cond.methodLink own index y).before a0 Z = true) (w2 : (Cond.declares y).before a0 Z = true) (w3 : (Cond.selects C y z).before a0 Z = true) (w4 : (Cond.instanceMethod z).before a0 Z = true) (hy : y.cls ≠ "java/lang/invoke/MethodHandle" ∧ y.cls ≠ "java/lang/invoke/VarHandle") (E : Exa Z h b C)
    (hnf : ∀ vm0, Z.Warmed39 vm0 → NotFace (s.setVm vm0) y)
    (hK : Pays l R p e below s args Z z 3 W as' h kc ks QQ) (hQ : ∀ v h' L, QQ v h' L → Fr Z.heap.size L ∧ Keep h h' ws) (hws : ∀ x ∈ ws, Z.heap.size ≤ x) (M : ∀ h', Mark Z EL hm h ws h' (hm' h'))
    {g : JFrame} (hg : g.method = m) (hsize : g.locals.size = c.maxLocals) (hlen : ∀ sig, parseMethodDescriptor y.desc = some sig → argsL.length = sig.parameters.length) (has : (.ref b :: argsL).toArray = as') (hstack : g.stack = argsL.reverse ++ .ref b :: rest) (hW : 2 * g.monitorRoom + (rest.map fun v => v.category).sum ≤ W)
    (hdg : decode c.code g.pc = .ok (.invokevirtual index, 3)) (hc : cells + kc ≤ R.cells) (hs : slots + ks ≤ R.slots)
    (k : ∀ (T' : State) (h' : Heap) (v : Option Value) (L : List Loc), Wk N p l e R s m args below meth c Z own EL (hm' h') T' h' (cells + kc) (slots + ks) → QQ v h' L → Keep h h' ws → Goes p.tables e below Q T' { g with pc := g.pc + 3, stack := v.toList ++ rest }) : Goes p.tables e below Q T g := by
  obtain ⟨vm0, locs, k0, h1, X', h3, h4, h5, h6, h7, h8, h9, h10, h11, h12⟩ := X
  obtain ⟨cq, kq, qa, qb, qc⟩ := isOf (s := s.setVm vm0) h5 h3 E
  obtain ⟨v, vm₁, ⟨T', L', k', n'⟩, -, X2, ⟨L, q, l2, y2, z2⟩, st⟩ := Stand.virtualBack (s := s.setVm vm0) X' h4 h6 (mvT (s := s.setVm vm0) h5 w1) (mvT (s := s.setVm vm0) h5 w2) (hnf vm0 h5) (mvT (s := s.setVm vm0) h5 w3) (mvT (s := s.setVm vm0) h5 w4) hy (hK vm0 h5) qa qc hg hsize (Steps.refl _) hlen hstack hW hdg (fun _ _ => ⟨has, h3, hc, hs⟩)
  dsimp only [Pt.U, Pt.locs, Pt.cells, Pt.slots] at X2 l2 y2 z2 st q
  subst l2 y2 z2
  obtain ⟨F, K⟩ := hQ _ _ _ q
  exact Goes.via st (k T' T'.heap v L (Wk.came h1 h4 h5 h6 h7 h8 h9 h10 h11 h12 X2 F K hws (M _)) q K)
theorem Wk.staticS {y : MethodName} {bytes : ByteArray} {maxL : Nat} {ret : Option FieldType} {index W kc ks : Nat} {QQ : Option Value → Heap → List Loc → Prop} {argsL rest : List Value} {as' : Array Value} {ws : List Addr} (X : Wk N p l e R s m args below meth c Z own EL hm T h cells slots)
    (w1 : (Cond.methodLink own index y).before a0 Z = true) (w2 : (Cond.static y).before a0 Z = true) (w3 : (Cond.initialized y.cls).before a0 Z = true) (w4 : (Cond.code y bytes maxL ret).before a0 Z = true) (hy : y.cls ≠ "java/lang/invoke/MethodHandle" ∧ y.cls ≠ "java/lang/invoke/VarHandle")
    (hK : PaysS l R p e below s args Z EL y 3 W as' h kc ks QQ) (hQ : ∀ v h' L, QQ v h' L → Fr Z.heap.size L ∧ Keep h h' ws) (hws : ∀ x ∈ ws, Z.heap.size ≤ x)
    {g : JFrame} (hg : g.method = m) (hsize : g.locals.size = c.maxLocals) (hlen : ∀ sig, parseMethodDescriptor y.desc = some sig → argsL.length = sig.parameters.length) (has : argsL.toArray = as') (hstack : g.stack = argsL.reverse ++ rest) (hW : 2 * g.monitorRoom + (rest.map fun v => v.category).sum ≤ W)
    (hdg : decode c.code g.pc = .ok (.invokestatic index, 3)) (hc : cells + kc ≤ R.cells) (hs : slots + ks ≤ R.slots)
    (k : ∀ (T' : State) (h' : Heap) (v : Option Value) (L : List Loc), Wk False p l e R s m args below meth c Z own EL h' T' h' (cells + kc) (slots + ks) → QQ v h' L → Keep h h' ws → Goes p.tables e below Q T' { g with pc := g.pc + 3, stack := v.toList ++ rest }) : Goes p.tables e below Q T g := by
  obtain ⟨vm0, locs, k0, h1, X', h3, h4, h5, h6, h7, h8, h9, h10, h11, h12⟩ := X
  have C1 := h10.trans (CHr.ext h11 h10.1)
  obtain ⟨v, vm₁, ⟨T', L', k', n'⟩, -, X2, S2, -, ⟨L, q, l2, y2, z2, C2⟩, st⟩ := callSS (s := s.setVm vm0) X' h4 h6 (mvT (s := s.setVm vm0) h5 w1) (mvT (s := s.setVm vm0) h5 w2) (mvT (s := s.setVm vm0) h5 w3) (mvT (s := s.setVm vm0) h5 w4) hy (hK vm0 h5 C1.1) hg hsize hlen hstack hW hdg (fun _ _ => ⟨has, h3, hc, hs⟩)
  dsimp only [Pt.U, Pt.locs, Pt.cells, Pt.slots] at X2 S2 l2 y2 z2 st q C2
  subst l2 y2 z2
  obtain ⟨F, K⟩ := hQ _ _ _ q
  exact Goes.via st (k T' T'.heap v L (Wk.cameS h4 h5 h6 h7 h8 h9 C1 h12 X2 S2 F K hws C2) q K)
theorem Wk.specialS {y : MethodName} {bytes : ByteArray} {maxL : Nat} {index W kc ks : Nat} {QQ : Option Value → Heap → List Loc → Prop} {a : Addr} {argsL rest : List Value} {as' : Array Value} {ws : List Addr} (X : Wk N p l e R s m args below meth c Z own EL hm T h cells slots)
    (hy1 : y.name = "<init>") (w1 : (Cond.methodLink own index y).before a0 Z = true) (w2 : (Cond.instanceMethod y).before a0 Z = true) (w4 : (Cond.code y bytes maxL none).before a0 Z = true) (hy : y.cls ≠ "java/lang/invoke/MethodHandle" ∧ y.cls ≠ "java/lang/invoke/VarHandle")
    (hK : PaysS l R p e below s args Z EL y 3 W as' h kc ks QQ) (hQ : ∀ v h' L, QQ v h' L → Fr Z.heap.size L ∧ Keep h h' ws) (hws : ∀ x ∈ ws, Z.heap.size ≤ x)
    {g : JFrame} (hg : g.method = m) (hsize : g.locals.size = c.maxLocals) (hlen : ∀ sig, parseMethodDescriptor y.desc = some sig → argsL.length = sig.parameters.length) (has : (.ref a :: argsL).toArray = as') (hstack : g.stack = argsL.reverse ++ .ref a :: rest) (hW : 2 * g.monitorRoom + (rest.map fun v => v.category).sum ≤ W)
    (hdg : decode c.code g.pc = .ok (.invokespecial index, 3)) (hc : cells + kc ≤ R.cells) (hs : slots + ks ≤ R.slots)
    (k : ∀ (T' : State) (h' : Heap) (v : Option Value) (L : List Loc), Wk False p l e R s m args below meth c Z own EL h' T' h' (cells + kc) (slots + ks) → QQ v h' L → Keep h h' ws → Goes p.tables e below Q T' { g with pc := g.pc + 3, stack := v.toList ++ rest }) : Goes p.tables e below Q T g := by
  obtain ⟨vm0, locs, k0, h1, X', h3, h4, h5, h6, h7, h8, h9, h10, h11, h12⟩ := X
  have C1 := h10.trans (CHr.ext h11 h10.1)
  obtain ⟨v, vm₁, ⟨T', L', k', n'⟩, -, X2, S2, -, ⟨L, q, l2, y2, z2, C2⟩, st⟩ := Stand.specialBackS (s := s.setVm vm0) X' h4 hy1 h6 (mvT (s := s.setVm vm0) h5 w1) (mvT (s := s.setVm vm0) h5 w2) (mvT (s := s.setVm vm0) h5 w4) hy (hK vm0 h5 C1.1) hg hsize (Steps.refl _) hlen hstack hW hdg (fun _ _ => ⟨has, h3, hc, hs⟩)
  dsimp only [Pt.U, Pt.locs, Pt.cells, Pt.slots] at X2 S2 l2 y2 z2 st q C2
  subst l2 y2 z2
  obtain ⟨F, K⟩ := hQ _ _ _ q
  exact Goes.via st (k T' T'.heap v L (Wk.cameS h4 h5 h6 h7 h8 h9 C1 h12 X2 S2 F K hws C2) q K)
theorem Wk.virtualS {C : String} {y z : MethodName} {index W kc ks : Nat} {QQ : Option Value → Heap → List Loc → Prop} {b : Addr} {argsL rest : List Value} {as' : Array Value} {ws : List Addr} (X : Wk N p l e R s m args below meth c Z own EL hm T h cells slots)
    (w1 : (Cond.methodLink own index y).before a0 Z = true) (w2 : (Cond.declares y).before a0 Z = true) (w3 : (Cond.selects C y z).before a0 Z = true) (w4 : (Cond.instanceMethod z).before a0 Z = true) (hy : y.cls ≠ "java/lang/invoke/MethodHandle" ∧ y.cls ≠ "java/lang/invoke/VarHandle") (E : Exa Z h b C)
    (hnf : ∀ vm0, Z.Warmed39 vm0 → NotFace (s.setVm vm0) y)
    (hK : PaysS l R p e below s args Z EL z 3 W as' h kc ks QQ) (hQ : ∀ v h' L, QQ v h' L → Fr Z.heap.size L ∧ Keep h h' ws) (hws : ∀ x ∈ ws, Z.heap.size ≤ x)
    {g : JFrame} (hg : g.method = m) (hsize : g.locals.size = c.maxLocals) (hlen : ∀ sig, parseMethodDescriptor y.desc = some sig → argsL.length = sig.parameters.length) (has : (.ref b :: argsL).toArray = as') (hstack : g.stack = argsL.reverse ++ .ref b :: rest) (hW : 2 * g.monitorRoom + (rest.map fun v => v.category).sum ≤ W)
    (hdg : decode c.code g.pc = .ok (.invokevirtual index, 3)) (hc : cells + kc ≤ R.cells) (hs : slots + ks ≤ R.slots)
    (k : ∀ (T' : State) (h' : Heap) (v : Option Value) (L : List Loc), Wk False p l e R s m args below meth c Z own EL h' T' h' (cells + kc) (slots + ks) → QQ v h' L → Keep h h' ws → Goes p.tables e below Q T' { g with pc := g.pc + 3, stack := v.toList ++ rest }) : Goes p.tables e below Q T g := by
  obtain ⟨vm0, locs, k0, h1, X', h3, h4, h5, h6, h7, h8, h9, h10, h11, h12⟩ := X
  obtain ⟨cq, kq, qa, qb, qc⟩ := isOf (s := s.setVm vm0) h5 h3 E
  have C1 := h10.trans (CHr.ext h11 h10.1)
  obtain ⟨v, vm₁, ⟨T', L', k', n'⟩, -, X2, S2, -, ⟨L, q, l2, y2, z2, C2⟩, st⟩ := Stand.virtualBackS (s := s.setVm vm0) X' h4 h6 (mvT (s := s.setVm vm0) h5 w1) (mvT (s := s.setVm vm0) h5 w2) (hnf vm0 h5) (mvT (s := s.setVm vm0) h5 w3) (mvT (s := s.setVm vm0) h5 w4) hy (hK vm0 h5 C1.1) qa qc hg hsize (Steps.refl _) hlen hstack hW hdg (fun _ _ => ⟨has, h3, hc, hs⟩)
  dsimp only [Pt.U, Pt.locs, Pt.cells, Pt.slots] at X2 S2 l2 y2 z2 st q C2
  subst l2 y2 z2
  obtain ⟨F, K⟩ := hQ _ _ _ q
  exact Goes.via st (k T' T'.heap v L (Wk.cameS h4 h5 h6 h7 h8 h9 C1 h12 X2 S2 F K hws C2) q K)
theorem nf_sel {C : String} {y : MethodName} (w3 : (Cond.selects C y y).before a0 Z = true) : ∀ vm0, Z.Warmed39 vm0 → NotFace (s.setVm vm0) y := fun vm0 h5 => notFace_of_selects (args := #[]) (mvT (s := s.setVm vm0) h5 w3)
/-! entering a body -/
theorem CHv.none {vm : Vm} : CHv Z [] vm h := fun _ hp => by cases hp
theorem CtrN.of {y : MethodName} {bytes : ByteArray} {maxL : Nat} {ret : Option FieldType} {rm : Room} {as' : Array Value} {h0 : Heap} {Qv : Option Value → Heap → Prop} (hpn : plainFor y = true) (hO : Ext Z.heap h0)
    (body : ∀ (p : Program) (e : Env) (s : State) (m : MethodId) (below : List Frame) (meth : Method) (c : Code) (T : State), Wk True p l e rm s m as' below meth c Z y.cls [] h0 T h0 0 0 → s.heap = h0 → c.code = bytes → c.maxLocals = maxL → meth.sig.returnType = ret → meth.locks = false → meth.name = y.name →
      Goes p.tables e below (EndN Z s rm.cells rm.slots Qv) T (entryFrame m as' maxL)) : CtrN l Z y bytes maxL ret rm as' h0 Qv := by
  intro ws
  refine MetFree.of_bodySF hpn hisR ?_
  intro p e s m args below meth c s₁ Bd hml0 hP hK
  obtain ⟨rfl, hZ, hh⟩ := hP
  have hown := findClass_of_methodNamed Bd.named
  have hnm := (name_of_methodNamed Bd.named Bd.method).1
  have e0 : s₁.heap = h0 := by rw [← hh, Bd.state]; rfl
  exact body p e s m below meth c s₁ (Wk.start (Stand.of_body Bd) e0 hh Bd.exec hZ hown CHv.none hO) hh Bd.bytes hml0 Bd.returns Bd.notSynchronized hnm
theorem CtrS.of {y : MethodName} {bytes : ByteArray} {maxL : Nat} {ret : Option FieldType} {rm : Room} {as' : Array Value} {h0 : Heap} {Qv : Option Value → Heap → Prop} (hpn : plainFor y = true) (hO : Ext Z.heap h0)
    (body : ∀ (p : Program) (e : Env) (s : State) (m : MethodId) (below : List Frame) (meth : Method) (c : Code) (T : State), Wk False p l e rm s m as' below meth c Z y.cls EL h0 T h0 0 0 → s.heap = h0 → c.code = bytes → c.maxLocals = maxL → meth.sig.returnType = ret → meth.locks = false → meth.name = y.name →
      Goes p.tables e below (EndS Z s EL rm.cells rm.slots Qv) T (entryFrame m as' maxL)) : CtrS l Z EL y bytes maxL ret rm as' h0 Qv := by
  intro ws
  refine MetFree.of_bodySF hpn hisR ?_
  intro p e s m args below meth c s₁ Bd hml0 hP hK
  obtain ⟨rfl, hZ, hh, hC⟩ := hP
  have hown := findClass_of_methodNamed Bd.named
  have hnm := (name_of_methodNamed Bd.named Bd.method).1
  have e0 : s₁.heap = h0 := by rw [← hh, Bd.state]; rfl
  exact body p e s m below meth c s₁ (Wk.start (Stand.of_body Bd) e0 hh Bd.exec hZ hown hC hO) hh Bd.bytes hml0 Bd.returns Bd.notSynchronized hnm
end Walk
/-! branches -/
section Branch
variable {tb : Tables} [Ours tb] {e : Env} {below : List Frame} {Q : Outcome → State → Prop} {T : State} {m : MethodId} {c : Code} {Ls : Array Slot} {rest : List Value} {pc pc' : Nat} {o : Int} {x y : Int32} {cd : ClassFile.Cond}
abbrev cdP (cd : ClassFile.Cond) (x y : Int32) : Prop := match cd with
  | .eq => x = y
  | .ne => ¬ x = y
  | .lt => x < y
  | .ge => ¬ x < y
  | .gt => y < x
  | .le => ¬ y < x
theorem cd_t (h : cdP cd x y) : if_icmp.holds cd x y = true := by
  cases cd
  · exact (teq h).1
  · exact (feq h).2
  · exact (tlt h).1
  · exact (flt h).2.1
  · exact (tlt h).2.2.1
  · exact (flt h).2.2.2
theorem cd_f (h : ¬ cdP cd x y) : if_icmp.holds cd x y = false := by
  cases cd
  · exact (feq h).1
  · exact (teq (Classical.not_not.mp h)).2
  · exact (flt h).1
  · exact (tlt (Classical.not_not.mp h)).2.1
  · exact (flt h).2.2.1
  · exact (tlt (Classical.not_not.mp h)).2.2.2
theorem Goes.icmp (h : At T m c below) (hx : tb.exec = Jvm.exec) (hd : decode c.code pc = .ok (.if_icmp cd o, 3)) (ho : 0 ≤ (pc : Int) + o) (hp : ((pc : Int) + o).toNat = pc')
    (kt : cdP cd x y → Goes tb e below Q T (mkF m pc' Ls rest)) (kf : ¬ cdP cd x y → Goes tb e below Q T (mkF m (pc + 3) Ls rest)) : Goes tb e below Q T (mkF m pc Ls (.int y :: .int x :: rest)) := by
  by_cases q : cdP cd x y
  · exact Goes.go (fun _ => XS.icmpYes h hx rfl rfl hd rfl (cd_t q) ho hp) (kt q)
  · exact Goes.go (fun _ => XS.icmpNo h hx rfl hd rfl (cd_f q)) (kf q)
theorem Goes.ifc (h : At T m c below) (hx : tb.exec = Jvm.exec) (hd : decode c.code pc = .ok (.ifCond cd o, 3)) (ho : 0 ≤ (pc : Int) + o) (hp : ((pc : Int) + o).toNat = pc')
    (kt : cdP cd x 0 → Goes tb e below Q T (mkF m pc' Ls rest)) (kf : ¬ cdP cd x 0 → Goes tb e below Q T (mkF m (pc + 3) Ls rest)) : Goes tb e below Q T (mkF m pc Ls (.int x :: rest)) := by
  by_cases q : cdP cd x 0
  · exact Goes.go (fun _ => XS.ifYes h hx rfl rfl hd rfl ((if0 _ _).trans (cd_t q)) ho hp) (kt q)
  · exact Goes.go (fun _ => XS.ifNo h hx rfl hd rfl ((if0 _ _).trans (cd_f q))) (kf q)
theorem Goes.acmp {ac : ClassFile.ACond} {u v : Value} (h : At T m c below) (hx : tb.exec = Jvm.exec) (hd : decode c.code pc = .ok (.if_acmp ac o, 3)) (r1 : u.isRef = true) (r2 : v.isRef = true) (ho : 0 ≤ (pc : Int) + o) (hp : ((pc : Int) + o).toNat = pc')
    (kt : Jvm.Free.XT.acmp ac u v = true → Goes tb e below Q T (mkF m pc' Ls rest)) (kf : Jvm.Free.XT.acmp ac u v = false → Goes tb e below Q T (mkF m (pc + 3) Ls rest)) : Goes tb e below Q T (mkF m pc Ls (v :: u :: rest)) := by
  cases q : Jvm.Free.XT.acmp ac u v
  · exact Goes.go (fun _ => Jvm.Free.XT.acmpNo h hx rfl hd rfl r1 r2 q) (kf q)
  · exact Goes.go (fun _ => Jvm.Free.XT.acmpYes h hx rfl rfl hd rfl r1 r2 q ho hp) (kt q)
end Branch
/-! Strings of Latin-1 chars -/
section Strs
variable {Z : State} {a0 : Array Value} {h h' : Heap} {a x : Addr} {cs : List Int32}
/-- a String whose chars are cs, each 0 to 255 -/
def LStr (Z : State) (h : Heap) (a : Addr) (cs : List Int32) : Prop :=
  Exa Z h a "java/lang/String" ∧ Fld Z h a "java/lang/String" "coder" "B" (.int 0) ∧ (∃ (t : Addr) (kb : ClassId), Fld Z h a "java/lang/String" "value" "[B" (.ref t) ∧ Arv Z h t kb .byte (Int32.ofNat cs.length) ((cs.map fun c => c.toInt8.toInt32).map Value.int) (.int 0)) ∧ (∀ c ∈ cs, ¬ c < 0 ∧ ¬ (255 : Int32) < c) ∧ cs.length ≤ 4000
theorem LStr.ext (S : LStr Z h a cs) (E : Ext h h') : LStr Z h' a cs := by
  obtain ⟨h1, h2, ⟨t, kb, h3, h4⟩, h5⟩ := S
  exact ⟨h1.ext E, h2.ext E, ⟨t, kb, h3.ext E, h4.ext E⟩, h5⟩
theorem LStr.keep {C : String} {n : Nat} (S : LStr Z h a cs) (K : Keep h h' [x]) (E : Exa Z h x C) (hC : C ≠ "java/lang/String") (wi : (Cond.instantiable C n).before a0 Z = true) : LStr Z h' a cs := by
  obtain ⟨h1, h2, ⟨t, kb, h3, h4⟩, h5⟩ := S
  have n1 : a ∉ [x] := fun q => by cases List.mem_singleton.mp q; exact Exa.ne h1 E (Ne.symm hC) rfl
  have n2 : t ∉ [x] := fun q => by cases List.mem_singleton.mp q; exact Exa.neArv E h4 wi rfl
  exact ⟨h1.keep K, h2.keep K n1, ⟨t, kb, h3.keep K n1, h4.keep K n2⟩, h5⟩
theorem LStr.keep2 {C D : String} {n k : Nat} {y : Addr} (S : LStr Z h a cs) (K : Keep h h' [x, y]) (E : Exa Z h x C) (hC : C ≠ "java/lang/String") (wi : (Cond.instantiable C n).before a0 Z = true) (E' : Exa Z h y D) (hD : D ≠ "java/lang/String") (wi' : (Cond.instantiable D k).before a0 Z = true) : LStr Z h' a cs := by
  obtain ⟨h1, h2, ⟨t, kb, h3, h4⟩, h5⟩ := S
  have n1 : a ∉ [x, y] := ninS (Exa.ne h1 E (Ne.symm hC)) (ninS (Exa.ne h1 E' (Ne.symm hD)) nin0)
  have n2 : t ∉ [x, y] := ninS (Exa.neArv E h4 wi).symm (ninS (Exa.neArv E' h4 wi').symm nin0)
  exact ⟨h1.keep K, h2.keep K n1, ⟨t, kb, h3.keep K n1, h4.keep K n2⟩, h5⟩
/-- a String under construction (its value still null) is no literal's -/
theorem SafeA.null {EL : List (String × Nat)} (E : Exa Z h x "java/lang/String") (V : Fld Z h x "java/lang/String" "value" "[B" .null) : SafeA Z EL h x := fun vm hal B => by
  obtain ⟨p, -, u, a, -, q, -, F, hy⟩ := B
  have Fa := F.ha
  have Fd := F.hd
  obtain ⟨cS, ⟨⟨s1, s2, s3, ⟨cv, kv, iv, s4, s4'⟩, ⟨cc, kc, ic, s5, s5'⟩, s6, s7, s8, s9, s10, s11, s12, s13, s14, s15, s16⟩, hfS, hcS⟩, ⟨kS, k1, k2, k3⟩, hB, hbyt⟩ := F
  obtain ⟨c1, kx, e1, e2, e3, e4, e5⟩ := E
  obtain ⟨c2, cf, k, i, f, v1, v2, v3, v4, v5, v6, v7⟩ := V
  cases e1.symm.trans v1
  rcases hy with rfl | rfl
  · obtain ⟨kv', z4⟩ := ff_back (U := Wst Z vm h) hal s4
    have z4 : Z.fieldFound? "java/lang/String" "value" "[B" = _ := z4
    rw [v2] at z4
    simp only [Option.some.injEq, Prod.mk.injEq] at z4
    cases (show h[q.sa]? = some q.sC from s1).symm.trans e1
    rw [z4.2.2.2, s8] at v7
    cases v7
  · cases (show h[q.sd]? = some q.SA from s10).symm.trans e1
    obtain ⟨-, kA, hkA, comp, hkind⟩ := s11
    have hfS' : vm.findClass "java/lang/String" = some cS := hfS
    rw [hal.findClass] at hfS'
    cases hfS'.symm.trans e2
    cases (show vm.classes[q.SA.cls]? = some kS from k1).symm.trans (show vm.classes[q.SA.cls]? = some kA from hkA)
    rw [k2] at hkind
    cases hkind
theorem LStr.lt (S : LStr Z h a cs) : a < h.size := S.1.lt
end Strs
end Jvm.OwnKit
namespace Jvm.Pilot.@@N@@
open Jvm Jvm.ClassFile Sem Op Lib Jvm.Free Jvm.Stand Jvm.LawKit Jvm.RoadKit Bundle Jvm.OwnKit Jvm.Pilot.@@N@@.Jvm.D
/-! plain facts on ints -/
theorem own_and255 (x : Int32) : ∃ k : Nat, k < 256 ∧ x &&& 255 = Int32.ofNat k := by
  have e : (x &&& 255).toBitVec.toNat = x.toBitVec.toNat &&& 255 := by
    show (x.toBitVec &&& (255#32)).toNat = _
    rw [BitVec.toNat_and]; rfl
  refine ⟨x.toBitVec.toNat &&& 255, Nat.lt_of_le_of_lt Nat.and_le_right (by decide), ?_⟩
  apply Int32.toBitVec_inj.mp
  apply BitVec.eq_of_toNat_eq
  rw [e]
  show _ = (BitVec.ofNat 32 _).toNat
  rw [BitVec.toNat_ofNat, Nat.mod_eq_of_lt (Nat.lt_of_le_of_lt Nat.and_le_right (by decide))]
theorem own_ch (x : Int32) : nar .char ((x &&& (255 : Int32)).toUInt32.toUInt16.toUInt32.toInt32) = x &&& 255 := by
  show ((x &&& (255 : Int32)).toUInt32.toUInt16.toUInt32.toInt32).toUInt32.toUInt16.toUInt32.toInt32 = _
  rw [i2c_mask, i2c_mask]
theorem own_b255 (x : Int32) : ¬ (x &&& 255) < 0 ∧ ¬ (255 : Int32) < (x &&& 255) := by
  obtain ⟨k, hk, e⟩ := own_and255 x
  rw [e]
  have t : ∀ k : Fin 256, ¬ Int32.ofNat k.val < 0 ∧ ¬ (255 : Int32) < Int32.ofNat k.val := by decide +kernel
  exact t ⟨k, hk⟩
theorem own_ch255 (x : Int32) : ¬ nar .char ((x &&& (255 : Int32)).toUInt32.toUInt16.toUInt32.toInt32) < 0 ∧ ¬ (255 : Int32) < nar .char ((x &&& (255 : Int32)).toUInt32.toUInt16.toUInt32.toInt32) := by
  rw [own_ch]; exact own_b255 x
theorem own_nar_obj {n : String} {v : Value} (h : v.isRef = true) : narrow (.object n) v = v := by rcases ref_cases h with rfl | ⟨_, rfl⟩ <;> rfl
theorem own_fit_obj {n : String} {v : Value} (h : v.isRef = true) : fits (.object n) v = true := by rcases ref_cases h with rfl | ⟨_, rfl⟩ <;> rfl
theorem own_nar255 (x : Int32) : nar .char (x &&& (255 : Int32)) = x &&& 255 := by
  show (x &&& (255 : Int32)).toUInt32.toUInt16.toUInt32.toInt32 = _
  rw [i2c_mask]
theorem own_narc {c : Int32} (h : ¬ c < 0 ∧ ¬ (255 : Int32) < c) : nar .char c = c := by
  have e : c = c &&& 255 := by
    obtain ⟨k, hk⟩ : ∃ k : Fin 256, c = Int32.ofNat k.val := by
      have h1 := h.1; have h2 := h.2
      rw [Int32.lt_iff_toInt_lt] at h1 h2
      have e0 : (0 : Int32).toInt = 0 := rfl
      have e1 : (255 : Int32).toInt = 255 := rfl
      refine ⟨⟨c.toInt.toNat, by omega⟩, ?_⟩
      apply Int32.toInt_inj.mp
      show c.toInt = (Int32.ofNat c.toInt.toNat).toInt
      rw [Int32.toInt_ofNat_of_lt (by omega)]
      omega
    subst hk
    have t : ∀ k : Fin 256, Int32.ofNat k.val = Int32.ofNat k.val &&& 255 := by decide +kernel
    exact t k
  rw [e]; exact own_nar255 c
theorem own_i2c {c : Int32} (h : ¬ c < 0 ∧ ¬ (255 : Int32) < c) : c.toUInt32.toUInt16.toUInt32.toInt32 = c := own_narc h
theorem own_andk (x : Int32) (m : Nat) (hm : m < 2147483648) : ∃ k : Nat, k ≤ m ∧ x &&& Int32.ofNat m = Int32.ofNat k := by
  have e : (x &&& Int32.ofNat m).toBitVec.toNat = x.toBitVec.toNat &&& m := by
    show (x.toBitVec &&& BitVec.ofNat 32 m).toNat = _
    rw [BitVec.toNat_and, BitVec.toNat_ofNat, Nat.mod_eq_of_lt (by omega)]
  refine ⟨x.toBitVec.toNat &&& m, Nat.and_le_right, ?_⟩
  apply Int32.toBitVec_inj.mp
  apply BitVec.eq_of_toNat_eq
  rw [e]
  show _ = (BitVec.ofNat 32 _).toNat
  rw [BitVec.toNat_ofNat, Nat.mod_eq_of_lt (Nat.lt_of_le_of_lt Nat.and_le_right (by omega))]
theorem own_and3 (x : Int32) : x &&& (3 : Int32) = 0 ∨ x &&& (3 : Int32) = 1 ∨ x &&& (3 : Int32) = 2 ∨ x &&& (3 : Int32) = 3 := by
  obtain ⟨k, hk, e⟩ := own_andk x 3 (by decide)
  have e' : x &&& (3 : Int32) = Int32.ofNat k := e
  rw [e']
  have t : ∀ k : Fin 4, Int32.ofNat k.val = 0 ∨ Int32.ofNat k.val = 1 ∨ Int32.ofNat k.val = 2 ∨ Int32.ofNat k.val = 3 := by decide
  exact t ⟨k, by omega⟩
theorem own_rem3 (x : Int32) : (x &&& (3 : Int32)) - (x &&& (3 : Int32)) / 3 * 3 = 0 ∨ (x &&& (3 : Int32)) - (x &&& (3 : Int32)) / 3 * 3 = 1 ∨ (x &&& (3 : Int32)) - (x &&& (3 : Int32)) / 3 * 3 = 2 := by
  rcases own_and3 x with e | e | e | e <;> rw [e] <;> decide
/-- the chars of mk(n, c0, c1) -/
def own_cs (n c0 c1 : Int32) : List Int32 := if n = 0 then [] else if n = 1 then [c0] else [c0, c1]
theorem own_acmp_ne {v : Value} (h : v.isRef = true) : Jvm.Free.XT.acmp .ne v v = false := by simp [Jvm.Free.XT.acmp]
theorem own_acmp_eq {v : Value} (h : v.isRef = true) : Jvm.Free.XT.acmp .eq v v = true := by simp [Jvm.Free.XT.acmp]
theorem own_narb (x : Int32) : nar .byte (x.toInt8.toInt32) = x.toInt8.toInt32 := by
  show x.toInt8.toInt32.toInt8.toInt32 = _
  rw [Int8.toInt8_toInt32]
/-- the chars of mk(n, c0, c1, c2) -/
def own_cs4 (n c0 c1 c2 : Int32) : List Int32 := if n = 0 then [] else if n = 1 then [c0] else if n = 2 then [c0, c1] else [c0, c1, c2]
theorem own_rem (x m d : Int32) (hm : 0 ≤ m.toInt) (hd : 0 < d.toInt) : 0 ≤ ((x &&& m) - (x &&& m) / d * d).toInt ∧ ((x &&& m) - (x &&& m) / d * d).toInt < d.toInt := by
  rw [irem_eq_mod]
  have h1 := (c_and x m hm).1
  rw [(c_irem (x &&& m) d _ rfl).1 h1]
  exact ⟨Int.emod_nonneg _ (by omega), Int.emod_lt_of_pos _ hd⟩
theorem own_enum3 {r : Int32} (h : 0 ≤ r.toInt ∧ r.toInt < (3 : Int32).toInt) : r = 0 ∨ r = 1 ∨ r = 2 := by
  have e3 : (3 : Int32).toInt = 3 := rfl
  have : r.toInt = 0 ∨ r.toInt = 1 ∨ r.toInt = 2 := by omega
  rcases this with e | e | e
  · exact Or.inl (Int32.toInt_inj.mp e)
  · exact Or.inr (Or.inl (Int32.toInt_inj.mp e))
  · exact Or.inr (Or.inr (Int32.toInt_inj.mp e))
theorem own_enum5 {r : Int32} (h : 0 ≤ r.toInt ∧ r.toInt < (5 : Int32).toInt) : r = 0 ∨ r = 1 ∨ r = 2 ∨ r = 3 ∨ r = 4 := by
  have e3 : (5 : Int32).toInt = 5 := rfl
  have : r.toInt = 0 ∨ r.toInt = 1 ∨ r.toInt = 2 ∨ r.toInt = 3 ∨ r.toInt = 4 := by omega
  rcases this with e | e | e | e | e
  · exact Or.inl (Int32.toInt_inj.mp e)
  · exact Or.inr (Or.inl (Int32.toInt_inj.mp e))
  · exact Or.inr (Or.inr (Or.inl (Int32.toInt_inj.mp e)))
  · exact Or.inr (Or.inr (Or.inr (Or.inl (Int32.toInt_inj.mp e))))
  · exact Or.inr (Or.inr (Or.inr (Or.inr (Int32.toInt_inj.mp e))))
theorem own_enum6 {r : Int32} (h : 0 ≤ r.toInt ∧ r.toInt < (6 : Int32).toInt) : r = 0 ∨ r = 1 ∨ r = 2 ∨ r = 3 ∨ r = 4 ∨ r = 5 := by
  have e3 : (6 : Int32).toInt = 6 := rfl
  have : r.toInt = 0 ∨ r.toInt = 1 ∨ r.toInt = 2 ∨ r.toInt = 3 ∨ r.toInt = 4 ∨ r.toInt = 5 := by omega
  rcases this with e | e | e | e | e | e
  · exact Or.inl (Int32.toInt_inj.mp e)
  · exact Or.inr (Or.inl (Int32.toInt_inj.mp e))
  · exact Or.inr (Or.inr (Or.inl (Int32.toInt_inj.mp e)))
  · exact Or.inr (Or.inr (Or.inr (Or.inl (Int32.toInt_inj.mp e))))
  · exact Or.inr (Or.inr (Or.inr (Or.inr (Or.inl (Int32.toInt_inj.mp e)))))
  · exact Or.inr (Or.inr (Or.inr (Or.inr (Or.inr (Int32.toInt_inj.mp e)))))
theorem own_fldstart {Z : State} {args : Array Value} {t : Term} {a : Addr} {C n d : String} {k : Int32} (ev : t.eval args Z none [] Z = some (.ref a)) (h : (Jvm.Cond.eq (.field t C n d) (.int k)).value args Z none Z [] = some true) : Fld Z Z.heap a C n d (.int k) := by
  have h2 := Cond.eq_int (first := Z) (t := Z) (args := args) (Cond.before_iff.mpr h) rfl
  rw [fld_at ev] at h2
  exact Fld.start h2
theorem own_up {cs : List Int32} (hp : ∀ c ∈ cs, ¬ c < 0 ∧ ¬ (255 : Int32) < c) : ∀ c ∈ cs, ¬ c < 0 ∧ ¬ (65535 : Int32) < c := fun c hc => ⟨(hp c hc).1, fun q => (hp c hc).2 (Int32.lt_trans (by decide) q)⟩
theorem own_n10 : ¬ ((1 : Int32) = 0) := by decide
theorem own_n20 : ¬ ((2 : Int32) = 0) := by decide
theorem own_n21 : ¬ ((2 : Int32) = 1) := by decide
theorem own_n30 : ¬ ((3 : Int32) = 0) := by decide
theorem own_n31 : ¬ ((3 : Int32) = 1) := by decide
theorem own_n32 : ¬ ((3 : Int32) = 2) := by decide
theorem own_bite {P : Prop} [Decidable P] {a b : Int32} (ha : ¬ a < 0 ∧ ¬ (255 : Int32) < a) (hb : ¬ b < 0 ∧ ¬ (255 : Int32) < b) : ¬ (if P then a else b) < 0 ∧ ¬ (255 : Int32) < (if P then a else b) := by
  by_cases h : P
  · rw [if_pos h]; exact ha
  · rw [if_neg h]; exact hb
theorem own_ite4 {P : Prop} [Decidable P] {a b : Int32} (ha : a = 0 ∨ a = 1 ∨ a = 2 ∨ a = 3) (hb : b = 0 ∨ b = 1 ∨ b = 2 ∨ b = 3) : (if P then a else b) = 0 ∨ (if P then a else b) = 1 ∨ (if P then a else b) = 2 ∨ (if P then a else b) = 3 := by
  by_cases h : P
  · rw [if_pos h]; exact ha
  · rw [if_neg h]; exact hb
theorem w_0 {Z : State} {a0 : Array Value} (hw : ∀ d ∈ tables_1, d.before a0 Z = true) : (Jvm.Cond.arrayClass Jvm.ClassFile.FieldType.long).before a0 Z = true := hw _ (List.mem_of_getElem? (i := 0) rfl)
theorem w_1 {Z : State} {a0 : Array Value} (hw : ∀ d ∈ tables_1, d.before a0 Z = true) : (Jvm.Cond.constant "com/example/assent/assent/log/CrashSetInsertionPointPinLaw" (7 : Nat) (65535 : Int32)).before a0 Z = true := hw _ (List.mem_of_getElem? (i := 1) rfl)
theorem w_2 {Z : State} {a0 : Array Value} (hw : ∀ d ∈ tables_1, d.before a0 Z = true) : (Jvm.Cond.methodLink "com/example/assent/assent/log/CrashSetInsertionPointPinLaw" (8 : Nat) ({ cls := "com/example/assent/assent/log/CrashSet", name := "insertionPoint", desc := "([JJ)I" } : Jvm.MethodName)).before a0 Z = true := hw _ (List.mem_of_getElem? (i := 2) rfl)
theorem w_3 {Z : State} {a0 : Array Value} (hw : ∀ d ∈ tables_1, d.before a0 Z = true) : (Jvm.Cond.static ({ cls := "com/example/assent/assent/log/CrashSet", name := "insertionPoint", desc := "([JJ)I" } : Jvm.MethodName)).before a0 Z = true := hw _ (List.mem_of_getElem? (i := 3) rfl)
theorem w_4 {Z : State} {a0 : Array Value} (hw : ∀ d ∈ tables_1, d.before a0 Z = true) : (Jvm.Cond.initialized "com/example/assent/assent/log/CrashSet").before a0 Z = true := hw _ (List.mem_of_getElem? (i := 4) rfl)
theorem w_5 {Z : State} {a0 : Array Value} (hw : ∀ d ∈ tables_1, d.before a0 Z = true) : (Jvm.Cond.code ({ cls := "com/example/assent/assent/log/CrashSet", name := "insertionPoint", desc := "([JJ)I" } : Jvm.MethodName) prog_16_method_3_code (4 : Nat) (Option.some Jvm.ClassFile.FieldType.int)).before a0 Z = true := hw _ (List.mem_of_getElem? (i := 5) rfl)
theorem w_6 {Z : State} {a0 : Array Value} (hw : ∀ d ∈ tables_1, d.before a0 Z = true) : (Jvm.Cond.methodLink "com/example/assent/assent/log/CrashSet" (55 : Nat) ({ cls := "java/util/Arrays", name := "binarySearch", desc := "([JJ)I" } : Jvm.MethodName)).before a0 Z = true := hw _ (List.mem_of_getElem? (i := 6) rfl)
theorem w_7 {Z : State} {a0 : Array Value} (hw : ∀ d ∈ tables_1, d.before a0 Z = true) : (Jvm.Cond.static ({ cls := "java/util/Arrays", name := "binarySearch", desc := "([JJ)I" } : Jvm.MethodName)).before a0 Z = true := hw _ (List.mem_of_getElem? (i := 7) rfl)
theorem w_8 {Z : State} {a0 : Array Value} (hw : ∀ d ∈ tables_1, d.before a0 Z = true) : (Jvm.Cond.initialized "java/util/Arrays").before a0 Z = true := hw _ (List.mem_of_getElem? (i := 8) rfl)
theorem w_9 {Z : State} {a0 : Array Value} (hw : ∀ d ∈ tables_1, d.before a0 Z = true) : (Jvm.Cond.code ({ cls := "java/util/Arrays", name := "binarySearch", desc := "([JJ)I" } : Jvm.MethodName) jdk_65_method_54_code (3 : Nat) (Option.some Jvm.ClassFile.FieldType.int)).before a0 Z = true := hw _ (List.mem_of_getElem? (i := 9) rfl)
theorem w_10 {Z : State} {a0 : Array Value} (hw : ∀ d ∈ tables_1, d.before a0 Z = true) : (Jvm.Cond.methodLink "java/util/Arrays" (205 : Nat) ({ cls := "java/util/Arrays", name := "binarySearch0", desc := "([JIIJ)I" } : Jvm.MethodName)).before a0 Z = true := hw _ (List.mem_of_getElem? (i := 10) rfl)
theorem w_11 {Z : State} {a0 : Array Value} (hw : ∀ d ∈ tables_1, d.before a0 Z = true) : (Jvm.Cond.static ({ cls := "java/util/Arrays", name := "binarySearch0", desc := "([JIIJ)I" } : Jvm.MethodName)).before a0 Z = true := hw _ (List.mem_of_getElem? (i := 11) rfl)
theorem w_12 {Z : State} {a0 : Array Value} (hw : ∀ d ∈ tables_1, d.before a0 Z = true) : (Jvm.Cond.code ({ cls := "java/util/Arrays", name := "binarySearch0", desc := "([JIIJ)I" } : Jvm.MethodName) jdk_65_method_56_code (10 : Nat) (Option.some Jvm.ClassFile.FieldType.int)).before a0 Z = true := hw _ (List.mem_of_getElem? (i := 12) rfl)
theorem d_jdk_65_method_56_0 : decode jdk_65_method_56_code 0 = .ok (.iload_n 1, 1) := by decide +kernel
theorem d_jdk_65_method_56_1 : decode jdk_65_method_56_code 1 = .ok (.istore 5, 2) := by decide +kernel
theorem d_jdk_65_method_56_3 : decode jdk_65_method_56_code 3 = .ok (.iload_n 2, 1) := by decide +kernel
theorem d_jdk_65_method_56_4 : decode jdk_65_method_56_code 4 = .ok (.iconst 1, 1) := by decide +kernel
theorem d_jdk_65_method_56_5 : decode jdk_65_method_56_code 5 = .ok (.isub, 1) := by decide +kernel
theorem d_jdk_65_method_56_6 : decode jdk_65_method_56_code 6 = .ok (.istore 6, 2) := by decide +kernel
theorem d_jdk_65_method_56_8 : decode jdk_65_method_56_code 8 = .ok (.iload 5, 2) := by decide +kernel
theorem d_jdk_65_method_56_10 : decode jdk_65_method_56_code 10 = .ok (.iload 6, 2) := by decide +kernel
theorem d_jdk_65_method_56_12 : decode jdk_65_method_56_code 12 = .ok (.if_icmp .gt 56, 3) := by decide +kernel
theorem d_jdk_65_method_56_68 : decode jdk_65_method_56_code 68 = .ok (.iload 5, 2) := by decide +kernel
theorem d_jdk_65_method_56_70 : decode jdk_65_method_56_code 70 = .ok (.iconst 1, 1) := by decide +kernel
theorem d_jdk_65_method_56_71 : decode jdk_65_method_56_code 71 = .ok (.iadd, 1) := by decide +kernel
theorem d_jdk_65_method_56_72 : decode jdk_65_method_56_code 72 = .ok (.ineg, 1) := by decide +kernel
theorem d_jdk_65_method_56_73 : decode jdk_65_method_56_code 73 = .ok (.ireturn, 1) := by decide +kernel
theorem d_jdk_65_method_56_15 : decode jdk_65_method_56_code 15 = .ok (.iload 5, 2) := by decide +kernel
theorem d_jdk_65_method_56_17 : decode jdk_65_method_56_code 17 = .ok (.iload 6, 2) := by decide +kernel
theorem d_jdk_65_method_56_19 : decode jdk_65_method_56_code 19 = .ok (.iadd, 1) := by decide +kernel
theorem d_jdk_65_method_56_20 : decode jdk_65_method_56_code 20 = .ok (.iconst 1, 1) := by decide +kernel
theorem d_jdk_65_method_56_21 : decode jdk_65_method_56_code 21 = .ok (.iushr, 1) := by decide +kernel
theorem d_jdk_65_method_56_22 : decode jdk_65_method_56_code 22 = .ok (.istore 7, 2) := by decide +kernel
theorem d_jdk_65_method_56_24 : decode jdk_65_method_56_code 24 = .ok (.aload_n 0, 1) := by decide +kernel
theorem d_jdk_65_method_56_25 : decode jdk_65_method_56_code 25 = .ok (.iload 7, 2) := by decide +kernel
theorem d_jdk_65_method_56_27 : decode jdk_65_method_56_code 27 = .ok (.laload, 1) := by decide +kernel
theorem d_jdk_65_method_56_28 : decode jdk_65_method_56_code 28 = .ok (.lstore 8, 2) := by decide +kernel
theorem d_jdk_65_method_56_30 : decode jdk_65_method_56_code 30 = .ok (.lload 8, 2) := by decide +kernel
theorem d_jdk_65_method_56_32 : decode jdk_65_method_56_code 32 = .ok (.lload_n 3, 1) := by decide +kernel
theorem d_jdk_65_method_56_33 : decode jdk_65_method_56_code 33 = .ok (.lcmp, 1) := by decide +kernel
theorem d_jdk_65_method_56_34 : decode jdk_65_method_56_code 34 = .ok (.ifCond .ge 12, 3) := by decide +kernel
theorem d_jdk_65_method_56_46 : decode jdk_65_method_56_code 46 = .ok (.lload 8, 2) := by decide +kernel
theorem d_jdk_65_method_56_48 : decode jdk_65_method_56_code 48 = .ok (.lload_n 3, 1) := by decide +kernel
theorem d_jdk_65_method_56_49 : decode jdk_65_method_56_code 49 = .ok (.lcmp, 1) := by decide +kernel
theorem d_jdk_65_method_56_50 : decode jdk_65_method_56_code 50 = .ok (.ifCond .le 12, 3) := by decide +kernel
theorem d_jdk_65_method_56_62 : decode jdk_65_method_56_code 62 = .ok (.iload 7, 2) := by decide +kernel
theorem d_jdk_65_method_56_64 : decode jdk_65_method_56_code 64 = .ok (.ireturn, 1) := by decide +kernel
theorem d_jdk_65_method_56_53 : decode jdk_65_method_56_code 53 = .ok (.iload 7, 2) := by decide +kernel
theorem d_jdk_65_method_56_55 : decode jdk_65_method_56_code 55 = .ok (.iconst 1, 1) := by decide +kernel
theorem d_jdk_65_method_56_56 : decode jdk_65_method_56_code 56 = .ok (.isub, 1) := by decide +kernel
theorem d_jdk_65_method_56_57 : decode jdk_65_method_56_code 57 = .ok (.istore 6, 2) := by decide +kernel
theorem d_jdk_65_method_56_59 : decode jdk_65_method_56_code 59 = .ok (.goto 6, 3) := by decide +kernel
theorem d_jdk_65_method_56_65 : decode jdk_65_method_56_code 65 = .ok (.goto (-57), 3) := by decide +kernel
theorem d_jdk_65_method_56_37 : decode jdk_65_method_56_code 37 = .ok (.iload 7, 2) := by decide +kernel
theorem d_jdk_65_method_56_39 : decode jdk_65_method_56_code 39 = .ok (.iconst 1, 1) := by decide +kernel
theorem d_jdk_65_method_56_40 : decode jdk_65_method_56_code 40 = .ok (.iadd, 1) := by decide +kernel
theorem d_jdk_65_method_56_41 : decode jdk_65_method_56_code 41 = .ok (.istore 5, 2) := by decide +kernel
theorem d_jdk_65_method_56_43 : decode jdk_65_method_56_code 43 = .ok (.goto 22, 3) := by decide +kernel
theorem d_jdk_65_method_54_0 : decode jdk_65_method_54_code 0 = .ok (.aload_n 0, 1) := by decide +kernel
theorem d_jdk_65_method_54_1 : decode jdk_65_method_54_code 1 = .ok (.iconst 0, 1) := by decide +kernel
theorem d_jdk_65_method_54_2 : decode jdk_65_method_54_code 2 = .ok (.aload_n 0, 1) := by decide +kernel
theorem d_jdk_65_method_54_3 : decode jdk_65_method_54_code 3 = .ok (.arraylength, 1) := by decide +kernel
theorem d_jdk_65_method_54_4 : decode jdk_65_method_54_code 4 = .ok (.lload_n 1, 1) := by decide +kernel
theorem d_jdk_65_method_54_5 : decode jdk_65_method_54_code 5 = .ok (.invokestatic 205, 3) := by decide +kernel
theorem d_jdk_65_method_54_8 : decode jdk_65_method_54_code 8 = .ok (.ireturn, 1) := by decide +kernel
theorem d_prog_16_method_3_0 : decode prog_16_method_3_code 0 = .ok (.aload_n 0, 1) := by decide +kernel
theorem d_prog_16_method_3_1 : decode prog_16_method_3_code 1 = .ok (.lload_n 1, 1) := by decide +kernel
theorem d_prog_16_method_3_2 : decode prog_16_method_3_code 2 = .ok (.invokestatic 55, 3) := by decide +kernel
theorem d_prog_16_method_3_5 : decode prog_16_method_3_code 5 = .ok (.istore_n 3, 1) := by decide +kernel
theorem d_prog_16_method_3_6 : decode prog_16_method_3_code 6 = .ok (.iload_n 3, 1) := by decide +kernel
theorem d_prog_16_method_3_7 : decode prog_16_method_3_code 7 = .ok (.ifCond .lt 7, 3) := by decide +kernel
theorem d_prog_16_method_3_14 : decode prog_16_method_3_code 14 = .ok (.iload_n 3, 1) := by decide +kernel
theorem d_prog_16_method_3_15 : decode prog_16_method_3_code 15 = .ok (.ineg, 1) := by decide +kernel
theorem d_prog_16_method_3_16 : decode prog_16_method_3_code 16 = .ok (.iconst 1, 1) := by decide +kernel
theorem d_prog_16_method_3_17 : decode prog_16_method_3_code 17 = .ok (.isub, 1) := by decide +kernel
theorem d_prog_16_method_3_10 : decode prog_16_method_3_code 10 = .ok (.iload_n 3, 1) := by decide +kernel
theorem d_prog_16_method_3_11 : decode prog_16_method_3_code 11 = .ok (.goto 7, 3) := by decide +kernel
theorem d_prog_16_method_3_18 : decode prog_16_method_3_code 18 = .ok (.ireturn, 1) := by decide +kernel
theorem pn_0 : plainName "java/util/Arrays" = true := by first | (simp [plainName, overriddenIn]; done) | decide +kernel
theorem pn_1 : plainName "com/example/assent/assent/log/CrashSet" = true := by first | (simp [plainName, overriddenIn]; done) | decide +kernel
theorem pn_2 : plainName "com/example/assent/assent/log/CrashSetInsertionPointPinLaw" = true := by first | (simp [plainName, overriddenIn]; done) | decide +kernel
theorem pd_0 : parseMethodDescriptor "([JIIJ)I" = some ⟨[(.array .long), .int, .int, .long], some .int⟩ := by decide +kernel
theorem pd_1 : parseMethodDescriptor "([JJ)I" = some ⟨[(.array .long), .long], some .int⟩ := by decide +kernel
theorem ef_own_bs0_0 (m : MethodId) (b : Addr) (q : Int64) : entryFrame m #[(.ref b), (.int (0 : Int32)), (.int (0 : Int32)), (.long q)] 10 = mkF m 0 #[.val (.ref b), .val (.int (0 : Int32)), .val (.int (0 : Int32)), .val (.long q), .second, .unset, .unset, .unset, .unset, .unset] [] := by first | (simp [entryFrame, mkF, argsToLocals, Value.category, maxLocals]; done) | rfl
theorem ef_own_bs0_1 (m : MethodId) (b : Addr) (q : Int64) : entryFrame m #[(.ref b), (.int (0 : Int32)), (.int (1 : Int32)), (.long q)] 10 = mkF m 0 #[.val (.ref b), .val (.int (0 : Int32)), .val (.int (1 : Int32)), .val (.long q), .second, .unset, .unset, .unset, .unset, .unset] [] := by first | (simp [entryFrame, mkF, argsToLocals, Value.category, maxLocals]; done) | rfl
theorem ef_own_bs0_2 (m : MethodId) (b : Addr) (q : Int64) : entryFrame m #[(.ref b), (.int (0 : Int32)), (.int (2 : Int32)), (.long q)] 10 = mkF m 0 #[.val (.ref b), .val (.int (0 : Int32)), .val (.int (2 : Int32)), .val (.long q), .second, .unset, .unset, .unset, .unset, .unset] [] := by first | (simp [entryFrame, mkF, argsToLocals, Value.category, maxLocals]; done) | rfl
theorem ef_own_bs0_3 (m : MethodId) (b : Addr) (q : Int64) : entryFrame m #[(.ref b), (.int (0 : Int32)), (.int (3 : Int32)), (.long q)] 10 = mkF m 0 #[.val (.ref b), .val (.int (0 : Int32)), .val (.int (3 : Int32)), .val (.long q), .second, .unset, .unset, .unset, .unset, .unset] [] := by first | (simp [entryFrame, mkF, argsToLocals, Value.category, maxLocals]; done) | rfl
theorem ef_own_bs_0 (m : MethodId) (b : Addr) (q : Int64) : entryFrame m #[(.ref b), (.long q)] 3 = mkF m 0 #[.val (.ref b), .val (.long q), .second] [] := by first | (simp [entryFrame, mkF, argsToLocals, Value.category, maxLocals]; done) | rfl
theorem ef_own_bs_1 (m : MethodId) (b : Addr) (q : Int64) : entryFrame m #[(.ref b), (.long q)] 3 = mkF m 0 #[.val (.ref b), .val (.long q), .second] [] := by first | (simp [entryFrame, mkF, argsToLocals, Value.category, maxLocals]; done) | rfl
theorem ef_own_bs_2 (m : MethodId) (b : Addr) (q : Int64) : entryFrame m #[(.ref b), (.long q)] 3 = mkF m 0 #[.val (.ref b), .val (.long q), .second] [] := by first | (simp [entryFrame, mkF, argsToLocals, Value.category, maxLocals]; done) | rfl
theorem ef_own_bs_3 (m : MethodId) (b : Addr) (q : Int64) : entryFrame m #[(.ref b), (.long q)] 3 = mkF m 0 #[.val (.ref b), .val (.long q), .second] [] := by first | (simp [entryFrame, mkF, argsToLocals, Value.category, maxLocals]; done) | rfl
theorem ef_own_ip_0 (m : MethodId) (b : Addr) (q : Int64) : entryFrame m #[(.ref b), (.long q)] 4 = mkF m 0 #[.val (.ref b), .val (.long q), .second, .unset] [] := by first | (simp [entryFrame, mkF, argsToLocals, Value.category, maxLocals]; done) | rfl
theorem ef_own_ip_1 (m : MethodId) (b : Addr) (q : Int64) : entryFrame m #[(.ref b), (.long q)] 4 = mkF m 0 #[.val (.ref b), .val (.long q), .second, .unset] [] := by first | (simp [entryFrame, mkF, argsToLocals, Value.category, maxLocals]; done) | rfl
theorem ef_own_ip_2 (m : MethodId) (b : Addr) (q : Int64) : entryFrame m #[(.ref b), (.long q)] 4 = mkF m 0 #[.val (.ref b), .val (.long q), .second, .unset] [] := by first | (simp [entryFrame, mkF, argsToLocals, Value.category, maxLocals]; done) | rfl
theorem ef_own_ip_3 (m : MethodId) (b : Addr) (q : Int64) : entryFrame m #[(.ref b), (.long q)] 4 = mkF m 0 #[.val (.ref b), .val (.long q), .second, .unset] [] := by first | (simp [entryFrame, mkF, argsToLocals, Value.category, maxLocals]; done) | rfl
theorem ef_own_law (m : MethodId) (i0 : Int64) (i1 : Int64) (i2 : Int64) (i3 : Int64) (i4 : Int32) : entryFrame m #[(.long i0), (.long i1), (.long i2), (.long i3), (.int i4)] maxLocals = mkF m 0 #[.val (.long i0), .second, .val (.long i1), .second, .val (.long i2), .second, .val (.long i3), .second, .val (.int i4), .unset, .unset, .unset, .unset, .unset, .unset, .unset, .unset, .unset, .unset, .unset, .unset, .unset, .unset, .unset, .unset] [] := by first | (simp [entryFrame, mkF, argsToLocals, Value.category, maxLocals]; done) | rfl
/-- how many lie below q -/
def own_cnt : List Int64 → Int64 → Int32
  | [], _ => 0
  | v :: r, q => (if v < q then 1 else 0) + own_cnt r q
theorem own_lt {x y : Int64} (h : ¬ y < x) (n : ¬ x = y) : x < y := by
  rw [Int64.lt_iff_toInt_lt] at *
  have : x.toInt ≠ y.toInt := fun q => n (Int64.toInt_inj.mp q)
  omega
theorem own_plain0 (nb  : Int64) : own_cnt [] nb = (0 : Int32) := by
  rfl
theorem own_plain1 (nb x : Int64) : own_cnt [x] nb = (if (lcmpW x nb) < (0 : Int32) then (1 : Int32) else (0 : Int32)) := by
  simp only [own_cnt, lw_lt]
  by_cases cx : x < nb <;> first | (simp [cx]; done) | (simp only [cx, if_true, if_false] <;> decide)
theorem own_plain2 (nb x y : Int64) : own_cnt [x, y] nb = (if (lcmpW x nb) < (0 : Int32) then (if (lcmpW y nb) < (0 : Int32) then (2 : Int32) else (1 : Int32)) else (if (lcmpW y nb) < (0 : Int32) then (1 : Int32) else (0 : Int32))) := by
  simp only [own_cnt, lw_lt]
  by_cases cx : x < nb <;> by_cases cy : y < nb <;> first | (simp [cx, cy]; done) | (simp only [cx, cy, if_true, if_false] <;> decide)
theorem own_plain3 (nb x y z : Int64) : own_cnt [x, y, z] nb = (if (lcmpW x nb) < (0 : Int32) then (if (lcmpW y nb) < (0 : Int32) then (if (lcmpW z nb) < (0 : Int32) then (3 : Int32) else (2 : Int32)) else (if (lcmpW z nb) < (0 : Int32) then (2 : Int32) else (1 : Int32))) else (if (lcmpW y nb) < (0 : Int32) then (if (lcmpW z nb) < (0 : Int32) then (2 : Int32) else (1 : Int32)) else (if (lcmpW z nb) < (0 : Int32) then (1 : Int32) else (0 : Int32)))) := by
  simp only [own_cnt, lw_lt]
  by_cases cx : x < nb <;> by_cases cy : y < nb <;> by_cases cz : z < nb <;> first | (simp [cx, cy, cz]; done) | (simp only [cx, cy, cz, if_true, if_false] <;> decide)
set_option maxRecDepth 65536 in
set_option maxHeartbeats 40000000 in
theorem own_bs0_0 (l : Launch) (Z : State) (a0 : Array Value) (hw : ∀ d ∈ tables_1, d.before a0 Z = true) (h0 : Heap) (hO : Ext Z.heap h0) (b : Addr) (kA : ClassId) (q : Int64) (V : Arv Z h0 b kA .long (0 : Int32) [] (.long (0 : Int64)))  :
    CtrN l Z (⟨"java/util/Arrays", "binarySearch0", "([JIIJ)I"⟩ : MethodName) jdk_65_method_56_code 10 (some .int) ({ frames := 0, cells := 0, slots := 0, locals := 0 } : Room) #[(.ref b), (.int (0 : Int32)), (.int (0 : Int32)), (.long q)] h0 (fun v h' => Keep h0 h' [] ∧ ∃ r, v = some (.int r) ∧ (if r < 0 then -r - 1 else r) = (own_cnt [] q)) := by
  refine CtrN.of (plainFor_of_name pn_0) hO ?_
  intro p e s m below meth c T0 X0 hsh hby hml hret hlk hnm
  refine Goes.cast (ef_own_bs0_0 m b q) ?_
  show Goes _ _ _ _ T0 (mkF m 0 #[.val (.ref b), .val (.int (0 : Int32)), .val (.int (0 : Int32)), .val (.long q), .second, .unset, .unset, .unset, .unset, .unset] [])
  refine Goes.go (fun _ k => XS.iloadN X0.here X0.ex rfl (hb hby d_jdk_65_method_56_0) rfl (XS.istore X0.here X0.ex rfl (hb hby d_jdk_65_method_56_1) rfl (l' := #[.val (.ref b), .val (.int (0 : Int32)), .val (.int (0 : Int32)), .val (.long q), .second, .val (.int (0 : Int32)), .unset, .unset, .unset, .unset]) rfl (XS.iloadN X0.here X0.ex rfl (hb hby d_jdk_65_method_56_3) rfl (XS.iconst X0.here X0.ex rfl (hb hby d_jdk_65_method_56_4) (XS.isub X0.here X0.ex rfl (hb hby d_jdk_65_method_56_5) rfl k))))) ?_
  show Goes _ _ _ _ T0 (mkF m 6 #[.val (.ref b), .val (.int (0 : Int32)), .val (.int (0 : Int32)), .val (.long q), .second, .val (.int (0 : Int32)), .unset, .unset, .unset, .unset] [(.int ((0 : Int32) - (1 : Int32)))])
  refine Goes.cast (congrArg (fun zq_ => (mkF m 6 #[.val (.ref b), .val (.int (0 : Int32)), .val (.int (0 : Int32)), .val (.long q), .second, .val (.int (0 : Int32)), .unset, .unset, .unset, .unset] [(.int zq_)])) (show (((0 : Int32) - (1 : Int32)) : Int32) = (-1 : Int32) from by decide)) ?_
  show Goes _ _ _ _ T0 (mkF m 6 #[.val (.ref b), .val (.int (0 : Int32)), .val (.int (0 : Int32)), .val (.long q), .second, .val (.int (0 : Int32)), .unset, .unset, .unset, .unset] [(.int (-1 : Int32))])
  refine Goes.go (fun _ k => XS.istore X0.here X0.ex rfl (hb hby d_jdk_65_method_56_6) rfl (l' := #[.val (.ref b), .val (.int (0 : Int32)), .val (.int (0 : Int32)), .val (.long q), .second, .val (.int (0 : Int32)), .val (.int (-1 : Int32)), .unset, .unset, .unset]) rfl (XS.iload X0.here X0.ex rfl (hb hby d_jdk_65_method_56_8) rfl (XS.iload X0.here X0.ex rfl (hb hby d_jdk_65_method_56_10) rfl (XS.icmpYes X0.here X0.ex rfl (pc0 := 12) (pc' := 68) rfl (hb hby d_jdk_65_method_56_12) rfl (cd_t (cd := .gt) (x := (0 : Int32)) (y := (-1 : Int32)) (by decide)) (by decide) (by decide) (XS.iload X0.here X0.ex rfl (hb hby d_jdk_65_method_56_68) rfl (XS.iconst X0.here X0.ex rfl (hb hby d_jdk_65_method_56_70) k)))))) ?_
  show Goes _ _ _ _ T0 (mkF m 71 #[.val (.ref b), .val (.int (0 : Int32)), .val (.int (0 : Int32)), .val (.long q), .second, .val (.int (0 : Int32)), .val (.int (-1 : Int32)), .unset, .unset, .unset] [(.int (1 : Int32)), (.int (0 : Int32))])
  refine Goes.go (fun _ k => XS.iadd X0.here X0.ex rfl (hb hby d_jdk_65_method_56_71) rfl k) ?_
  show Goes _ _ _ _ T0 (mkF m 72 #[.val (.ref b), .val (.int (0 : Int32)), .val (.int (0 : Int32)), .val (.long q), .second, .val (.int (0 : Int32)), .val (.int (-1 : Int32)), .unset, .unset, .unset] [(.int ((0 : Int32) + (1 : Int32)))])
  refine Goes.cast (congrArg (fun zq_ => (mkF m 72 #[.val (.ref b), .val (.int (0 : Int32)), .val (.int (0 : Int32)), .val (.long q), .second, .val (.int (0 : Int32)), .val (.int (-1 : Int32)), .unset, .unset, .unset] [(.int zq_)])) (show (((0 : Int32) + (1 : Int32)) : Int32) = (1 : Int32) from by decide)) ?_
  show Goes _ _ _ _ T0 (mkF m 72 #[.val (.ref b), .val (.int (0 : Int32)), .val (.int (0 : Int32)), .val (.long q), .second, .val (.int (0 : Int32)), .val (.int (-1 : Int32)), .unset, .unset, .unset] [(.int (1 : Int32))])
  refine Goes.go (fun _ k => XS.ineg X0.here X0.ex rfl (hb hby d_jdk_65_method_56_72) rfl k) ?_
  show Goes _ _ _ _ T0 (mkF m 73 #[.val (.ref b), .val (.int (0 : Int32)), .val (.int (0 : Int32)), .val (.long q), .second, .val (.int (0 : Int32)), .val (.int (-1 : Int32)), .unset, .unset, .unset] [(.int (-(1 : Int32)))])
  refine Goes.outN X0 (fun q => by rw [hret] at q; cases q) hlk (X0.rI hret (hb hby d_jdk_65_method_56_73)) ?_ (by decide) (by decide)
  exact ⟨Ext.oKeepOf X0.ext [], (-(1 : Int32)), rfl, by first | (simp only [own_cnt] <;> decide) | (simp [own_cnt]; done)⟩
set_option maxRecDepth 65536 in
set_option maxHeartbeats 40000000 in
theorem own_bs0_1 (l : Launch) (Z : State) (a0 : Array Value) (hw : ∀ d ∈ tables_1, d.before a0 Z = true) (h0 : Heap) (hO : Ext Z.heap h0) (b : Addr) (kA : ClassId) (q : Int64) (x : Int64) (V : Arv Z h0 b kA .long (1 : Int32) [(.long x)] (.long (0 : Int64)))  :
    CtrN l Z (⟨"java/util/Arrays", "binarySearch0", "([JIIJ)I"⟩ : MethodName) jdk_65_method_56_code 10 (some .int) ({ frames := 0, cells := 0, slots := 0, locals := 0 } : Room) #[(.ref b), (.int (0 : Int32)), (.int (1 : Int32)), (.long q)] h0 (fun v h' => Keep h0 h' [] ∧ ∃ r, v = some (.int r) ∧ (if r < 0 then -r - 1 else r) = (own_cnt [x] q)) := by
  refine CtrN.of (plainFor_of_name pn_0) hO ?_
  intro p e s m below meth c T0 X0 hsh hby hml hret hlk hnm
  refine Goes.cast (ef_own_bs0_1 m b q) ?_
  show Goes _ _ _ _ T0 (mkF m 0 #[.val (.ref b), .val (.int (0 : Int32)), .val (.int (1 : Int32)), .val (.long q), .second, .unset, .unset, .unset, .unset, .unset] [])
  refine Goes.go (fun _ k => XS.iloadN X0.here X0.ex rfl (hb hby d_jdk_65_method_56_0) rfl (XS.istore X0.here X0.ex rfl (hb hby d_jdk_65_method_56_1) rfl (l' := #[.val (.ref b), .val (.int (0 : Int32)), .val (.int (1 : Int32)), .val (.long q), .second, .val (.int (0 : Int32)), .unset, .unset, .unset, .unset]) rfl (XS.iloadN X0.here X0.ex rfl (hb hby d_jdk_65_method_56_3) rfl (XS.iconst X0.here X0.ex rfl (hb hby d_jdk_65_method_56_4) (XS.isub X0.here X0.ex rfl (hb hby d_jdk_65_method_56_5) rfl k))))) ?_
  show Goes _ _ _ _ T0 (mkF m 6 #[.val (.ref b), .val (.int (0 : Int32)), .val (.int (1 : Int32)), .val (.long q), .second, .val (.int (0 : Int32)), .unset, .unset, .unset, .unset] [(.int ((1 : Int32) - (1 : Int32)))])
  refine Goes.cast (congrArg (fun zq_ => (mkF m 6 #[.val (.ref b), .val (.int (0 : Int32)), .val (.int (1 : Int32)), .val (.long q), .second, .val (.int (0 : Int32)), .unset, .unset, .unset, .unset] [(.int zq_)])) (show (((1 : Int32) - (1 : Int32)) : Int32) = (0 : Int32) from by decide)) ?_
  show Goes _ _ _ _ T0 (mkF m 6 #[.val (.ref b), .val (.int (0 : Int32)), .val (.int (1 : Int32)), .val (.long q), .second, .val (.int (0 : Int32)), .unset, .unset, .unset, .unset] [(.int (0 : Int32))])
  refine Goes.go (fun _ k => XS.istore X0.here X0.ex rfl (hb hby d_jdk_65_method_56_6) rfl (l' := #[.val (.ref b), .val (.int (0 : Int32)), .val (.int (1 : Int32)), .val (.long q), .second, .val (.int (0 : Int32)), .val (.int (0 : Int32)), .unset, .unset, .unset]) rfl (XS.iload X0.here X0.ex rfl (hb hby d_jdk_65_method_56_8) rfl (XS.iload X0.here X0.ex rfl (hb hby d_jdk_65_method_56_10) rfl (XS.icmpNo X0.here X0.ex rfl (hb hby d_jdk_65_method_56_12) rfl (cd_f (cd := .gt) (x := (0 : Int32)) (y := (0 : Int32)) (by decide)) (XS.iload X0.here X0.ex rfl (hb hby d_jdk_65_method_56_15) rfl (XS.iload X0.here X0.ex rfl (hb hby d_jdk_65_method_56_17) rfl k)))))) ?_
  show Goes _ _ _ _ T0 (mkF m 19 #[.val (.ref b), .val (.int (0 : Int32)), .val (.int (1 : Int32)), .val (.long q), .second, .val (.int (0 : Int32)), .val (.int (0 : Int32)), .unset, .unset, .unset] [(.int (0 : Int32)), (.int (0 : Int32))])
  refine Goes.go (fun _ k => XS.iadd X0.here X0.ex rfl (hb hby d_jdk_65_method_56_19) rfl k) ?_
  show Goes _ _ _ _ T0 (mkF m 20 #[.val (.ref b), .val (.int (0 : Int32)), .val (.int (1 : Int32)), .val (.long q), .second, .val (.int (0 : Int32)), .val (.int (0 : Int32)), .unset, .unset, .unset] [(.int ((0 : Int32) + (0 : Int32)))])
  refine Goes.cast (congrArg (fun zq_ => (mkF m 20 #[.val (.ref b), .val (.int (0 : Int32)), .val (.int (1 : Int32)), .val (.long q), .second, .val (.int (0 : Int32)), .val (.int (0 : Int32)), .unset, .unset, .unset] [(.int zq_)])) (show (((0 : Int32) + (0 : Int32)) : Int32) = (0 : Int32) from by decide)) ?_
  show Goes _ _ _ _ T0 (mkF m 20 #[.val (.ref b), .val (.int (0 : Int32)), .val (.int (1 : Int32)), .val (.long q), .second, .val (.int (0 : Int32)), .val (.int (0 : Int32)), .unset, .unset, .unset] [(.int (0 : Int32))])
  refine Goes.go (fun _ k => XS.iconst X0.here X0.ex rfl (hb hby d_jdk_65_method_56_20) (XS.iushr X0.here X0.ex rfl (hb hby d_jdk_65_method_56_21) rfl k)) ?_
  show Goes _ _ _ _ T0 (mkF m 22 #[.val (.ref b), .val (.int (0 : Int32)), .val (.int (1 : Int32)), .val (.long q), .second, .val (.int (0 : Int32)), .val (.int (0 : Int32)), .unset, .unset, .unset] [(.int (((0 : Int32).toUInt32 >>> ((1 : Int32) &&& 31).toUInt32).toInt32))])
  refine Goes.cast (congrArg (fun zq_ => (mkF m 22 #[.val (.ref b), .val (.int (0 : Int32)), .val (.int (1 : Int32)), .val (.long q), .second, .val (.int (0 : Int32)), .val (.int (0 : Int32)), .unset, .unset, .unset] [(.int zq_)])) (show ((((0 : Int32).toUInt32 >>> ((1 : Int32) &&& 31).toUInt32).toInt32) : Int32) = (0 : Int32) from by decide)) ?_
  show Goes _ _ _ _ T0 (mkF m 22 #[.val (.ref b), .val (.int (0 : Int32)), .val (.int (1 : Int32)), .val (.long q), .second, .val (.int (0 : Int32)), .val (.int (0 : Int32)), .unset, .unset, .unset] [(.int (0 : Int32))])
  refine Goes.go (fun _ k => XS.istore X0.here X0.ex rfl (hb hby d_jdk_65_method_56_22) rfl (l' := #[.val (.ref b), .val (.int (0 : Int32)), .val (.int (1 : Int32)), .val (.long q), .second, .val (.int (0 : Int32)), .val (.int (0 : Int32)), .val (.int (0 : Int32)), .unset, .unset]) rfl (XS.aloadN X0.here X0.ex rfl (hb hby d_jdk_65_method_56_24) rfl rfl (XS.iload X0.here X0.ex rfl (hb hby d_jdk_65_method_56_25) rfl k))) ?_
  show Goes _ _ _ _ T0 (mkF m 27 #[.val (.ref b), .val (.int (0 : Int32)), .val (.int (1 : Int32)), .val (.long q), .second, .val (.int (0 : Int32)), .val (.int (0 : Int32)), .val (.int (0 : Int32)), .unset, .unset] [(.int (0 : Int32)), (.ref b)])
  refine Goes.go (X0.laload V ⟨by decide, by decide⟩ (v := .long x) rfl rfl rfl (hb hby d_jdk_65_method_56_27)) ?_
  show Goes _ _ _ _ T0 (mkF m 28 #[.val (.ref b), .val (.int (0 : Int32)), .val (.int (1 : Int32)), .val (.long q), .second, .val (.int (0 : Int32)), .val (.int (0 : Int32)), .val (.int (0 : Int32)), .unset, .unset] [(.long x)])
  refine Goes.go (fun _ k => XS.lstore X0.here X0.ex rfl (hb hby d_jdk_65_method_56_28) rfl (l' := #[.val (.ref b), .val (.int (0 : Int32)), .val (.int (1 : Int32)), .val (.long q), .second, .val (.int (0 : Int32)), .val (.int (0 : Int32)), .val (.int (0 : Int32)), .val (.long x), .second]) rfl (XS.lload X0.here X0.ex rfl (hb hby d_jdk_65_method_56_30) rfl (XS.lloadN X0.here X0.ex rfl (hb hby d_jdk_65_method_56_32) rfl (XS.lcmp X0.here X0.ex rfl (hb hby d_jdk_65_method_56_33) rfl k)))) ?_
  show Goes _ _ _ _ T0 (mkF m 34 #[.val (.ref b), .val (.int (0 : Int32)), .val (.int (1 : Int32)), .val (.long q), .second, .val (.int (0 : Int32)), .val (.int (0 : Int32)), .val (.int (0 : Int32)), .val (.long x), .second] [(.int (lcmpW x q))])
  refine Goes.ifc (pc' := 46) X0.here X0.ex (hb hby d_jdk_65_method_56_34) (by decide) (by decide) (fun hk0 => ?_) (fun hk0 => ?_)
  · have hk0 : ¬ ((lcmpW x q) < (0 : Int32)) := hk0
    show Goes _ _ _ _ T0 (mkF m 46 #[.val (.ref b), .val (.int (0 : Int32)), .val (.int (1 : Int32)), .val (.long q), .second, .val (.int (0 : Int32)), .val (.int (0 : Int32)), .val (.int (0 : Int32)), .val (.long x), .second] [])
    rw [lw_lt] at hk0
    refine Goes.go (fun _ k => XS.lload X0.here X0.ex rfl (hb hby d_jdk_65_method_56_46) rfl (XS.lloadN X0.here X0.ex rfl (hb hby d_jdk_65_method_56_48) rfl (XS.lcmp X0.here X0.ex rfl (hb hby d_jdk_65_method_56_49) rfl k))) ?_
    show Goes _ _ _ _ T0 (mkF m 50 #[.val (.ref b), .val (.int (0 : Int32)), .val (.int (1 : Int32)), .val (.long q), .second, .val (.int (0 : Int32)), .val (.int (0 : Int32)), .val (.int (0 : Int32)), .val (.long x), .second] [(.int (lcmpW x q))])
    refine Goes.ifc (pc' := 62) X0.here X0.ex (hb hby d_jdk_65_method_56_50) (by decide) (by decide) (fun hk1 => ?_) (fun hk1 => ?_)
    · have hk1 : ¬ ((0 : Int32) < (lcmpW x q)) := hk1
      show Goes _ _ _ _ T0 (mkF m 62 #[.val (.ref b), .val (.int (0 : Int32)), .val (.int (1 : Int32)), .val (.long q), .second, .val (.int (0 : Int32)), .val (.int (0 : Int32)), .val (.int (0 : Int32)), .val (.long x), .second] [])
      rw [lw_gt] at hk1
      refine Goes.go (fun _ k => XS.iload X0.here X0.ex rfl (hb hby d_jdk_65_method_56_62) rfl k) ?_
      show Goes _ _ _ _ T0 (mkF m 64 #[.val (.ref b), .val (.int (0 : Int32)), .val (.int (1 : Int32)), .val (.long q), .second, .val (.int (0 : Int32)), .val (.int (0 : Int32)), .val (.int (0 : Int32)), .val (.long x), .second] [(.int (0 : Int32))])
      have cx : ¬ x < q := by simp only [Int64.lt_iff_toInt_lt] at *; omega
      refine Goes.outN X0 (fun q => by rw [hret] at q; cases q) hlk (X0.rI hret (hb hby d_jdk_65_method_56_64)) ?_ (by decide) (by decide)
      exact ⟨Ext.oKeepOf X0.ext [], (0 : Int32), rfl, by first | (simp only [own_cnt, if_neg cx] <;> decide) | (simp [own_cnt, cx]; done)⟩
    · have hk1 : (0 : Int32) < (lcmpW x q) := Classical.not_not.mp hk1
      show Goes _ _ _ _ T0 (mkF m 53 #[.val (.ref b), .val (.int (0 : Int32)), .val (.int (1 : Int32)), .val (.long q), .second, .val (.int (0 : Int32)), .val (.int (0 : Int32)), .val (.int (0 : Int32)), .val (.long x), .second] [])
      rw [lw_gt] at hk1
      refine Goes.go (fun _ k => XS.iload X0.here X0.ex rfl (hb hby d_jdk_65_method_56_53) rfl (XS.iconst X0.here X0.ex rfl (hb hby d_jdk_65_method_56_55) (XS.isub X0.here X0.ex rfl (hb hby d_jdk_65_method_56_56) rfl k))) ?_
      show Goes _ _ _ _ T0 (mkF m 57 #[.val (.ref b), .val (.int (0 : Int32)), .val (.int (1 : Int32)), .val (.long q), .second, .val (.int (0 : Int32)), .val (.int (0 : Int32)), .val (.int (0 : Int32)), .val (.long x), .second] [(.int ((0 : Int32) - (1 : Int32)))])
      refine Goes.cast (congrArg (fun zq_ => (mkF m 57 #[.val (.ref b), .val (.int (0 : Int32)), .val (.int (1 : Int32)), .val (.long q), .second, .val (.int (0 : Int32)), .val (.int (0 : Int32)), .val (.int (0 : Int32)), .val (.long x), .second] [(.int zq_)])) (show (((0 : Int32) - (1 : Int32)) : Int32) = (-1 : Int32) from by decide)) ?_
      show Goes _ _ _ _ T0 (mkF m 57 #[.val (.ref b), .val (.int (0 : Int32)), .val (.int (1 : Int32)), .val (.long q), .second, .val (.int (0 : Int32)), .val (.int (0 : Int32)), .val (.int (0 : Int32)), .val (.long x), .second] [(.int (-1 : Int32))])
      refine Goes.go (fun _ k => XS.istore X0.here X0.ex rfl (hb hby d_jdk_65_method_56_57) rfl (l' := #[.val (.ref b), .val (.int (0 : Int32)), .val (.int (1 : Int32)), .val (.long q), .second, .val (.int (0 : Int32)), .val (.int (-1 : Int32)), .val (.int (0 : Int32)), .val (.long x), .second]) rfl (XS.goto X0.here X0.ex rfl (pc0 := 59) (pc' := 65) rfl (hb hby d_jdk_65_method_56_59) (by decide) (by decide) (XS.goto X0.here X0.ex rfl (pc0 := 65) (pc' := 8) rfl (hb hby d_jdk_65_method_56_65) (by decide) (by decide) (XS.iload X0.here X0.ex rfl (hb hby d_jdk_65_method_56_8) rfl (XS.iload X0.here X0.ex rfl (hb hby d_jdk_65_method_56_10) rfl (XS.icmpYes X0.here X0.ex rfl (pc0 := 12) (pc' := 68) rfl (hb hby d_jdk_65_method_56_12) rfl (cd_t (cd := .gt) (x := (0 : Int32)) (y := (-1 : Int32)) (by decide)) (by decide) (by decide) k)))))) ?_
      show Goes _ _ _ _ T0 (mkF m 68 #[.val (.ref b), .val (.int (0 : Int32)), .val (.int (1 : Int32)), .val (.long q), .second, .val (.int (0 : Int32)), .val (.int (-1 : Int32)), .val (.int (0 : Int32)), .val (.long x), .second] [])
      refine Goes.go (fun _ k => XS.iload X0.here X0.ex rfl (hb hby d_jdk_65_method_56_68) rfl (XS.iconst X0.here X0.ex rfl (hb hby d_jdk_65_method_56_70) (XS.iadd X0.here X0.ex rfl (hb hby d_jdk_65_method_56_71) rfl k))) ?_
      show Goes _ _ _ _ T0 (mkF m 72 #[.val (.ref b), .val (.int (0 : Int32)), .val (.int (1 : Int32)), .val (.long q), .second, .val (.int (0 : Int32)), .val (.int (-1 : Int32)), .val (.int (0 : Int32)), .val (.long x), .second] [(.int ((0 : Int32) + (1 : Int32)))])
      refine Goes.cast (congrArg (fun zq_ => (mkF m 72 #[.val (.ref b), .val (.int (0 : Int32)), .val (.int (1 : Int32)), .val (.long q), .second, .val (.int (0 : Int32)), .val (.int (-1 : Int32)), .val (.int (0 : Int32)), .val (.long x), .second] [(.int zq_)])) (show (((0 : Int32) + (1 : Int32)) : Int32) = (1 : Int32) from by decide)) ?_
      show Goes _ _ _ _ T0 (mkF m 72 #[.val (.ref b), .val (.int (0 : Int32)), .val (.int (1 : Int32)), .val (.long q), .second, .val (.int (0 : Int32)), .val (.int (-1 : Int32)), .val (.int (0 : Int32)), .val (.long x), .second] [(.int (1 : Int32))])
      refine Goes.go (fun _ k => XS.ineg X0.here X0.ex rfl (hb hby d_jdk_65_method_56_72) rfl k) ?_
      show Goes _ _ _ _ T0 (mkF m 73 #[.val (.ref b), .val (.int (0 : Int32)), .val (.int (1 : Int32)), .val (.long q), .second, .val (.int (0 : Int32)), .val (.int (-1 : Int32)), .val (.int (0 : Int32)), .val (.long x), .second] [(.int (-(1 : Int32)))])
      have cx : ¬ x < q := by simp only [Int64.lt_iff_toInt_lt] at *; omega
      refine Goes.outN X0 (fun q => by rw [hret] at q; cases q) hlk (X0.rI hret (hb hby d_jdk_65_method_56_73)) ?_ (by decide) (by decide)
      exact ⟨Ext.oKeepOf X0.ext [], (-(1 : Int32)), rfl, by first | (simp only [own_cnt, if_neg cx] <;> decide) | (simp [own_cnt, cx]; done)⟩
  · have hk0 : (lcmpW x q) < (0 : Int32) := Classical.not_not.mp hk0
    show Goes _ _ _ _ T0 (mkF m 37 #[.val (.ref b), .val (.int (0 : Int32)), .val (.int (1 : Int32)), .val (.long q), .second, .val (.int (0 : Int32)), .val (.int (0 : Int32)), .val (.int (0 : Int32)), .val (.long x), .second] [])
    rw [lw_lt] at hk0
    refine Goes.go (fun _ k => XS.iload X0.here X0.ex rfl (hb hby d_jdk_65_method_56_37) rfl (XS.iconst X0.here X0.ex rfl (hb hby d_jdk_65_method_56_39) (XS.iadd X0.here X0.ex rfl (hb hby d_jdk_65_method_56_40) rfl k))) ?_
    show Goes _ _ _ _ T0 (mkF m 41 #[.val (.ref b), .val (.int (0 : Int32)), .val (.int (1 : Int32)), .val (.long q), .second, .val (.int (0 : Int32)), .val (.int (0 : Int32)), .val (.int (0 : Int32)), .val (.long x), .second] [(.int ((0 : Int32) + (1 : Int32)))])
    refine Goes.cast (congrArg (fun zq_ => (mkF m 41 #[.val (.ref b), .val (.int (0 : Int32)), .val (.int (1 : Int32)), .val (.long q), .second, .val (.int (0 : Int32)), .val (.int (0 : Int32)), .val (.int (0 : Int32)), .val (.long x), .second] [(.int zq_)])) (show (((0 : Int32) + (1 : Int32)) : Int32) = (1 : Int32) from by decide)) ?_
    show Goes _ _ _ _ T0 (mkF m 41 #[.val (.ref b), .val (.int (0 : Int32)), .val (.int (1 : Int32)), .val (.long q), .second, .val (.int (0 : Int32)), .val (.int (0 : Int32)), .val (.int (0 : Int32)), .val (.long x), .second] [(.int (1 : Int32))])
    refine Goes.go (fun _ k => XS.istore X0.here X0.ex rfl (hb hby d_jdk_65_method_56_41) rfl (l' := #[.val (.ref b), .val (.int (0 : Int32)), .val (.int (1 : Int32)), .val (.long q), .second, .val (.int (1 : Int32)), .val (.int (0 : Int32)), .val (.int (0 : Int32)), .val (.long x), .second]) rfl (XS.goto X0.here X0.ex rfl (pc0 := 43) (pc' := 65) rfl (hb hby d_jdk_65_method_56_43) (by decide) (by decide) (XS.goto X0.here X0.ex rfl (pc0 := 65) (pc' := 8) rfl (hb hby d_jdk_65_method_56_65) (by decide) (by decide) (XS.iload X0.here X0.ex rfl (hb hby d_jdk_65_method_56_8) rfl (XS.iload X0.here X0.ex rfl (hb hby d_jdk_65_method_56_10) rfl (XS.icmpYes X0.here X0.ex rfl (pc0 := 12) (pc' := 68) rfl (hb hby d_jdk_65_method_56_12) rfl (cd_t (cd := .gt) (x := (1 : Int32)) (y := (0 : Int32)) (by decide)) (by decide) (by decide) k)))))) ?_
    show Goes _ _ _ _ T0 (mkF m 68 #[.val (.ref b), .val (.int (0 : Int32)), .val (.int (1 : Int32)), .val (.long q), .second, .val (.int (1 : Int32)), .val (.int (0 : Int32)), .val (.int (0 : Int32)), .val (.long x), .second] [])
    refine Goes.go (fun _ k => XS.iload X0.here X0.ex rfl (hb hby d_jdk_65_method_56_68) rfl (XS.iconst X0.here X0.ex rfl (hb hby d_jdk_65_method_56_70) (XS.iadd X0.here X0.ex rfl (hb hby d_jdk_65_method_56_71) rfl k))) ?_
    show Goes _ _ _ _ T0 (mkF m 72 #[.val (.ref b), .val (.int (0 : Int32)), .val (.int (1 : Int32)), .val (.long q), .second, .val (.int (1 : Int32)), .val (.int (0 : Int32)), .val (.int (0 : Int32)), .val (.long x), .second] [(.int ((1 : Int32) + (1 : Int32)))])
    refine Goes.cast (congrArg (fun zq_ => (mkF m 72 #[.val (.ref b), .val (.int (0 : Int32)), .val (.int (1 : Int32)), .val (.long q), .second, .val (.int (1 : Int32)), .val (.int (0 : Int32)), .val (.int (0 : Int32)), .val (.long x), .second] [(.int zq_)])) (show (((1 : Int32) + (1 : Int32)) : Int32) = (2 : Int32) from by decide)) ?_
    show Goes _ _ _ _ T0 (mkF m 72 #[.val (.ref b), .val (.int (0 : Int32)), .val (.int (1 : Int32)), .val (.long q), .second, .val (.int (1 : Int32)), .val (.int (0 : Int32)), .val (.int (0 : Int32)), .val (.long x), .second] [(.int (2 : Int32))])
    refine Goes.go (fun _ k => XS.ineg X0.here X0.ex rfl (hb hby d_jdk_65_method_56_72) rfl k) ?_
    show Goes _ _ _ _ T0 (mkF m 73 #[.val (.ref b), .val (.int (0 : Int32)), .val (.int (1 : Int32)), .val (.long q), .second, .val (.int (1 : Int32)), .val (.int (0 : Int32)), .val (.int (0 : Int32)), .val (.long x), .second] [(.int (-(2 : Int32)))])
    have cx : x < q := by simp only [Int64.lt_iff_toInt_lt] at *; omega
    refine Goes.outN X0 (fun q => by rw [hret] at q; cases q) hlk (X0.rI hret (hb hby d_jdk_65_method_56_73)) ?_ (by decide) (by decide)
    exact ⟨Ext.oKeepOf X0.ext [], (-(2 : Int32)), rfl, by first | (simp only [own_cnt, if_pos cx] <;> decide) | (simp [own_cnt, cx]; done)⟩
set_option maxRecDepth 65536 in
set_option maxHeartbeats 40000000 in
theorem own_bs0_2 (l : Launch) (Z : State) (a0 : Array Value) (hw : ∀ d ∈ tables_1, d.before a0 Z = true) (h0 : Heap) (hO : Ext Z.heap h0) (b : Addr) (kA : ClassId) (q : Int64) (x : Int64) (y : Int64) (V : Arv Z h0 b kA .long (2 : Int32) [(.long x), (.long y)] (.long (0 : Int64))) (s1 : x < y) :
    CtrN l Z (⟨"java/util/Arrays", "binarySearch0", "([JIIJ)I"⟩ : MethodName) jdk_65_method_56_code 10 (some .int) ({ frames := 0, cells := 0, slots := 0, locals := 0 } : Room) #[(.ref b), (.int (0 : Int32)), (.int (2 : Int32)), (.long q)] h0 (fun v h' => Keep h0 h' [] ∧ ∃ r, v = some (.int r) ∧ (if r < 0 then -r - 1 else r) = (own_cnt [x, y] q)) := by
  refine CtrN.of (plainFor_of_name pn_0) hO ?_
  intro p e s m below meth c T0 X0 hsh hby hml hret hlk hnm
  refine Goes.cast (ef_own_bs0_2 m b q) ?_
  show Goes _ _ _ _ T0 (mkF m 0 #[.val (.ref b), .val (.int (0 : Int32)), .val (.int (2 : Int32)), .val (.long q), .second, .unset, .unset, .unset, .unset, .unset] [])
  refine Goes.go (fun _ k => XS.iloadN X0.here X0.ex rfl (hb hby d_jdk_65_method_56_0) rfl (XS.istore X0.here X0.ex rfl (hb hby d_jdk_65_method_56_1) rfl (l' := #[.val (.ref b), .val (.int (0 : Int32)), .val (.int (2 : Int32)), .val (.long q), .second, .val (.int (0 : Int32)), .unset, .unset, .unset, .unset]) rfl (XS.iloadN X0.here X0.ex rfl (hb hby d_jdk_65_method_56_3) rfl (XS.iconst X0.here X0.ex rfl (hb hby d_jdk_65_method_56_4) (XS.isub X0.here X0.ex rfl (hb hby d_jdk_65_method_56_5) rfl k))))) ?_
  show Goes _ _ _ _ T0 (mkF m 6 #[.val (.ref b), .val (.int (0 : Int32)), .val (.int (2 : Int32)), .val (.long q), .second, .val (.int (0 : Int32)), .unset, .unset, .unset, .unset] [(.int ((2 : Int32) - (1 : Int32)))])
  refine Goes.cast (congrArg (fun zq_ => (mkF m 6 #[.val (.ref b), .val (.int (0 : Int32)), .val (.int (2 : Int32)), .val (.long q), .second, .val (.int (0 : Int32)), .unset, .unset, .unset, .unset] [(.int zq_)])) (show (((2 : Int32) - (1 : Int32)) : Int32) = (1 : Int32) from by decide)) ?_
  show Goes _ _ _ _ T0 (mkF m 6 #[.val (.ref b), .val (.int (0 : Int32)), .val (.int (2 : Int32)), .val (.long q), .second, .val (.int (0 : Int32)), .unset, .unset, .unset, .unset] [(.int (1 : Int32))])
  refine Goes.go (fun _ k => XS.istore X0.here X0.ex rfl (hb hby d_jdk_65_method_56_6) rfl (l' := #[.val (.ref b), .val (.int (0 : Int32)), .val (.int (2 : Int32)), .val (.long q), .second, .val (.int (0 : Int32)), .val (.int (1 : Int32)), .unset, .unset, .unset]) rfl (XS.iload X0.here X0.ex rfl (hb hby d_jdk_65_method_56_8) rfl (XS.iload X0.here X0.ex rfl (hb hby d_jdk_65_method_56_10) rfl (XS.icmpNo X0.here X0.ex rfl (hb hby d_jdk_65_method_56_12) rfl (cd_f (cd := .gt) (x := (0 : Int32)) (y := (1 : Int32)) (by decide)) (XS.iload X0.here X0.ex rfl (hb hby d_jdk_65_method_56_15) rfl (XS.iload X0.here X0.ex rfl (hb hby d_jdk_65_method_56_17) rfl k)))))) ?_
  show Goes _ _ _ _ T0 (mkF m 19 #[.val (.ref b), .val (.int (0 : Int32)), .val (.int (2 : Int32)), .val (.long q), .second, .val (.int (0 : Int32)), .val (.int (1 : Int32)), .unset, .unset, .unset] [(.int (1 : Int32)), (.int (0 : Int32))])
  refine Goes.go (fun _ k => XS.iadd X0.here X0.ex rfl (hb hby d_jdk_65_method_56_19) rfl k) ?_
  show Goes _ _ _ _ T0 (mkF m 20 #[.val (.ref b), .val (.int (0 : Int32)), .val (.int (2 : Int32)), .val (.long q), .second, .val (.int (0 : Int32)), .val (.int (1 : Int32)), .unset, .unset, .unset] [(.int ((0 : Int32) + (1 : Int32)))])
  refine Goes.cast (congrArg (fun zq_ => (mkF m 20 #[.val (.ref b), .val (.int (0 : Int32)), .val (.int (2 : Int32)), .val (.long q), .second, .val (.int (0 : Int32)), .val (.int (1 : Int32)), .unset, .unset, .unset] [(.int zq_)])) (show (((0 : Int32) + (1 : Int32)) : Int32) = (1 : Int32) from by decide)) ?_
  show Goes _ _ _ _ T0 (mkF m 20 #[.val (.ref b), .val (.int (0 : Int32)), .val (.int (2 : Int32)), .val (.long q), .second, .val (.int (0 : Int32)), .val (.int (1 : Int32)), .unset, .unset, .unset] [(.int (1 : Int32))])
  refine Goes.go (fun _ k => XS.iconst X0.here X0.ex rfl (hb hby d_jdk_65_method_56_20) (XS.iushr X0.here X0.ex rfl (hb hby d_jdk_65_method_56_21) rfl k)) ?_
  show Goes _ _ _ _ T0 (mkF m 22 #[.val (.ref b), .val (.int (0 : Int32)), .val (.int (2 : Int32)), .val (.long q), .second, .val (.int (0 : Int32)), .val (.int (1 : Int32)), .unset, .unset, .unset] [(.int (((1 : Int32).toUInt32 >>> ((1 : Int32) &&& 31).toUInt32).toInt32))])
  refine Goes.cast (congrArg (fun zq_ => (mkF m 22 #[.val (.ref b), .val (.int (0 : Int32)), .val (.int (2 : Int32)), .val (.long q), .second, .val (.int (0 : Int32)), .val (.int (1 : Int32)), .unset, .unset, .unset] [(.int zq_)])) (show ((((1 : Int32).toUInt32 >>> ((1 : Int32) &&& 31).toUInt32).toInt32) : Int32) = (0 : Int32) from by decide)) ?_
  show Goes _ _ _ _ T0 (mkF m 22 #[.val (.ref b), .val (.int (0 : Int32)), .val (.int (2 : Int32)), .val (.long q), .second, .val (.int (0 : Int32)), .val (.int (1 : Int32)), .unset, .unset, .unset] [(.int (0 : Int32))])
  refine Goes.go (fun _ k => XS.istore X0.here X0.ex rfl (hb hby d_jdk_65_method_56_22) rfl (l' := #[.val (.ref b), .val (.int (0 : Int32)), .val (.int (2 : Int32)), .val (.long q), .second, .val (.int (0 : Int32)), .val (.int (1 : Int32)), .val (.int (0 : Int32)), .unset, .unset]) rfl (XS.aloadN X0.here X0.ex rfl (hb hby d_jdk_65_method_56_24) rfl rfl (XS.iload X0.here X0.ex rfl (hb hby d_jdk_65_method_56_25) rfl k))) ?_
  show Goes _ _ _ _ T0 (mkF m 27 #[.val (.ref b), .val (.int (0 : Int32)), .val (.int (2 : Int32)), .val (.long q), .second, .val (.int (0 : Int32)), .val (.int (1 : Int32)), .val (.int (0 : Int32)), .unset, .unset] [(.int (0 : Int32)), (.ref b)])
  refine Goes.go (X0.laload V ⟨by decide, by decide⟩ (v := .long x) rfl rfl rfl (hb hby d_jdk_65_method_56_27)) ?_
  show Goes _ _ _ _ T0 (mkF m 28 #[.val (.ref b), .val (.int (0 : Int32)), .val (.int (2 : Int32)), .val (.long q), .second, .val (.int (0 : Int32)), .val (.int (1 : Int32)), .val (.int (0 : Int32)), .unset, .unset] [(.long x)])
  refine Goes.go (fun _ k => XS.lstore X0.here X0.ex rfl (hb hby d_jdk_65_method_56_28) rfl (l' := #[.val (.ref b), .val (.int (0 : Int32)), .val (.int (2 : Int32)), .val (.long q), .second, .val (.int (0 : Int32)), .val (.int (1 : Int32)), .val (.int (0 : Int32)), .val (.long x), .second]) rfl (XS.lload X0.here X0.ex rfl (hb hby d_jdk_65_method_56_30) rfl (XS.lloadN X0.here X0.ex rfl (hb hby d_jdk_65_method_56_32) rfl (XS.lcmp X0.here X0.ex rfl (hb hby d_jdk_65_method_56_33) rfl k)))) ?_
  show Goes _ _ _ _ T0 (mkF m 34 #[.val (.ref b), .val (.int (0 : Int32)), .val (.int (2 : Int32)), .val (.long q), .second, .val (.int (0 : Int32)), .val (.int (1 : Int32)), .val (.int (0 : Int32)), .val (.long x), .second] [(.int (lcmpW x q))])
  refine Goes.ifc (pc' := 46) X0.here X0.ex (hb hby d_jdk_65_method_56_34) (by decide) (by decide) (fun hk0 => ?_) (fun hk0 => ?_)
  · have hk0 : ¬ ((lcmpW x q) < (0 : Int32)) := hk0
    show Goes _ _ _ _ T0 (mkF m 46 #[.val (.ref b), .val (.int (0 : Int32)), .val (.int (2 : Int32)), .val (.long q), .second, .val (.int (0 : Int32)), .val (.int (1 : Int32)), .val (.int (0 : Int32)), .val (.long x), .second] [])
    rw [lw_lt] at hk0
    refine Goes.go (fun _ k => XS.lload X0.here X0.ex rfl (hb hby d_jdk_65_method_56_46) rfl (XS.lloadN X0.here X0.ex rfl (hb hby d_jdk_65_method_56_48) rfl (XS.lcmp X0.here X0.ex rfl (hb hby d_jdk_65_method_56_49) rfl k))) ?_
    show Goes _ _ _ _ T0 (mkF m 50 #[.val (.ref b), .val (.int (0 : Int32)), .val (.int (2 : Int32)), .val (.long q), .second, .val (.int (0 : Int32)), .val (.int (1 : Int32)), .val (.int (0 : Int32)), .val (.long x), .second] [(.int (lcmpW x q))])
    refine Goes.ifc (pc' := 62) X0.here X0.ex (hb hby d_jdk_65_method_56_50) (by decide) (by decide) (fun hk1 => ?_) (fun hk1 => ?_)
    · have hk1 : ¬ ((0 : Int32) < (lcmpW x q)) := hk1
      show Goes _ _ _ _ T0 (mkF m 62 #[.val (.ref b), .val (.int (0 : Int32)), .val (.int (2 : Int32)), .val (.long q), .second, .val (.int (0 : Int32)), .val (.int (1 : Int32)), .val (.int (0 : Int32)), .val (.long x), .second] [])
      rw [lw_gt] at hk1
      refine Goes.go (fun _ k => XS.iload X0.here X0.ex rfl (hb hby d_jdk_65_method_56_62) rfl k) ?_
      show Goes _ _ _ _ T0 (mkF m 64 #[.val (.ref b), .val (.int (0 : Int32)), .val (.int (2 : Int32)), .val (.long q), .second, .val (.int (0 : Int32)), .val (.int (1 : Int32)), .val (.int (0 : Int32)), .val (.long x), .second] [(.int (0 : Int32))])
      have cx : ¬ x < q := by simp only [Int64.lt_iff_toInt_lt] at *; omega
      have cy : ¬ y < q := by simp only [Int64.lt_iff_toInt_lt] at *; omega
      refine Goes.outN X0 (fun q => by rw [hret] at q; cases q) hlk (X0.rI hret (hb hby d_jdk_65_method_56_64)) ?_ (by decide) (by decide)
      exact ⟨Ext.oKeepOf X0.ext [], (0 : Int32), rfl, by first | (simp only [own_cnt, if_neg cx, if_neg cy] <;> decide) | (simp [own_cnt, cx, cy]; done)⟩
    · have hk1 : (0 : Int32) < (lcmpW x q) := Classical.not_not.mp hk1
      show Goes _ _ _ _ T0 (mkF m 53 #[.val (.ref b), .val (.int (0 : Int32)), .val (.int (2 : Int32)), .val (.long q), .second, .val (.int (0 : Int32)), .val (.int (1 : Int32)), .val (.int (0 : Int32)), .val (.long x), .second] [])
      rw [lw_gt] at hk1
      refine Goes.go (fun _ k => XS.iload X0.here X0.ex rfl (hb hby d_jdk_65_method_56_53) rfl (XS.iconst X0.here X0.ex rfl (hb hby d_jdk_65_method_56_55) (XS.isub X0.here X0.ex rfl (hb hby d_jdk_65_method_56_56) rfl k))) ?_
      show Goes _ _ _ _ T0 (mkF m 57 #[.val (.ref b), .val (.int (0 : Int32)), .val (.int (2 : Int32)), .val (.long q), .second, .val (.int (0 : Int32)), .val (.int (1 : Int32)), .val (.int (0 : Int32)), .val (.long x), .second] [(.int ((0 : Int32) - (1 : Int32)))])
      refine Goes.cast (congrArg (fun zq_ => (mkF m 57 #[.val (.ref b), .val (.int (0 : Int32)), .val (.int (2 : Int32)), .val (.long q), .second, .val (.int (0 : Int32)), .val (.int (1 : Int32)), .val (.int (0 : Int32)), .val (.long x), .second] [(.int zq_)])) (show (((0 : Int32) - (1 : Int32)) : Int32) = (-1 : Int32) from by decide)) ?_
      show Goes _ _ _ _ T0 (mkF m 57 #[.val (.ref b), .val (.int (0 : Int32)), .val (.int (2 : Int32)), .val (.long q), .second, .val (.int (0 : Int32)), .val (.int (1 : Int32)), .val (.int (0 : Int32)), .val (.long x), .second] [(.int (-1 : Int32))])
      refine Goes.go (fun _ k => XS.istore X0.here X0.ex rfl (hb hby d_jdk_65_method_56_57) rfl (l' := #[.val (.ref b), .val (.int (0 : Int32)), .val (.int (2 : Int32)), .val (.long q), .second, .val (.int (0 : Int32)), .val (.int (-1 : Int32)), .val (.int (0 : Int32)), .val (.long x), .second]) rfl (XS.goto X0.here X0.ex rfl (pc0 := 59) (pc' := 65) rfl (hb hby d_jdk_65_method_56_59) (by decide) (by decide) (XS.goto X0.here X0.ex rfl (pc0 := 65) (pc' := 8) rfl (hb hby d_jdk_65_method_56_65) (by decide) (by decide) (XS.iload X0.here X0.ex rfl (hb hby d_jdk_65_method_56_8) rfl (XS.iload X0.here X0.ex rfl (hb hby d_jdk_65_method_56_10) rfl (XS.icmpYes X0.here X0.ex rfl (pc0 := 12) (pc' := 68) rfl (hb hby d_jdk_65_method_56_12) rfl (cd_t (cd := .gt) (x := (0 : Int32)) (y := (-1 : Int32)) (by decide)) (by decide) (by decide) k)))))) ?_
      show Goes _ _ _ _ T0 (mkF m 68 #[.val (.ref b), .val (.int (0 : Int32)), .val (.int (2 : Int32)), .val (.long q), .second, .val (.int (0 : Int32)), .val (.int (-1 : Int32)), .val (.int (0 : Int32)), .val (.long x), .second] [])
      refine Goes.go (fun _ k => XS.iload X0.here X0.ex rfl (hb hby d_jdk_65_method_56_68) rfl (XS.iconst X0.here X0.ex rfl (hb hby d_jdk_65_method_56_70) (XS.iadd X0.here X0.ex rfl (hb hby d_jdk_65_method_56_71) rfl k))) ?_
      show Goes _ _ _ _ T0 (mkF m 72 #[.val (.ref b), .val (.int (0 : Int32)), .val (.int (2 : Int32)), .val (.long q), .second, .val (.int (0 : Int32)), .val (.int (-1 : Int32)), .val (.int (0 : Int32)), .val (.long x), .second] [(.int ((0 : Int32) + (1 : Int32)))])
      refine Goes.cast (congrArg (fun zq_ => (mkF m 72 #[.val (.ref b), .val (.int (0 : Int32)), .val (.int (2 : Int32)), .val (.long q), .second, .val (.int (0 : Int32)), .val (.int (-1 : Int32)), .val (.int (0 : Int32)), .val (.long x), .second] [(.int zq_)])) (show (((0 : Int32) + (1 : Int32)) : Int32) = (1 : Int32) from by decide)) ?_
      show Goes _ _ _ _ T0 (mkF m 72 #[.val (.ref b), .val (.int (0 : Int32)), .val (.int (2 : Int32)), .val (.long q), .second, .val (.int (0 : Int32)), .val (.int (-1 : Int32)), .val (.int (0 : Int32)), .val (.long x), .second] [(.int (1 : Int32))])
      refine Goes.go (fun _ k => XS.ineg X0.here X0.ex rfl (hb hby d_jdk_65_method_56_72) rfl k) ?_
      show Goes _ _ _ _ T0 (mkF m 73 #[.val (.ref b), .val (.int (0 : Int32)), .val (.int (2 : Int32)), .val (.long q), .second, .val (.int (0 : Int32)), .val (.int (-1 : Int32)), .val (.int (0 : Int32)), .val (.long x), .second] [(.int (-(1 : Int32)))])
      have cx : ¬ x < q := by simp only [Int64.lt_iff_toInt_lt] at *; omega
      have cy : ¬ y < q := by simp only [Int64.lt_iff_toInt_lt] at *; omega
      refine Goes.outN X0 (fun q => by rw [hret] at q; cases q) hlk (X0.rI hret (hb hby d_jdk_65_method_56_73)) ?_ (by decide) (by decide)
      exact ⟨Ext.oKeepOf X0.ext [], (-(1 : Int32)), rfl, by first | (simp only [own_cnt, if_neg cx, if_neg cy] <;> decide) | (simp [own_cnt, cx, cy]; done)⟩
  · have hk0 : (lcmpW x q) < (0 : Int32) := Classical.not_not.mp hk0
    show Goes _ _ _ _ T0 (mkF m 37 #[.val (.ref b), .val (.int (0 : Int32)), .val (.int (2 : Int32)), .val (.long q), .second, .val (.int (0 : Int32)), .val (.int (1 : Int32)), .val (.int (0 : Int32)), .val (.long x), .second] [])
    rw [lw_lt] at hk0
    refine Goes.go (fun _ k => XS.iload X0.here X0.ex rfl (hb hby d_jdk_65_method_56_37) rfl (XS.iconst X0.here X0.ex rfl (hb hby d_jdk_65_method_56_39) (XS.iadd X0.here X0.ex rfl (hb hby d_jdk_65_method_56_40) rfl k))) ?_
    show Goes _ _ _ _ T0 (mkF m 41 #[.val (.ref b), .val (.int (0 : Int32)), .val (.int (2 : Int32)), .val (.long q), .second, .val (.int (0 : Int32)), .val (.int (1 : Int32)), .val (.int (0 : Int32)), .val (.long x), .second] [(.int ((0 : Int32) + (1 : Int32)))])
    refine Goes.cast (congrArg (fun zq_ => (mkF m 41 #[.val (.ref b), .val (.int (0 : Int32)), .val (.int (2 : Int32)), .val (.long q), .second, .val (.int (0 : Int32)), .val (.int (1 : Int32)), .val (.int (0 : Int32)), .val (.long x), .second] [(.int zq_)])) (show (((0 : Int32) + (1 : Int32)) : Int32) = (1 : Int32) from by decide)) ?_
    show Goes _ _ _ _ T0 (mkF m 41 #[.val (.ref b), .val (.int (0 : Int32)), .val (.int (2 : Int32)), .val (.long q), .second, .val (.int (0 : Int32)), .val (.int (1 : Int32)), .val (.int (0 : Int32)), .val (.long x), .second] [(.int (1 : Int32))])
    refine Goes.go (fun _ k => XS.istore X0.here X0.ex rfl (hb hby d_jdk_65_method_56_41) rfl (l' := #[.val (.ref b), .val (.int (0 : Int32)), .val (.int (2 : Int32)), .val (.long q), .second, .val (.int (1 : Int32)), .val (.int (1 : Int32)), .val (.int (0 : Int32)), .val (.long x), .second]) rfl (XS.goto X0.here X0.ex rfl (pc0 := 43) (pc' := 65) rfl (hb hby d_jdk_65_method_56_43) (by decide) (by decide) (XS.goto X0.here X0.ex rfl (pc0 := 65) (pc' := 8) rfl (hb hby d_jdk_65_method_56_65) (by decide) (by decide) (XS.iload X0.here X0.ex rfl (hb hby d_jdk_65_method_56_8) rfl (XS.iload X0.here X0.ex rfl (hb hby d_jdk_65_method_56_10) rfl (XS.icmpNo X0.here X0.ex rfl (hb hby d_jdk_65_method_56_12) rfl (cd_f (cd := .gt) (x := (1 : Int32)) (y := (1 : Int32)) (by decide)) k)))))) ?_
    show Goes _ _ _ _ T0 (mkF m 15 #[.val (.ref b), .val (.int (0 : Int32)), .val (.int (2 : Int32)), .val (.long q), .second, .val (.int (1 : Int32)), .val (.int (1 : Int32)), .val (.int (0 : Int32)), .val (.long x), .second] [])
    refine Goes.go (fun _ k => XS.iload X0.here X0.ex rfl (hb hby d_jdk_65_method_56_15) rfl (XS.iload X0.here X0.ex rfl (hb hby d_jdk_65_method_56_17) rfl (XS.iadd X0.here X0.ex rfl (hb hby d_jdk_65_method_56_19) rfl k))) ?_
    show Goes _ _ _ _ T0 (mkF m 20 #[.val (.ref b), .val (.int (0 : Int32)), .val (.int (2 : Int32)), .val (.long q), .second, .val (.int (1 : Int32)), .val (.int (1 : Int32)), .val (.int (0 : Int32)), .val (.long x), .second] [(.int ((1 : Int32) + (1 : Int32)))])
    refine Goes.cast (congrArg (fun zq_ => (mkF m 20 #[.val (.ref b), .val (.int (0 : Int32)), .val (.int (2 : Int32)), .val (.long q), .second, .val (.int (1 : Int32)), .val (.int (1 : Int32)), .val (.int (0 : Int32)), .val (.long x), .second] [(.int zq_)])) (show (((1 : Int32) + (1 : Int32)) : Int32) = (2 : Int32) from by decide)) ?_
    show Goes _ _ _ _ T0 (mkF m 20 #[.val (.ref b), .val (.int (0 : Int32)), .val (.int (2 : Int32)), .val (.long q), .second, .val (.int (1 : Int32)), .val (.int (1 : Int32)), .val (.int (0 : Int32)), .val (.long x), .second] [(.int (2 : Int32))])
    refine Goes.go (fun _ k => XS.iconst X0.here X0.ex rfl (hb hby d_jdk_65_method_56_20) (XS.iushr X0.here X0.ex rfl (hb hby d_jdk_65_method_56_21) rfl k)) ?_
    show Goes _ _ _ _ T0 (mkF m 22 #[.val (.ref b), .val (.int (0 : Int32)), .val (.int (2 : Int32)), .val (.long q), .second, .val (.int (1 : Int32)), .val (.int (1 : Int32)), .val (.int (0 : Int32)), .val (.long x), .second] [(.int (((2 : Int32).toUInt32 >>> ((1 : Int32) &&& 31).toUInt32).toInt32))])
    refine Goes.cast (congrArg (fun zq_ => (mkF m 22 #[.val (.ref b), .val (.int (0 : Int32)), .val (.int (2 : Int32)), .val (.long q), .second, .val (.int (1 : Int32)), .val (.int (1 : Int32)), .val (.int (0 : Int32)), .val (.long x), .second] [(.int zq_)])) (show ((((2 : Int32).toUInt32 >>> ((1 : Int32) &&& 31).toUInt32).toInt32) : Int32) = (1 : Int32) from by decide)) ?_
    show Goes _ _ _ _ T0 (mkF m 22 #[.val (.ref b), .val (.int (0 : Int32)), .val (.int (2 : Int32)), .val (.long q), .second, .val (.int (1 : Int32)), .val (.int (1 : Int32)), .val (.int (0 : Int32)), .val (.long x), .second] [(.int (1 : Int32))])
    refine Goes.go (fun _ k => XS.istore X0.here X0.ex rfl (hb hby d_jdk_65_method_56_22) rfl (l' := #[.val (.ref b), .val (.int (0 : Int32)), .val (.int (2 : Int32)), .val (.long q), .second, .val (.int (1 : Int32)), .val (.int (1 : Int32)), .val (.int (1 : Int32)), .val (.long x), .second]) rfl (XS.aloadN X0.here X0.ex rfl (hb hby d_jdk_65_method_56_24) rfl rfl (XS.iload X0.here X0.ex rfl (hb hby d_jdk_65_method_56_25) rfl k))) ?_
    show Goes _ _ _ _ T0 (mkF m 27 #[.val (.ref b), .val (.int (0 : Int32)), .val (.int (2 : Int32)), .val (.long q), .second, .val (.int (1 : Int32)), .val (.int (1 : Int32)), .val (.int (1 : Int32)), .val (.long x), .second] [(.int (1 : Int32)), (.ref b)])
    refine Goes.go (X0.laload V ⟨by decide, by decide⟩ (v := .long y) rfl rfl rfl (hb hby d_jdk_65_method_56_27)) ?_
    show Goes _ _ _ _ T0 (mkF m 28 #[.val (.ref b), .val (.int (0 : Int32)), .val (.int (2 : Int32)), .val (.long q), .second, .val (.int (1 : Int32)), .val (.int (1 : Int32)), .val (.int (1 : Int32)), .val (.long x), .second] [(.long y)])
    refine Goes.go (fun _ k => XS.lstore X0.here X0.ex rfl (hb hby d_jdk_65_method_56_28) rfl (l' := #[.val (.ref b), .val (.int (0 : Int32)), .val (.int (2 : Int32)), .val (.long q), .second, .val (.int (1 : Int32)), .val (.int (1 : Int32)), .val (.int (1 : Int32)), .val (.long y), .second]) rfl (XS.lload X0.here X0.ex rfl (hb hby d_jdk_65_method_56_30) rfl (XS.lloadN X0.here X0.ex rfl (hb hby d_jdk_65_method_56_32) rfl (XS.lcmp X0.here X0.ex rfl (hb hby d_jdk_65_method_56_33) rfl k)))) ?_
    show Goes _ _ _ _ T0 (mkF m 34 #[.val (.ref b), .val (.int (0 : Int32)), .val (.int (2 : Int32)), .val (.long q), .second, .val (.int (1 : Int32)), .val (.int (1 : Int32)), .val (.int (1 : Int32)), .val (.long y), .second] [(.int (lcmpW y q))])
    refine Goes.ifc (pc' := 46) X0.here X0.ex (hb hby d_jdk_65_method_56_34) (by decide) (by decide) (fun hk1 => ?_) (fun hk1 => ?_)
    · have hk1 : ¬ ((lcmpW y q) < (0 : Int32)) := hk1
      show Goes _ _ _ _ T0 (mkF m 46 #[.val (.ref b), .val (.int (0 : Int32)), .val (.int (2 : Int32)), .val (.long q), .second, .val (.int (1 : Int32)), .val (.int (1 : Int32)), .val (.int (1 : Int32)), .val (.long y), .second] [])
      rw [lw_lt] at hk1
      refine Goes.go (fun _ k => XS.lload X0.here X0.ex rfl (hb hby d_jdk_65_method_56_46) rfl (XS.lloadN X0.here X0.ex rfl (hb hby d_jdk_65_method_56_48) rfl (XS.lcmp X0.here X0.ex rfl (hb hby d_jdk_65_method_56_49) rfl k))) ?_
      show Goes _ _ _ _ T0 (mkF m 50 #[.val (.ref b), .val (.int (0 : Int32)), .val (.int (2 : Int32)), .val (.long q), .second, .val (.int (1 : Int32)), .val (.int (1 : Int32)), .val (.int (1 : Int32)), .val (.long y), .second] [(.int (lcmpW y q))])
      refine Goes.ifc (pc' := 62) X0.here X0.ex (hb hby d_jdk_65_method_56_50) (by decide) (by decide) (fun hk2 => ?_) (fun hk2 => ?_)
      · have hk2 : ¬ ((0 : Int32) < (lcmpW y q)) := hk2
        show Goes _ _ _ _ T0 (mkF m 62 #[.val (.ref b), .val (.int (0 : Int32)), .val (.int (2 : Int32)), .val (.long q), .second, .val (.int (1 : Int32)), .val (.int (1 : Int32)), .val (.int (1 : Int32)), .val (.long y), .second] [])
        rw [lw_gt] at hk2
        refine Goes.go (fun _ k => XS.iload X0.here X0.ex rfl (hb hby d_jdk_65_method_56_62) rfl k) ?_
        show Goes _ _ _ _ T0 (mkF m 64 #[.val (.ref b), .val (.int (0 : Int32)), .val (.int (2 : Int32)), .val (.long q), .second, .val (.int (1 : Int32)), .val (.int (1 : Int32)), .val (.int (1 : Int32)), .val (.long y), .second] [(.int (1 : Int32))])
        have cx : x < q := by simp only [Int64.lt_iff_toInt_lt] at *; omega
        have cy : ¬ y < q := by simp only [Int64.lt_iff_toInt_lt] at *; omega
        refine Goes.outN X0 (fun q => by rw [hret] at q; cases q) hlk (X0.rI hret (hb hby d_jdk_65_method_56_64)) ?_ (by decide) (by decide)
        exact ⟨Ext.oKeepOf X0.ext [], (1 : Int32), rfl, by first | (simp only [own_cnt, if_pos cx, if_neg cy] <;> decide) | (simp [own_cnt, cx, cy]; done)⟩
      · have hk2 : (0 : Int32) < (lcmpW y q) := Classical.not_not.mp hk2
        show Goes _ _ _ _ T0 (mkF m 53 #[.val (.ref b), .val (.int (0 : Int32)), .val (.int (2 : Int32)), .val (.long q), .second, .val (.int (1 : Int32)), .val (.int (1 : Int32)), .val (.int (1 : Int32)), .val (.long y), .second] [])
        rw [lw_gt] at hk2
        refine Goes.go (fun _ k => XS.iload X0.here X0.ex rfl (hb hby d_jdk_65_method_56_53) rfl (XS.iconst X0.here X0.ex rfl (hb hby d_jdk_65_method_56_55) (XS.isub X0.here X0.ex rfl (hb hby d_jdk_65_method_56_56) rfl k))) ?_
        show Goes _ _ _ _ T0 (mkF m 57 #[.val (.ref b), .val (.int (0 : Int32)), .val (.int (2 : Int32)), .val (.long q), .second, .val (.int (1 : Int32)), .val (.int (1 : Int32)), .val (.int (1 : Int32)), .val (.long y), .second] [(.int ((1 : Int32) - (1 : Int32)))])
        refine Goes.cast (congrArg (fun zq_ => (mkF m 57 #[.val (.ref b), .val (.int (0 : Int32)), .val (.int (2 : Int32)), .val (.long q), .second, .val (.int (1 : Int32)), .val (.int (1 : Int32)), .val (.int (1 : Int32)), .val (.long y), .second] [(.int zq_)])) (show (((1 : Int32) - (1 : Int32)) : Int32) = (0 : Int32) from by decide)) ?_
        show Goes _ _ _ _ T0 (mkF m 57 #[.val (.ref b), .val (.int (0 : Int32)), .val (.int (2 : Int32)), .val (.long q), .second, .val (.int (1 : Int32)), .val (.int (1 : Int32)), .val (.int (1 : Int32)), .val (.long y), .second] [(.int (0 : Int32))])
        refine Goes.go (fun _ k => XS.istore X0.here X0.ex rfl (hb hby d_jdk_65_method_56_57) rfl (l' := #[.val (.ref b), .val (.int (0 : Int32)), .val (.int (2 : Int32)), .val (.long q), .second, .val (.int (1 : Int32)), .val (.int (0 : Int32)), .val (.int (1 : Int32)), .val (.long y), .second]) rfl (XS.goto X0.here X0.ex rfl (pc0 := 59) (pc' := 65) rfl (hb hby d_jdk_65_method_56_59) (by decide) (by decide) (XS.goto X0.here X0.ex rfl (pc0 := 65) (pc' := 8) rfl (hb hby d_jdk_65_method_56_65) (by decide) (by decide) (XS.iload X0.here X0.ex rfl (hb hby d_jdk_65_method_56_8) rfl (XS.iload X0.here X0.ex rfl (hb hby d_jdk_65_method_56_10) rfl (XS.icmpYes X0.here X0.ex rfl (pc0 := 12) (pc' := 68) rfl (hb hby d_jdk_65_method_56_12) rfl (cd_t (cd := .gt) (x := (1 : Int32)) (y := (0 : Int32)) (by decide)) (by decide) (by decide) k)))))) ?_
        show Goes _ _ _ _ T0 (mkF m 68 #[.val (.ref b), .val (.int (0 : Int32)), .val (.int (2 : Int32)), .val (.long q), .second, .val (.int (1 : Int32)), .val (.int (0 : Int32)), .val (.int (1 : Int32)), .val (.long y), .second] [])
        refine Goes.go (fun _ k => XS.iload X0.here X0.ex rfl (hb hby d_jdk_65_method_56_68) rfl (XS.iconst X0.here X0.ex rfl (hb hby d_jdk_65_method_56_70) (XS.iadd X0.here X0.ex rfl (hb hby d_jdk_65_method_56_71) rfl k))) ?_
        show Goes _ _ _ _ T0 (mkF m 72 #[.val (.ref b), .val (.int (0 : Int32)), .val (.int (2 : Int32)), .val (.long q), .second, .val (.int (1 : Int32)), .val (.int (0 : Int32)), .val (.int (1 : Int32)), .val (.long y), .second] [(.int ((1 : Int32) + (1 : Int32)))])
        refine Goes.cast (congrArg (fun zq_ => (mkF m 72 #[.val (.ref b), .val (.int (0 : Int32)), .val (.int (2 : Int32)), .val (.long q), .second, .val (.int (1 : Int32)), .val (.int (0 : Int32)), .val (.int (1 : Int32)), .val (.long y), .second] [(.int zq_)])) (show (((1 : Int32) + (1 : Int32)) : Int32) = (2 : Int32) from by decide)) ?_
        show Goes _ _ _ _ T0 (mkF m 72 #[.val (.ref b), .val (.int (0 : Int32)), .val (.int (2 : Int32)), .val (.long q), .second, .val (.int (1 : Int32)), .val (.int (0 : Int32)), .val (.int (1 : Int32)), .val (.long y), .second] [(.int (2 : Int32))])
        refine Goes.go (fun _ k => XS.ineg X0.here X0.ex rfl (hb hby d_jdk_65_method_56_72) rfl k) ?_
        show Goes _ _ _ _ T0 (mkF m 73 #[.val (.ref b), .val (.int (0 : Int32)), .val (.int (2 : Int32)), .val (.long q), .second, .val (.int (1 : Int32)), .val (.int (0 : Int32)), .val (.int (1 : Int32)), .val (.long y), .second] [(.int (-(2 : Int32)))])
        have cx : x < q := by simp only [Int64.lt_iff_toInt_lt] at *; omega
        have cy : ¬ y < q := by simp only [Int64.lt_iff_toInt_lt] at *; omega
        refine Goes.outN X0 (fun q => by rw [hret] at q; cases q) hlk (X0.rI hret (hb hby d_jdk_65_method_56_73)) ?_ (by decide) (by decide)
        exact ⟨Ext.oKeepOf X0.ext [], (-(2 : Int32)), rfl, by first | (simp only [own_cnt, if_pos cx, if_neg cy] <;> decide) | (simp [own_cnt, cx, cy]; done)⟩
    · have hk1 : (lcmpW y q) < (0 : Int32) := Classical.not_not.mp hk1
      show Goes _ _ _ _ T0 (mkF m 37 #[.val (.ref b), .val (.int (0 : Int32)), .val (.int (2 : Int32)), .val (.long q), .second, .val (.int (1 : Int32)), .val (.int (1 : Int32)), .val (.int (1 : Int32)), .val (.long y), .second] [])
      rw [lw_lt] at hk1
      refine Goes.go (fun _ k => XS.iload X0.here X0.ex rfl (hb hby d_jdk_65_method_56_37) rfl (XS.iconst X0.here X0.ex rfl (hb hby d_jdk_65_method_56_39) (XS.iadd X0.here X0.ex rfl (hb hby d_jdk_65_method_56_40) rfl k))) ?_
      show Goes _ _ _ _ T0 (mkF m 41 #[.val (.ref b), .val (.int (0 : Int32)), .val (.int (2 : Int32)), .val (.long q), .second, .val (.int (1 : Int32)), .val (.int (1 : Int32)), .val (.int (1 : Int32)), .val (.long y), .second] [(.int ((1 : Int32) + (1 : Int32)))])
      refine Goes.cast (congrArg (fun zq_ => (mkF m 41 #[.val (.ref b), .val (.int (0 : Int32)), .val (.int (2 : Int32)), .val (.long q), .second, .val (.int (1 : Int32)), .val (.int (1 : Int32)), .val (.int (1 : Int32)), .val (.long y), .second] [(.int zq_)])) (show (((1 : Int32) + (1 : Int32)) : Int32) = (2 : Int32) from by decide)) ?_
      show Goes _ _ _ _ T0 (mkF m 41 #[.val (.ref b), .val (.int (0 : Int32)), .val (.int (2 : Int32)), .val (.long q), .second, .val (.int (1 : Int32)), .val (.int (1 : Int32)), .val (.int (1 : Int32)), .val (.long y), .second] [(.int (2 : Int32))])
      refine Goes.go (fun _ k => XS.istore X0.here X0.ex rfl (hb hby d_jdk_65_method_56_41) rfl (l' := #[.val (.ref b), .val (.int (0 : Int32)), .val (.int (2 : Int32)), .val (.long q), .second, .val (.int (2 : Int32)), .val (.int (1 : Int32)), .val (.int (1 : Int32)), .val (.long y), .second]) rfl (XS.goto X0.here X0.ex rfl (pc0 := 43) (pc' := 65) rfl (hb hby d_jdk_65_method_56_43) (by decide) (by decide) (XS.goto X0.here X0.ex rfl (pc0 := 65) (pc' := 8) rfl (hb hby d_jdk_65_method_56_65) (by decide) (by decide) (XS.iload X0.here X0.ex rfl (hb hby d_jdk_65_method_56_8) rfl (XS.iload X0.here X0.ex rfl (hb hby d_jdk_65_method_56_10) rfl (XS.icmpYes X0.here X0.ex rfl (pc0 := 12) (pc' := 68) rfl (hb hby d_jdk_65_method_56_12) rfl (cd_t (cd := .gt) (x := (2 : Int32)) (y := (1 : Int32)) (by decide)) (by decide) (by decide) k)))))) ?_
      show Goes _ _ _ _ T0 (mkF m 68 #[.val (.ref b), .val (.int (0 : Int32)), .val (.int (2 : Int32)), .val (.long q), .second, .val (.int (2 : Int32)), .val (.int (1 : Int32)), .val (.int (1 : Int32)), .val (.long y), .second] [])
      refine Goes.go (fun _ k => XS.iload X0.here X0.ex rfl (hb hby d_jdk_65_method_56_68) rfl (XS.iconst X0.here X0.ex rfl (hb hby d_jdk_65_method_56_70) (XS.iadd X0.here X0.ex rfl (hb hby d_jdk_65_method_56_71) rfl k))) ?_
      show Goes _ _ _ _ T0 (mkF m 72 #[.val (.ref b), .val (.int (0 : Int32)), .val (.int (2 : Int32)), .val (.long q), .second, .val (.int (2 : Int32)), .val (.int (1 : Int32)), .val (.int (1 : Int32)), .val (.long y), .second] [(.int ((2 : Int32) + (1 : Int32)))])
      refine Goes.cast (congrArg (fun zq_ => (mkF m 72 #[.val (.ref b), .val (.int (0 : Int32)), .val (.int (2 : Int32)), .val (.long q), .second, .val (.int (2 : Int32)), .val (.int (1 : Int32)), .val (.int (1 : Int32)), .val (.long y), .second] [(.int zq_)])) (show (((2 : Int32) + (1 : Int32)) : Int32) = (3 : Int32) from by decide)) ?_
      show Goes _ _ _ _ T0 (mkF m 72 #[.val (.ref b), .val (.int (0 : Int32)), .val (.int (2 : Int32)), .val (.long q), .second, .val (.int (2 : Int32)), .val (.int (1 : Int32)), .val (.int (1 : Int32)), .val (.long y), .second] [(.int (3 : Int32))])
      refine Goes.go (fun _ k => XS.ineg X0.here X0.ex rfl (hb hby d_jdk_65_method_56_72) rfl k) ?_
      show Goes _ _ _ _ T0 (mkF m 73 #[.val (.ref b), .val (.int (0 : Int32)), .val (.int (2 : Int32)), .val (.long q), .second, .val (.int (2 : Int32)), .val (.int (1 : Int32)), .val (.int (1 : Int32)), .val (.long y), .second] [(.int (-(3 : Int32)))])
      have cx : x < q := by simp only [Int64.lt_iff_toInt_lt] at *; omega
      have cy : y < q := by simp only [Int64.lt_iff_toInt_lt] at *; omega
      refine Goes.outN X0 (fun q => by rw [hret] at q; cases q) hlk (X0.rI hret (hb hby d_jdk_65_method_56_73)) ?_ (by decide) (by decide)
      exact ⟨Ext.oKeepOf X0.ext [], (-(3 : Int32)), rfl, by first | (simp only [own_cnt, if_pos cx, if_pos cy] <;> decide) | (simp [own_cnt, cx, cy]; done)⟩
set_option maxRecDepth 65536 in
set_option maxHeartbeats 40000000 in
theorem own_bs0_3 (l : Launch) (Z : State) (a0 : Array Value) (hw : ∀ d ∈ tables_1, d.before a0 Z = true) (h0 : Heap) (hO : Ext Z.heap h0) (b : Addr) (kA : ClassId) (q : Int64) (x : Int64) (y : Int64) (z : Int64) (V : Arv Z h0 b kA .long (3 : Int32) [(.long x), (.long y), (.long z)] (.long (0 : Int64))) (s1 : x < y) (s2 : y < z) :
    CtrN l Z (⟨"java/util/Arrays", "binarySearch0", "([JIIJ)I"⟩ : MethodName) jdk_65_method_56_code 10 (some .int) ({ frames := 0, cells := 0, slots := 0, locals := 0 } : Room) #[(.ref b), (.int (0 : Int32)), (.int (3 : Int32)), (.long q)] h0 (fun v h' => Keep h0 h' [] ∧ ∃ r, v = some (.int r) ∧ (if r < 0 then -r - 1 else r) = (own_cnt [x, y, z] q)) := by
  refine CtrN.of (plainFor_of_name pn_0) hO ?_
  intro p e s m below meth c T0 X0 hsh hby hml hret hlk hnm
  refine Goes.cast (ef_own_bs0_3 m b q) ?_
  show Goes _ _ _ _ T0 (mkF m 0 #[.val (.ref b), .val (.int (0 : Int32)), .val (.int (3 : Int32)), .val (.long q), .second, .unset, .unset, .unset, .unset, .unset] [])
  refine Goes.go (fun _ k => XS.iloadN X0.here X0.ex rfl (hb hby d_jdk_65_method_56_0) rfl (XS.istore X0.here X0.ex rfl (hb hby d_jdk_65_method_56_1) rfl (l' := #[.val (.ref b), .val (.int (0 : Int32)), .val (.int (3 : Int32)), .val (.long q), .second, .val (.int (0 : Int32)), .unset, .unset, .unset, .unset]) rfl (XS.iloadN X0.here X0.ex rfl (hb hby d_jdk_65_method_56_3) rfl (XS.iconst X0.here X0.ex rfl (hb hby d_jdk_65_method_56_4) (XS.isub X0.here X0.ex rfl (hb hby d_jdk_65_method_56_5) rfl k))))) ?_
  show Goes _ _ _ _ T0 (mkF m 6 #[.val (.ref b), .val (.int (0 : Int32)), .val (.int (3 : Int32)), .val (.long q), .second, .val (.int (0 : Int32)), .unset, .unset, .unset, .unset] [(.int ((3 : Int32) - (1 : Int32)))])
  refine Goes.cast (congrArg (fun zq_ => (mkF m 6 #[.val (.ref b), .val (.int (0 : Int32)), .val (.int (3 : Int32)), .val (.long q), .second, .val (.int (0 : Int32)), .unset, .unset, .unset, .unset] [(.int zq_)])) (show (((3 : Int32) - (1 : Int32)) : Int32) = (2 : Int32) from by decide)) ?_
  show Goes _ _ _ _ T0 (mkF m 6 #[.val (.ref b), .val (.int (0 : Int32)), .val (.int (3 : Int32)), .val (.long q), .second, .val (.int (0 : Int32)), .unset, .unset, .unset, .unset] [(.int (2 : Int32))])
  refine Goes.go (fun _ k => XS.istore X0.here X0.ex rfl (hb hby d_jdk_65_method_56_6) rfl (l' := #[.val (.ref b), .val (.int (0 : Int32)), .val (.int (3 : Int32)), .val (.long q), .second, .val (.int (0 : Int32)), .val (.int (2 : Int32)), .unset, .unset, .unset]) rfl (XS.iload X0.here X0.ex rfl (hb hby d_jdk_65_method_56_8) rfl (XS.iload X0.here X0.ex rfl (hb hby d_jdk_65_method_56_10) rfl (XS.icmpNo X0.here X0.ex rfl (hb hby d_jdk_65_method_56_12) rfl (cd_f (cd := .gt) (x := (0 : Int32)) (y := (2 : Int32)) (by decide)) (XS.iload X0.here X0.ex rfl (hb hby d_jdk_65_method_56_15) rfl (XS.iload X0.here X0.ex rfl (hb hby d_jdk_65_method_56_17) rfl k)))))) ?_
  show Goes _ _ _ _ T0 (mkF m 19 #[.val (.ref b), .val (.int (0 : Int32)), .val (.int (3 : Int32)), .val (.long q), .second, .val (.int (0 : Int32)), .val (.int (2 : Int32)), .unset, .unset, .unset] [(.int (2 : Int32)), (.int (0 : Int32))])
  refine Goes.go (fun _ k => XS.iadd X0.here X0.ex rfl (hb hby d_jdk_65_method_56_19) rfl k) ?_
  show Goes _ _ _ _ T0 (mkF m 20 #[.val (.ref b), .val (.int (0 : Int32)), .val (.int (3 : Int32)), .val (.long q), .second, .val (.int (0 : Int32)), .val (.int (2 : Int32)), .unset, .unset, .unset] [(.int ((0 : Int32) + (2 : Int32)))])
  refine Goes.cast (congrArg (fun zq_ => (mkF m 20 #[.val (.ref b), .val (.int (0 : Int32)), .val (.int (3 : Int32)), .val (.long q), .second, .val (.int (0 : Int32)), .val (.int (2 : Int32)), .unset, .unset, .unset] [(.int zq_)])) (show (((0 : Int32) + (2 : Int32)) : Int32) = (2 : Int32) from by decide)) ?_
  show Goes _ _ _ _ T0 (mkF m 20 #[.val (.ref b), .val (.int (0 : Int32)), .val (.int (3 : Int32)), .val (.long q), .second, .val (.int (0 : Int32)), .val (.int (2 : Int32)), .unset, .unset, .unset] [(.int (2 : Int32))])
  refine Goes.go (fun _ k => XS.iconst X0.here X0.ex rfl (hb hby d_jdk_65_method_56_20) (XS.iushr X0.here X0.ex rfl (hb hby d_jdk_65_method_56_21) rfl k)) ?_
  show Goes _ _ _ _ T0 (mkF m 22 #[.val (.ref b), .val (.int (0 : Int32)), .val (.int (3 : Int32)), .val (.long q), .second, .val (.int (0 : Int32)), .val (.int (2 : Int32)), .unset, .unset, .unset] [(.int (((2 : Int32).toUInt32 >>> ((1 : Int32) &&& 31).toUInt32).toInt32))])
  refine Goes.cast (congrArg (fun zq_ => (mkF m 22 #[.val (.ref b), .val (.int (0 : Int32)), .val (.int (3 : Int32)), .val (.long q), .second, .val (.int (0 : Int32)), .val (.int (2 : Int32)), .unset, .unset, .unset] [(.int zq_)])) (show ((((2 : Int32).toUInt32 >>> ((1 : Int32) &&& 31).toUInt32).toInt32) : Int32) = (1 : Int32) from by decide)) ?_
  show Goes _ _ _ _ T0 (mkF m 22 #[.val (.ref b), .val (.int (0 : Int32)), .val (.int (3 : Int32)), .val (.long q), .second, .val (.int (0 : Int32)), .val (.int (2 : Int32)), .unset, .unset, .unset] [(.int (1 : Int32))])
  refine Goes.go (fun _ k => XS.istore X0.here X0.ex rfl (hb hby d_jdk_65_method_56_22) rfl (l' := #[.val (.ref b), .val (.int (0 : Int32)), .val (.int (3 : Int32)), .val (.long q), .second, .val (.int (0 : Int32)), .val (.int (2 : Int32)), .val (.int (1 : Int32)), .unset, .unset]) rfl (XS.aloadN X0.here X0.ex rfl (hb hby d_jdk_65_method_56_24) rfl rfl (XS.iload X0.here X0.ex rfl (hb hby d_jdk_65_method_56_25) rfl k))) ?_
  show Goes _ _ _ _ T0 (mkF m 27 #[.val (.ref b), .val (.int (0 : Int32)), .val (.int (3 : Int32)), .val (.long q), .second, .val (.int (0 : Int32)), .val (.int (2 : Int32)), .val (.int (1 : Int32)), .unset, .unset] [(.int (1 : Int32)), (.ref b)])
  refine Goes.go (X0.laload V ⟨by decide, by decide⟩ (v := .long y) rfl rfl rfl (hb hby d_jdk_65_method_56_27)) ?_
  show Goes _ _ _ _ T0 (mkF m 28 #[.val (.ref b), .val (.int (0 : Int32)), .val (.int (3 : Int32)), .val (.long q), .second, .val (.int (0 : Int32)), .val (.int (2 : Int32)), .val (.int (1 : Int32)), .unset, .unset] [(.long y)])
  refine Goes.go (fun _ k => XS.lstore X0.here X0.ex rfl (hb hby d_jdk_65_method_56_28) rfl (l' := #[.val (.ref b), .val (.int (0 : Int32)), .val (.int (3 : Int32)), .val (.long q), .second, .val (.int (0 : Int32)), .val (.int (2 : Int32)), .val (.int (1 : Int32)), .val (.long y), .second]) rfl (XS.lload X0.here X0.ex rfl (hb hby d_jdk_65_method_56_30) rfl (XS.lloadN X0.here X0.ex rfl (hb hby d_jdk_65_method_56_32) rfl (XS.lcmp X0.here X0.ex rfl (hb hby d_jdk_65_method_56_33) rfl k)))) ?_
  show Goes _ _ _ _ T0 (mkF m 34 #[.val (.ref b), .val (.int (0 : Int32)), .val (.int (3 : Int32)), .val (.long q), .second, .val (.int (0 : Int32)), .val (.int (2 : Int32)), .val (.int (1 : Int32)), .val (.long y), .second] [(.int (lcmpW y q))])
  refine Goes.ifc (pc' := 46) X0.here X0.ex (hb hby d_jdk_65_method_56_34) (by decide) (by decide) (fun hk0 => ?_) (fun hk0 => ?_)
  · have hk0 : ¬ ((lcmpW y q) < (0 : Int32)) := hk0
    show Goes _ _ _ _ T0 (mkF m 46 #[.val (.ref b), .val (.int (0 : Int32)), .val (.int (3 : Int32)), .val (.long q), .second, .val (.int (0 : Int32)), .val (.int (2 : Int32)), .val (.int (1 : Int32)), .val (.long y), .second] [])
    rw [lw_lt] at hk0
    refine Goes.go (fun _ k => XS.lload X0.here X0.ex rfl (hb hby d_jdk_65_method_56_46) rfl (XS.lloadN X0.here X0.ex rfl (hb hby d_jdk_65_method_56_48) rfl (XS.lcmp X0.here X0.ex rfl (hb hby d_jdk_65_method_56_49) rfl k))) ?_
    show Goes _ _ _ _ T0 (mkF m 50 #[.val (.ref b), .val (.int (0 : Int32)), .val (.int (3 : Int32)), .val (.long q), .second, .val (.int (0 : Int32)), .val (.int (2 : Int32)), .val (.int (1 : Int32)), .val (.long y), .second] [(.int (lcmpW y q))])
    refine Goes.ifc (pc' := 62) X0.here X0.ex (hb hby d_jdk_65_method_56_50) (by decide) (by decide) (fun hk1 => ?_) (fun hk1 => ?_)
    · have hk1 : ¬ ((0 : Int32) < (lcmpW y q)) := hk1
      show Goes _ _ _ _ T0 (mkF m 62 #[.val (.ref b), .val (.int (0 : Int32)), .val (.int (3 : Int32)), .val (.long q), .second, .val (.int (0 : Int32)), .val (.int (2 : Int32)), .val (.int (1 : Int32)), .val (.long y), .second] [])
      rw [lw_gt] at hk1
      refine Goes.go (fun _ k => XS.iload X0.here X0.ex rfl (hb hby d_jdk_65_method_56_62) rfl k) ?_
      show Goes _ _ _ _ T0 (mkF m 64 #[.val (.ref b), .val (.int (0 : Int32)), .val (.int (3 : Int32)), .val (.long q), .second, .val (.int (0 : Int32)), .val (.int (2 : Int32)), .val (.int (1 : Int32)), .val (.long y), .second] [(.int (1 : Int32))])
      have cx : x < q := by simp only [Int64.lt_iff_toInt_lt] at *; omega
      have cy : ¬ y < q := by simp only [Int64.lt_iff_toInt_lt] at *; omega
      have cz : ¬ z < q := by simp only [Int64.lt_iff_toInt_lt] at *; omega
      refine Goes.outN X0 (fun q => by rw [hret] at q; cases q) hlk (X0.rI hret (hb hby d_jdk_65_method_56_64)) ?_ (by decide) (by decide)
      exact ⟨Ext.oKeepOf X0.ext [], (1 : Int32), rfl, by first | (simp only [own_cnt, if_pos cx, if_neg cy, if_neg cz] <;> decide) | (simp [own_cnt, cx, cy, cz]; done)⟩
    · have hk1 : (0 : Int32) < (lcmpW y q) := Classical.not_not.mp hk1
      show Goes _ _ _ _ T0 (mkF m 53 #[.val (.ref b), .val (.int (0 : Int32)), .val (.int (3 : Int32)), .val (.long q), .second, .val (.int (0 : Int32)), .val (.int (2 : Int32)), .val (.int (1 : Int32)), .val (.long y), .second] [])
      rw [lw_gt] at hk1
      refine Goes.go (fun _ k => XS.iload X0.here X0.ex rfl (hb hby d_jdk_65_method_56_53) rfl (XS.iconst X0.here X0.ex rfl (hb hby d_jdk_65_method_56_55) (XS.isub X0.here X0.ex rfl (hb hby d_jdk_65_method_56_56) rfl k))) ?_
      show Goes _ _ _ _ T0 (mkF m 57 #[.val (.ref b), .val (.int (0 : Int32)), .val (.int (3 : Int32)), .val (.long q), .second, .val (.int (0 : Int32)), .val (.int (2 : Int32)), .val (.int (1 : Int32)), .val (.long y), .second] [(.int ((1 : Int32) - (1 : Int32)))])
      refine Goes.cast (congrArg (fun zq_ => (mkF m 57 #[.val (.ref b), .val (.int (0 : Int32)), .val (.int (3 : Int32)), .val (.long q), .second, .val (.int (0 : Int32)), .val (.int (2 : Int32)), .val (.int (1 : Int32)), .val (.long y), .second] [(.int zq_)])) (show (((1 : Int32) - (1 : Int32)) : Int32) = (0 : Int32) from by decide)) ?_
      show Goes _ _ _ _ T0 (mkF m 57 #[.val (.ref b), .val (.int (0 : Int32)), .val (.int (3 : Int32)), .val (.long q), .second, .val (.int (0 : Int32)), .val (.int (2 : Int32)), .val (.int (1 : Int32)), .val (.long y), .second] [(.int (0 : Int32))])
      refine Goes.go (fun _ k => XS.istore X0.here X0.ex rfl (hb hby d_jdk_65_method_56_57) rfl (l' := #[.val (.ref b), .val (.int (0 : Int32)), .val (.int (3 : Int32)), .val (.long q), .second, .val (.int (0 : Int32)), .val (.int (0 : Int32)), .val (.int (1 : Int32)), .val (.long y), .second]) rfl (XS.goto X0.here X0.ex rfl (pc0 := 59) (pc' := 65) rfl (hb hby d_jdk_65_method_56_59) (by decide) (by decide) (XS.goto X0.here X0.ex rfl (pc0 := 65) (pc' := 8) rfl (hb hby d_jdk_65_method_56_65) (by decide) (by decide) (XS.iload X0.here X0.ex rfl (hb hby d_jdk_65_method_56_8) rfl (XS.iload X0.here X0.ex rfl (hb hby d_jdk_65_method_56_10) rfl (XS.icmpNo X0.here X0.ex rfl (hb hby d_jdk_65_method_56_12) rfl (cd_f (cd := .gt) (x := (0 : Int32)) (y := (0 : Int32)) (by decide)) k)))))) ?_
      show Goes _ _ _ _ T0 (mkF m 15 #[.val (.ref b), .val (.int (0 : Int32)), .val (.int (3 : Int32)), .val (.long q), .second, .val (.int (0 : Int32)), .val (.int (0 : Int32)), .val (.int (1 : Int32)), .val (.long y), .second] [])
      refine Goes.go (fun _ k => XS.iload X0.here X0.ex rfl (hb hby d_jdk_65_method_56_15) rfl (XS.iload X0.here X0.ex rfl (hb hby d_jdk_65_method_56_17) rfl (XS.iadd X0.here X0.ex rfl (hb hby d_jdk_65_method_56_19) rfl k))) ?_
      show Goes _ _ _ _ T0 (mkF m 20 #[.val (.ref b), .val (.int (0 : Int32)), .val (.int (3 : Int32)), .val (.long q), .second, .val (.int (0 : Int32)), .val (.int (0 : Int32)), .val (.int (1 : Int32)), .val (.long y), .second] [(.int ((0 : Int32) + (0 : Int32)))])
      refine Goes.cast (congrArg (fun zq_ => (mkF m 20 #[.val (.ref b), .val (.int (0 : Int32)), .val (.int (3 : Int32)), .val (.long q), .second, .val (.int (0 : Int32)), .val (.int (0 : Int32)), .val (.int (1 : Int32)), .val (.long y), .second] [(.int zq_)])) (show (((0 : Int32) + (0 : Int32)) : Int32) = (0 : Int32) from by decide)) ?_
      show Goes _ _ _ _ T0 (mkF m 20 #[.val (.ref b), .val (.int (0 : Int32)), .val (.int (3 : Int32)), .val (.long q), .second, .val (.int (0 : Int32)), .val (.int (0 : Int32)), .val (.int (1 : Int32)), .val (.long y), .second] [(.int (0 : Int32))])
      refine Goes.go (fun _ k => XS.iconst X0.here X0.ex rfl (hb hby d_jdk_65_method_56_20) (XS.iushr X0.here X0.ex rfl (hb hby d_jdk_65_method_56_21) rfl k)) ?_
      show Goes _ _ _ _ T0 (mkF m 22 #[.val (.ref b), .val (.int (0 : Int32)), .val (.int (3 : Int32)), .val (.long q), .second, .val (.int (0 : Int32)), .val (.int (0 : Int32)), .val (.int (1 : Int32)), .val (.long y), .second] [(.int (((0 : Int32).toUInt32 >>> ((1 : Int32) &&& 31).toUInt32).toInt32))])
      refine Goes.cast (congrArg (fun zq_ => (mkF m 22 #[.val (.ref b), .val (.int (0 : Int32)), .val (.int (3 : Int32)), .val (.long q), .second, .val (.int (0 : Int32)), .val (.int (0 : Int32)), .val (.int (1 : Int32)), .val (.long y), .second] [(.int zq_)])) (show ((((0 : Int32).toUInt32 >>> ((1 : Int32) &&& 31).toUInt32).toInt32) : Int32) = (0 : Int32) from by decide)) ?_
      show Goes _ _ _ _ T0 (mkF m 22 #[.val (.ref b), .val (.int (0 : Int32)), .val (.int (3 : Int32)), .val (.long q), .second, .val (.int (0 : Int32)), .val (.int (0 : Int32)), .val (.int (1 : Int32)), .val (.long y), .second] [(.int (0 : Int32))])
      refine Goes.go (fun _ k => XS.istore X0.here X0.ex rfl (hb hby d_jdk_65_method_56_22) rfl (l' := #[.val (.ref b), .val (.int (0 : Int32)), .val (.int (3 : Int32)), .val (.long q), .second, .val (.int (0 : Int32)), .val (.int (0 : Int32)), .val (.int (0 : Int32)), .val (.long y), .second]) rfl (XS.aloadN X0.here X0.ex rfl (hb hby d_jdk_65_method_56_24) rfl rfl (XS.iload X0.here X0.ex rfl (hb hby d_jdk_65_method_56_25) rfl k))) ?_
      show Goes _ _ _ _ T0 (mkF m 27 #[.val (.ref b), .val (.int (0 : Int32)), .val (.int (3 : Int32)), .val (.long q), .second, .val (.int (0 : Int32)), .val (.int (0 : Int32)), .val (.int (0 : Int32)), .val (.long y), .second] [(.int (0 : Int32)), (.ref b)])
      refine Goes.go (X0.laload V ⟨by decide, by decide⟩ (v := .long x) rfl rfl rfl (hb hby d_jdk_65_method_56_27)) ?_
      show Goes _ _ _ _ T0 (mkF m 28 #[.val (.ref b), .val (.int (0 : Int32)), .val (.int (3 : Int32)), .val (.long q), .second, .val (.int (0 : Int32)), .val (.int (0 : Int32)), .val (.int (0 : Int32)), .val (.long y), .second] [(.long x)])
      refine Goes.go (fun _ k => XS.lstore X0.here X0.ex rfl (hb hby d_jdk_65_method_56_28) rfl (l' := #[.val (.ref b), .val (.int (0 : Int32)), .val (.int (3 : Int32)), .val (.long q), .second, .val (.int (0 : Int32)), .val (.int (0 : Int32)), .val (.int (0 : Int32)), .val (.long x), .second]) rfl (XS.lload X0.here X0.ex rfl (hb hby d_jdk_65_method_56_30) rfl (XS.lloadN X0.here X0.ex rfl (hb hby d_jdk_65_method_56_32) rfl (XS.lcmp X0.here X0.ex rfl (hb hby d_jdk_65_method_56_33) rfl k)))) ?_
      show Goes _ _ _ _ T0 (mkF m 34 #[.val (.ref b), .val (.int (0 : Int32)), .val (.int (3 : Int32)), .val (.long q), .second, .val (.int (0 : Int32)), .val (.int (0 : Int32)), .val (.int (0 : Int32)), .val (.long x), .second] [(.int (lcmpW x q))])
      refine Goes.ifc (pc' := 46) X0.here X0.ex (hb hby d_jdk_65_method_56_34) (by decide) (by decide) (fun hk2 => ?_) (fun hk2 => ?_)
      · have hk2 : ¬ ((lcmpW x q) < (0 : Int32)) := hk2
        show Goes _ _ _ _ T0 (mkF m 46 #[.val (.ref b), .val (.int (0 : Int32)), .val (.int (3 : Int32)), .val (.long q), .second, .val (.int (0 : Int32)), .val (.int (0 : Int32)), .val (.int (0 : Int32)), .val (.long x), .second] [])
        rw [lw_lt] at hk2
        refine Goes.go (fun _ k => XS.lload X0.here X0.ex rfl (hb hby d_jdk_65_method_56_46) rfl (XS.lloadN X0.here X0.ex rfl (hb hby d_jdk_65_method_56_48) rfl (XS.lcmp X0.here X0.ex rfl (hb hby d_jdk_65_method_56_49) rfl k))) ?_
        show Goes _ _ _ _ T0 (mkF m 50 #[.val (.ref b), .val (.int (0 : Int32)), .val (.int (3 : Int32)), .val (.long q), .second, .val (.int (0 : Int32)), .val (.int (0 : Int32)), .val (.int (0 : Int32)), .val (.long x), .second] [(.int (lcmpW x q))])
        refine Goes.ifc (pc' := 62) X0.here X0.ex (hb hby d_jdk_65_method_56_50) (by decide) (by decide) (fun hk3 => ?_) (fun hk3 => ?_)
        · have hk3 : ¬ ((0 : Int32) < (lcmpW x q)) := hk3
          show Goes _ _ _ _ T0 (mkF m 62 #[.val (.ref b), .val (.int (0 : Int32)), .val (.int (3 : Int32)), .val (.long q), .second, .val (.int (0 : Int32)), .val (.int (0 : Int32)), .val (.int (0 : Int32)), .val (.long x), .second] [])
          rw [lw_gt] at hk3
          refine Goes.go (fun _ k => XS.iload X0.here X0.ex rfl (hb hby d_jdk_65_method_56_62) rfl k) ?_
          show Goes _ _ _ _ T0 (mkF m 64 #[.val (.ref b), .val (.int (0 : Int32)), .val (.int (3 : Int32)), .val (.long q), .second, .val (.int (0 : Int32)), .val (.int (0 : Int32)), .val (.int (0 : Int32)), .val (.long x), .second] [(.int (0 : Int32))])
          have cx : ¬ x < q := by simp only [Int64.lt_iff_toInt_lt] at *; omega
          have cy : ¬ y < q := by simp only [Int64.lt_iff_toInt_lt] at *; omega
          have cz : ¬ z < q := by simp only [Int64.lt_iff_toInt_lt] at *; omega
          refine Goes.outN X0 (fun q => by rw [hret] at q; cases q) hlk (X0.rI hret (hb hby d_jdk_65_method_56_64)) ?_ (by decide) (by decide)
          exact ⟨Ext.oKeepOf X0.ext [], (0 : Int32), rfl, by first | (simp only [own_cnt, if_neg cx, if_neg cy, if_neg cz] <;> decide) | (simp [own_cnt, cx, cy, cz]; done)⟩
        · have hk3 : (0 : Int32) < (lcmpW x q) := Classical.not_not.mp hk3
          show Goes _ _ _ _ T0 (mkF m 53 #[.val (.ref b), .val (.int (0 : Int32)), .val (.int (3 : Int32)), .val (.long q), .second, .val (.int (0 : Int32)), .val (.int (0 : Int32)), .val (.int (0 : Int32)), .val (.long x), .second] [])
          rw [lw_gt] at hk3
          refine Goes.go (fun _ k => XS.iload X0.here X0.ex rfl (hb hby d_jdk_65_method_56_53) rfl (XS.iconst X0.here X0.ex rfl (hb hby d_jdk_65_method_56_55) (XS.isub X0.here X0.ex rfl (hb hby d_jdk_65_method_56_56) rfl k))) ?_
          show Goes _ _ _ _ T0 (mkF m 57 #[.val (.ref b), .val (.int (0 : Int32)), .val (.int (3 : Int32)), .val (.long q), .second, .val (.int (0 : Int32)), .val (.int (0 : Int32)), .val (.int (0 : Int32)), .val (.long x), .second] [(.int ((0 : Int32) - (1 : Int32)))])
          refine Goes.cast (congrArg (fun zq_ => (mkF m 57 #[.val (.ref b), .val (.int (0 : Int32)), .val (.int (3 : Int32)), .val (.long q), .second, .val (.int (0 : Int32)), .val (.int (0 : Int32)), .val (.int (0 : Int32)), .val (.long x), .second] [(.int zq_)])) (show (((0 : Int32) - (1 : Int32)) : Int32) = (-1 : Int32) from by decide)) ?_
          show Goes _ _ _ _ T0 (mkF m 57 #[.val (.ref b), .val (.int (0 : Int32)), .val (.int (3 : Int32)), .val (.long q), .second, .val (.int (0 : Int32)), .val (.int (0 : Int32)), .val (.int (0 : Int32)), .val (.long x), .second] [(.int (-1 : Int32))])
          refine Goes.go (fun _ k => XS.istore X0.here X0.ex rfl (hb hby d_jdk_65_method_56_57) rfl (l' := #[.val (.ref b), .val (.int (0 : Int32)), .val (.int (3 : Int32)), .val (.long q), .second, .val (.int (0 : Int32)), .val (.int (-1 : Int32)), .val (.int (0 : Int32)), .val (.long x), .second]) rfl (XS.goto X0.here X0.ex rfl (pc0 := 59) (pc' := 65) rfl (hb hby d_jdk_65_method_56_59) (by decide) (by decide) (XS.goto X0.here X0.ex rfl (pc0 := 65) (pc' := 8) rfl (hb hby d_jdk_65_method_56_65) (by decide) (by decide) (XS.iload X0.here X0.ex rfl (hb hby d_jdk_65_method_56_8) rfl (XS.iload X0.here X0.ex rfl (hb hby d_jdk_65_method_56_10) rfl (XS.icmpYes X0.here X0.ex rfl (pc0 := 12) (pc' := 68) rfl (hb hby d_jdk_65_method_56_12) rfl (cd_t (cd := .gt) (x := (0 : Int32)) (y := (-1 : Int32)) (by decide)) (by decide) (by decide) k)))))) ?_
          show Goes _ _ _ _ T0 (mkF m 68 #[.val (.ref b), .val (.int (0 : Int32)), .val (.int (3 : Int32)), .val (.long q), .second, .val (.int (0 : Int32)), .val (.int (-1 : Int32)), .val (.int (0 : Int32)), .val (.long x), .second] [])
          refine Goes.go (fun _ k => XS.iload X0.here X0.ex rfl (hb hby d_jdk_65_method_56_68) rfl (XS.iconst X0.here X0.ex rfl (hb hby d_jdk_65_method_56_70) (XS.iadd X0.here X0.ex rfl (hb hby d_jdk_65_method_56_71) rfl k))) ?_
          show Goes _ _ _ _ T0 (mkF m 72 #[.val (.ref b), .val (.int (0 : Int32)), .val (.int (3 : Int32)), .val (.long q), .second, .val (.int (0 : Int32)), .val (.int (-1 : Int32)), .val (.int (0 : Int32)), .val (.long x), .second] [(.int ((0 : Int32) + (1 : Int32)))])
          refine Goes.cast (congrArg (fun zq_ => (mkF m 72 #[.val (.ref b), .val (.int (0 : Int32)), .val (.int (3 : Int32)), .val (.long q), .second, .val (.int (0 : Int32)), .val (.int (-1 : Int32)), .val (.int (0 : Int32)), .val (.long x), .second] [(.int zq_)])) (show (((0 : Int32) + (1 : Int32)) : Int32) = (1 : Int32) from by decide)) ?_
          show Goes _ _ _ _ T0 (mkF m 72 #[.val (.ref b), .val (.int (0 : Int32)), .val (.int (3 : Int32)), .val (.long q), .second, .val (.int (0 : Int32)), .val (.int (-1 : Int32)), .val (.int (0 : Int32)), .val (.long x), .second] [(.int (1 : Int32))])
          refine Goes.go (fun _ k => XS.ineg X0.here X0.ex rfl (hb hby d_jdk_65_method_56_72) rfl k) ?_
          show Goes _ _ _ _ T0 (mkF m 73 #[.val (.ref b), .val (.int (0 : Int32)), .val (.int (3 : Int32)), .val (.long q), .second, .val (.int (0 : Int32)), .val (.int (-1 : Int32)), .val (.int (0 : Int32)), .val (.long x), .second] [(.int (-(1 : Int32)))])
          have cx : ¬ x < q := by simp only [Int64.lt_iff_toInt_lt] at *; omega
          have cy : ¬ y < q := by simp only [Int64.lt_iff_toInt_lt] at *; omega
          have cz : ¬ z < q := by simp only [Int64.lt_iff_toInt_lt] at *; omega
          refine Goes.outN X0 (fun q => by rw [hret] at q; cases q) hlk (X0.rI hret (hb hby d_jdk_65_method_56_73)) ?_ (by decide) (by decide)
          exact ⟨Ext.oKeepOf X0.ext [], (-(1 : Int32)), rfl, by first | (simp only [own_cnt, if_neg cx, if_neg cy, if_neg cz] <;> decide) | (simp [own_cnt, cx, cy, cz]; done)⟩
      · have hk2 : (lcmpW x q) < (0 : Int32) := Classical.not_not.mp hk2
        show Goes _ _ _ _ T0 (mkF m 37 #[.val (.ref b), .val (.int (0 : Int32)), .val (.int (3 : Int32)), .val (.long q), .second, .val (.int (0 : Int32)), .val (.int (0 : Int32)), .val (.int (0 : Int32)), .val (.long x), .second] [])
        rw [lw_lt] at hk2
        refine Goes.go (fun _ k => XS.iload X0.here X0.ex rfl (hb hby d_jdk_65_method_56_37) rfl (XS.iconst X0.here X0.ex rfl (hb hby d_jdk_65_method_56_39) (XS.iadd X0.here X0.ex rfl (hb hby d_jdk_65_method_56_40) rfl k))) ?_
        show Goes _ _ _ _ T0 (mkF m 41 #[.val (.ref b), .val (.int (0 : Int32)), .val (.int (3 : Int32)), .val (.long q), .second, .val (.int (0 : Int32)), .val (.int (0 : Int32)), .val (.int (0 : Int32)), .val (.long x), .second] [(.int ((0 : Int32) + (1 : Int32)))])
        refine Goes.cast (congrArg (fun zq_ => (mkF m 41 #[.val (.ref b), .val (.int (0 : Int32)), .val (.int (3 : Int32)), .val (.long q), .second, .val (.int (0 : Int32)), .val (.int (0 : Int32)), .val (.int (0 : Int32)), .val (.long x), .second] [(.int zq_)])) (show (((0 : Int32) + (1 : Int32)) : Int32) = (1 : Int32) from by decide)) ?_
        show Goes _ _ _ _ T0 (mkF m 41 #[.val (.ref b), .val (.int (0 : Int32)), .val (.int (3 : Int32)), .val (.long q), .second, .val (.int (0 : Int32)), .val (.int (0 : Int32)), .val (.int (0 : Int32)), .val (.long x), .second] [(.int (1 : Int32))])
        refine Goes.go (fun _ k => XS.istore X0.here X0.ex rfl (hb hby d_jdk_65_method_56_41) rfl (l' := #[.val (.ref b), .val (.int (0 : Int32)), .val (.int (3 : Int32)), .val (.long q), .second, .val (.int (1 : Int32)), .val (.int (0 : Int32)), .val (.int (0 : Int32)), .val (.long x), .second]) rfl (XS.goto X0.here X0.ex rfl (pc0 := 43) (pc' := 65) rfl (hb hby d_jdk_65_method_56_43) (by decide) (by decide) (XS.goto X0.here X0.ex rfl (pc0 := 65) (pc' := 8) rfl (hb hby d_jdk_65_method_56_65) (by decide) (by decide) (XS.iload X0.here X0.ex rfl (hb hby d_jdk_65_method_56_8) rfl (XS.iload X0.here X0.ex rfl (hb hby d_jdk_65_method_56_10) rfl (XS.icmpYes X0.here X0.ex rfl (pc0 := 12) (pc' := 68) rfl (hb hby d_jdk_65_method_56_12) rfl (cd_t (cd := .gt) (x := (1 : Int32)) (y := (0 : Int32)) (by decide)) (by decide) (by decide) k)))))) ?_
        show Goes _ _ _ _ T0 (mkF m 68 #[.val (.ref b), .val (.int (0 : Int32)), .val (.int (3 : Int32)), .val (.long q), .second, .val (.int (1 : Int32)), .val (.int (0 : Int32)), .val (.int (0 : Int32)), .val (.long x), .second] [])
        refine Goes.go (fun _ k => XS.iload X0.here X0.ex rfl (hb hby d_jdk_65_method_56_68) rfl (XS.iconst X0.here X0.ex rfl (hb hby d_jdk_65_method_56_70) (XS.iadd X0.here X0.ex rfl (hb hby d_jdk_65_method_56_71) rfl k))) ?_
        show Goes _ _ _ _ T0 (mkF m 72 #[.val (.ref b), .val (.int (0 : Int32)), .val (.int (3 : Int32)), .val (.long q), .second, .val (.int (1 : Int32)), .val (.int (0 : Int32)), .val (.int (0 : Int32)), .val (.long x), .second] [(.int ((1 : Int32) + (1 : Int32)))])
        refine Goes.cast (congrArg (fun zq_ => (mkF m 72 #[.val (.ref b), .val (.int (0 : Int32)), .val (.int (3 : Int32)), .val (.long q), .second, .val (.int (1 : Int32)), .val (.int (0 : Int32)), .val (.int (0 : Int32)), .val (.long x), .second] [(.int zq_)])) (show (((1 : Int32) + (1 : Int32)) : Int32) = (2 : Int32) from by decide)) ?_
        show Goes _ _ _ _ T0 (mkF m 72 #[.val (.ref b), .val (.int (0 : Int32)), .val (.int (3 : Int32)), .val (.long q), .second, .val (.int (1 : Int32)), .val (.int (0 : Int32)), .val (.int (0 : Int32)), .val (.long x), .second] [(.int (2 : Int32))])
        refine Goes.go (fun _ k => XS.ineg X0.here X0.ex rfl (hb hby d_jdk_65_method_56_72) rfl k) ?_
        show Goes _ _ _ _ T0 (mkF m 73 #[.val (.ref b), .val (.int (0 : Int32)), .val (.int (3 : Int32)), .val (.long q), .second, .val (.int (1 : Int32)), .val (.int (0 : Int32)), .val (.int (0 : Int32)), .val (.long x), .second] [(.int (-(2 : Int32)))])
        have cx : x < q := by simp only [Int64.lt_iff_toInt_lt] at *; omega
        have cy : ¬ y < q := by simp only [Int64.lt_iff_toInt_lt] at *; omega
        have cz : ¬ z < q := by simp only [Int64.lt_iff_toInt_lt] at *; omega
        refine Goes.outN X0 (fun q => by rw [hret] at q; cases q) hlk (X0.rI hret (hb hby d_jdk_65_method_56_73)) ?_ (by decide) (by decide)
        exact ⟨Ext.oKeepOf X0.ext [], (-(2 : Int32)), rfl, by first | (simp only [own_cnt, if_pos cx, if_neg cy, if_neg cz] <;> decide) | (simp [own_cnt, cx, cy, cz]; done)⟩
  · have hk0 : (lcmpW y q) < (0 : Int32) := Classical.not_not.mp hk0
    show Goes _ _ _ _ T0 (mkF m 37 #[.val (.ref b), .val (.int (0 : Int32)), .val (.int (3 : Int32)), .val (.long q), .second, .val (.int (0 : Int32)), .val (.int (2 : Int32)), .val (.int (1 : Int32)), .val (.long y), .second] [])
    rw [lw_lt] at hk0
    refine Goes.go (fun _ k => XS.iload X0.here X0.ex rfl (hb hby d_jdk_65_method_56_37) rfl (XS.iconst X0.here X0.ex rfl (hb hby d_jdk_65_method_56_39) (XS.iadd X0.here X0.ex rfl (hb hby d_jdk_65_method_56_40) rfl k))) ?_
    show Goes _ _ _ _ T0 (mkF m 41 #[.val (.ref b), .val (.int (0 : Int32)), .val (.int (3 : Int32)), .val (.long q), .second, .val (.int (0 : Int32)), .val (.int (2 : Int32)), .val (.int (1 : Int32)), .val (.long y), .second] [(.int ((1 : Int32) + (1 : Int32)))])
    refine Goes.cast (congrArg (fun zq_ => (mkF m 41 #[.val (.ref b), .val (.int (0 : Int32)), .val (.int (3 : Int32)), .val (.long q), .second, .val (.int (0 : Int32)), .val (.int (2 : Int32)), .val (.int (1 : Int32)), .val (.long y), .second] [(.int zq_)])) (show (((1 : Int32) + (1 : Int32)) : Int32) = (2 : Int32) from by decide)) ?_
    show Goes _ _ _ _ T0 (mkF m 41 #[.val (.ref b), .val (.int (0 : Int32)), .val (.int (3 : Int32)), .val (.long q), .second, .val (.int (0 : Int32)), .val (.int (2 : Int32)), .val (.int (1 : Int32)), .val (.long y), .second] [(.int (2 : Int32))])
    refine Goes.go (fun _ k => XS.istore X0.here X0.ex rfl (hb hby d_jdk_65_method_56_41) rfl (l' := #[.val (.ref b), .val (.int (0 : Int32)), .val (.int (3 : Int32)), .val (.long q), .second, .val (.int (2 : Int32)), .val (.int (2 : Int32)), .val (.int (1 : Int32)), .val (.long y), .second]) rfl (XS.goto X0.here X0.ex rfl (pc0 := 43) (pc' := 65) rfl (hb hby d_jdk_65_method_56_43) (by decide) (by decide) (XS.goto X0.here X0.ex rfl (pc0 := 65) (pc' := 8) rfl (hb hby d_jdk_65_method_56_65) (by decide) (by decide) (XS.iload X0.here X0.ex rfl (hb hby d_jdk_65_method_56_8) rfl (XS.iload X0.here X0.ex rfl (hb hby d_jdk_65_method_56_10) rfl (XS.icmpNo X0.here X0.ex rfl (hb hby d_jdk_65_method_56_12) rfl (cd_f (cd := .gt) (x := (2 : Int32)) (y := (2 : Int32)) (by decide)) k)))))) ?_
    show Goes _ _ _ _ T0 (mkF m 15 #[.val (.ref b), .val (.int (0 : Int32)), .val (.int (3 : Int32)), .val (.long q), .second, .val (.int (2 : Int32)), .val (.int (2 : Int32)), .val (.int (1 : Int32)), .val (.long y), .second] [])
    refine Goes.go (fun _ k => XS.iload X0.here X0.ex rfl (hb hby d_jdk_65_method_56_15) rfl (XS.iload X0.here X0.ex rfl (hb hby d_jdk_65_method_56_17) rfl (XS.iadd X0.here X0.ex rfl (hb hby d_jdk_65_method_56_19) rfl k))) ?_
    show Goes _ _ _ _ T0 (mkF m 20 #[.val (.ref b), .val (.int (0 : Int32)), .val (.int (3 : Int32)), .val (.long q), .second, .val (.int (2 : Int32)), .val (.int (2 : Int32)), .val (.int (1 : Int32)), .val (.long y), .second] [(.int ((2 : Int32) + (2 : Int32)))])
    refine Goes.cast (congrArg (fun zq_ => (mkF m 20 #[.val (.ref b), .val (.int (0 : Int32)), .val (.int (3 : Int32)), .val (.long q), .second, .val (.int (2 : Int32)), .val (.int (2 : Int32)), .val (.int (1 : Int32)), .val (.long y), .second] [(.int zq_)])) (show (((2 : Int32) + (2 : Int32)) : Int32) = (4 : Int32) from by decide)) ?_
    show Goes _ _ _ _ T0 (mkF m 20 #[.val (.ref b), .val (.int (0 : Int32)), .val (.int (3 : Int32)), .val (.long q), .second, .val (.int (2 : Int32)), .val (.int (2 : Int32)), .val (.int (1 : Int32)), .val (.long y), .second] [(.int (4 : Int32))])
    refine Goes.go (fun _ k => XS.iconst X0.here X0.ex rfl (hb hby d_jdk_65_method_56_20) (XS.iushr X0.here X0.ex rfl (hb hby d_jdk_65_method_56_21) rfl k)) ?_
    show Goes _ _ _ _ T0 (mkF m 22 #[.val (.ref b), .val (.int (0 : Int32)), .val (.int (3 : Int32)), .val (.long q), .second, .val (.int (2 : Int32)), .val (.int (2 : Int32)), .val (.int (1 : Int32)), .val (.long y), .second] [(.int (((4 : Int32).toUInt32 >>> ((1 : Int32) &&& 31).toUInt32).toInt32))])
    refine Goes.cast (congrArg (fun zq_ => (mkF m 22 #[.val (.ref b), .val (.int (0 : Int32)), .val (.int (3 : Int32)), .val (.long q), .second, .val (.int (2 : Int32)), .val (.int (2 : Int32)), .val (.int (1 : Int32)), .val (.long y), .second] [(.int zq_)])) (show ((((4 : Int32).toUInt32 >>> ((1 : Int32) &&& 31).toUInt32).toInt32) : Int32) = (2 : Int32) from by decide)) ?_
    show Goes _ _ _ _ T0 (mkF m 22 #[.val (.ref b), .val (.int (0 : Int32)), .val (.int (3 : Int32)), .val (.long q), .second, .val (.int (2 : Int32)), .val (.int (2 : Int32)), .val (.int (1 : Int32)), .val (.long y), .second] [(.int (2 : Int32))])
    refine Goes.go (fun _ k => XS.istore X0.here X0.ex rfl (hb hby d_jdk_65_method_56_22) rfl (l' := #[.val (.ref b), .val (.int (0 : Int32)), .val (.int (3 : Int32)), .val (.long q), .second, .val (.int (2 : Int32)), .val (.int (2 : Int32)), .val (.int (2 : Int32)), .val (.long y), .second]) rfl (XS.aloadN X0.here X0.ex rfl (hb hby d_jdk_65_method_56_24) rfl rfl (XS.iload X0.here X0.ex rfl (hb hby d_jdk_65_method_56_25) rfl k))) ?_
    show Goes _ _ _ _ T0 (mkF m 27 #[.val (.ref b), .val (.int (0 : Int32)), .val (.int (3 : Int32)), .val (.long q), .second, .val (.int (2 : Int32)), .val (.int (2 : Int32)), .val (.int (2 : Int32)), .val (.long y), .second] [(.int (2 : Int32)), (.ref b)])
    refine Goes.go (X0.laload V ⟨by decide, by decide⟩ (v := .long z) rfl rfl rfl (hb hby d_jdk_65_method_56_27)) ?_
    show Goes _ _ _ _ T0 (mkF m 28 #[.val (.ref b), .val (.int (0 : Int32)), .val (.int (3 : Int32)), .val (.long q), .second, .val (.int (2 : Int32)), .val (.int (2 : Int32)), .val (.int (2 : Int32)), .val (.long y), .second] [(.long z)])
    refine Goes.go (fun _ k => XS.lstore X0.here X0.ex rfl (hb hby d_jdk_65_method_56_28) rfl (l' := #[.val (.ref b), .val (.int (0 : Int32)), .val (.int (3 : Int32)), .val (.long q), .second, .val (.int (2 : Int32)), .val (.int (2 : Int32)), .val (.int (2 : Int32)), .val (.long z), .second]) rfl (XS.lload X0.here X0.ex rfl (hb hby d_jdk_65_method_56_30) rfl (XS.lloadN X0.here X0.ex rfl (hb hby d_jdk_65_method_56_32) rfl (XS.lcmp X0.here X0.ex rfl (hb hby d_jdk_65_method_56_33) rfl k)))) ?_
    show Goes _ _ _ _ T0 (mkF m 34 #[.val (.ref b), .val (.int (0 : Int32)), .val (.int (3 : Int32)), .val (.long q), .second, .val (.int (2 : Int32)), .val (.int (2 : Int32)), .val (.int (2 : Int32)), .val (.long z), .second] [(.int (lcmpW z q))])
    refine Goes.ifc (pc' := 46) X0.here X0.ex (hb hby d_jdk_65_method_56_34) (by decide) (by decide) (fun hk1 => ?_) (fun hk1 => ?_)
    · have hk1 : ¬ ((lcmpW z q) < (0 : Int32)) := hk1
      show Goes _ _ _ _ T0 (mkF m 46 #[.val (.ref b), .val (.int (0 : Int32)), .val (.int (3 : Int32)), .val (.long q), .second, .val (.int (2 : Int32)), .val (.int (2 : Int32)), .val (.int (2 : Int32)), .val (.long z), .second] [])
      rw [lw_lt] at hk1
      refine Goes.go (fun _ k => XS.lload X0.here X0.ex rfl (hb hby d_jdk_65_method_56_46) rfl (XS.lloadN X0.here X0.ex rfl (hb hby d_jdk_65_method_56_48) rfl (XS.lcmp X0.here X0.ex rfl (hb hby d_jdk_65_method_56_49) rfl k))) ?_
      show Goes _ _ _ _ T0 (mkF m 50 #[.val (.ref b), .val (.int (0 : Int32)), .val (.int (3 : Int32)), .val (.long q), .second, .val (.int (2 : Int32)), .val (.int (2 : Int32)), .val (.int (2 : Int32)), .val (.long z), .second] [(.int (lcmpW z q))])
      refine Goes.ifc (pc' := 62) X0.here X0.ex (hb hby d_jdk_65_method_56_50) (by decide) (by decide) (fun hk2 => ?_) (fun hk2 => ?_)
      · have hk2 : ¬ ((0 : Int32) < (lcmpW z q)) := hk2
        show Goes _ _ _ _ T0 (mkF m 62 #[.val (.ref b), .val (.int (0 : Int32)), .val (.int (3 : Int32)), .val (.long q), .second, .val (.int (2 : Int32)), .val (.int (2 : Int32)), .val (.int (2 : Int32)), .val (.long z), .second] [])
        rw [lw_gt] at hk2
        refine Goes.go (fun _ k => XS.iload X0.here X0.ex rfl (hb hby d_jdk_65_method_56_62) rfl k) ?_
        show Goes _ _ _ _ T0 (mkF m 64 #[.val (.ref b), .val (.int (0 : Int32)), .val (.int (3 : Int32)), .val (.long q), .second, .val (.int (2 : Int32)), .val (.int (2 : Int32)), .val (.int (2 : Int32)), .val (.long z), .second] [(.int (2 : Int32))])
        have cx : x < q := by simp only [Int64.lt_iff_toInt_lt] at *; omega
        have cy : y < q := by simp only [Int64.lt_iff_toInt_lt] at *; omega
        have cz : ¬ z < q := by simp only [Int64.lt_iff_toInt_lt] at *; omega
        refine Goes.outN X0 (fun q => by rw [hret] at q; cases q) hlk (X0.rI hret (hb hby d_jdk_65_method_56_64)) ?_ (by decide) (by decide)
        exact ⟨Ext.oKeepOf X0.ext [], (2 : Int32), rfl, by first | (simp only [own_cnt, if_pos cx, if_pos cy, if_neg cz] <;> decide) | (simp [own_cnt, cx, cy, cz]; done)⟩
      · have hk2 : (0 : Int32) < (lcmpW z q) := Classical.not_not.mp hk2
        show Goes _ _ _ _ T0 (mkF m 53 #[.val (.ref b), .val (.int (0 : Int32)), .val (.int (3 : Int32)), .val (.long q), .second, .val (.int (2 : Int32)), .val (.int (2 : Int32)), .val (.int (2 : Int32)), .val (.long z), .second] [])
        rw [lw_gt] at hk2
        refine Goes.go (fun _ k => XS.iload X0.here X0.ex rfl (hb hby d_jdk_65_method_56_53) rfl (XS.iconst X0.here X0.ex rfl (hb hby d_jdk_65_method_56_55) (XS.isub X0.here X0.ex rfl (hb hby d_jdk_65_method_56_56) rfl k))) ?_
        show Goes _ _ _ _ T0 (mkF m 57 #[.val (.ref b), .val (.int (0 : Int32)), .val (.int (3 : Int32)), .val (.long q), .second, .val (.int (2 : Int32)), .val (.int (2 : Int32)), .val (.int (2 : Int32)), .val (.long z), .second] [(.int ((2 : Int32) - (1 : Int32)))])
        refine Goes.cast (congrArg (fun zq_ => (mkF m 57 #[.val (.ref b), .val (.int (0 : Int32)), .val (.int (3 : Int32)), .val (.long q), .second, .val (.int (2 : Int32)), .val (.int (2 : Int32)), .val (.int (2 : Int32)), .val (.long z), .second] [(.int zq_)])) (show (((2 : Int32) - (1 : Int32)) : Int32) = (1 : Int32) from by decide)) ?_
        show Goes _ _ _ _ T0 (mkF m 57 #[.val (.ref b), .val (.int (0 : Int32)), .val (.int (3 : Int32)), .val (.long q), .second, .val (.int (2 : Int32)), .val (.int (2 : Int32)), .val (.int (2 : Int32)), .val (.long z), .second] [(.int (1 : Int32))])
        refine Goes.go (fun _ k => XS.istore X0.here X0.ex rfl (hb hby d_jdk_65_method_56_57) rfl (l' := #[.val (.ref b), .val (.int (0 : Int32)), .val (.int (3 : Int32)), .val (.long q), .second, .val (.int (2 : Int32)), .val (.int (1 : Int32)), .val (.int (2 : Int32)), .val (.long z), .second]) rfl (XS.goto X0.here X0.ex rfl (pc0 := 59) (pc' := 65) rfl (hb hby d_jdk_65_method_56_59) (by decide) (by decide) (XS.goto X0.here X0.ex rfl (pc0 := 65) (pc' := 8) rfl (hb hby d_jdk_65_method_56_65) (by decide) (by decide) (XS.iload X0.here X0.ex rfl (hb hby d_jdk_65_method_56_8) rfl (XS.iload X0.here X0.ex rfl (hb hby d_jdk_65_method_56_10) rfl (XS.icmpYes X0.here X0.ex rfl (pc0 := 12) (pc' := 68) rfl (hb hby d_jdk_65_method_56_12) rfl (cd_t (cd := .gt) (x := (2 : Int32)) (y := (1 : Int32)) (by decide)) (by decide) (by decide) k)))))) ?_
        show Goes _ _ _ _ T0 (mkF m 68 #[.val (.ref b), .val (.int (0 : Int32)), .val (.int (3 : Int32)), .val (.long q), .second, .val (.int (2 : Int32)), .val (.int (1 : Int32)), .val (.int (2 : Int32)), .val (.long z), .second] [])
        refine Goes.go (fun _ k => XS.iload X0.here X0.ex rfl (hb hby d_jdk_65_method_56_68) rfl (XS.iconst X0.here X0.ex rfl (hb hby d_jdk_65_method_56_70) (XS.iadd X0.here X0.ex rfl (hb hby d_jdk_65_method_56_71) rfl k))) ?_
        show Goes _ _ _ _ T0 (mkF m 72 #[.val (.ref b), .val (.int (0 : Int32)), .val (.int (3 : Int32)), .val (.long q), .second, .val (.int (2 : Int32)), .val (.int (1 : Int32)), .val (.int (2 : Int32)), .val (.long z), .second] [(.int ((2 : Int32) + (1 : Int32)))])
        refine Goes.cast (congrArg (fun zq_ => (mkF m 72 #[.val (.ref b), .val (.int (0 : Int32)), .val (.int (3 : Int32)), .val (.long q), .second, .val (.int (2 : Int32)), .val (.int (1 : Int32)), .val (.int (2 : Int32)), .val (.long z), .second] [(.int zq_)])) (show (((2 : Int32) + (1 : Int32)) : Int32) = (3 : Int32) from by decide)) ?_
        show Goes _ _ _ _ T0 (mkF m 72 #[.val (.ref b), .val (.int (0 : Int32)), .val (.int (3 : Int32)), .val (.long q), .second, .val (.int (2 : Int32)), .val (.int (1 : Int32)), .val (.int (2 : Int32)), .val (.long z), .second] [(.int (3 : Int32))])
        refine Goes.go (fun _ k => XS.ineg X0.here X0.ex rfl (hb hby d_jdk_65_method_56_72) rfl k) ?_
        show Goes _ _ _ _ T0 (mkF m 73 #[.val (.ref b), .val (.int (0 : Int32)), .val (.int (3 : Int32)), .val (.long q), .second, .val (.int (2 : Int32)), .val (.int (1 : Int32)), .val (.int (2 : Int32)), .val (.long z), .second] [(.int (-(3 : Int32)))])
        have cx : x < q := by simp only [Int64.lt_iff_toInt_lt] at *; omega
        have cy : y < q := by simp only [Int64.lt_iff_toInt_lt] at *; omega
        have cz : ¬ z < q := by simp only [Int64.lt_iff_toInt_lt] at *; omega
        refine Goes.outN X0 (fun q => by rw [hret] at q; cases q) hlk (X0.rI hret (hb hby d_jdk_65_method_56_73)) ?_ (by decide) (by decide)
        exact ⟨Ext.oKeepOf X0.ext [], (-(3 : Int32)), rfl, by first | (simp only [own_cnt, if_pos cx, if_pos cy, if_neg cz] <;> decide) | (simp [own_cnt, cx, cy, cz]; done)⟩
    · have hk1 : (lcmpW z q) < (0 : Int32) := Classical.not_not.mp hk1
      show Goes _ _ _ _ T0 (mkF m 37 #[.val (.ref b), .val (.int (0 : Int32)), .val (.int (3 : Int32)), .val (.long q), .second, .val (.int (2 : Int32)), .val (.int (2 : Int32)), .val (.int (2 : Int32)), .val (.long z), .second] [])
      rw [lw_lt] at hk1
      refine Goes.go (fun _ k => XS.iload X0.here X0.ex rfl (hb hby d_jdk_65_method_56_37) rfl (XS.iconst X0.here X0.ex rfl (hb hby d_jdk_65_method_56_39) (XS.iadd X0.here X0.ex rfl (hb hby d_jdk_65_method_56_40) rfl k))) ?_
      show Goes _ _ _ _ T0 (mkF m 41 #[.val (.ref b), .val (.int (0 : Int32)), .val (.int (3 : Int32)), .val (.long q), .second, .val (.int (2 : Int32)), .val (.int (2 : Int32)), .val (.int (2 : Int32)), .val (.long z), .second] [(.int ((2 : Int32) + (1 : Int32)))])
      refine Goes.cast (congrArg (fun zq_ => (mkF m 41 #[.val (.ref b), .val (.int (0 : Int32)), .val (.int (3 : Int32)), .val (.long q), .second, .val (.int (2 : Int32)), .val (.int (2 : Int32)), .val (.int (2 : Int32)), .val (.long z), .second] [(.int zq_)])) (show (((2 : Int32) + (1 : Int32)) : Int32) = (3 : Int32) from by decide)) ?_
      show Goes _ _ _ _ T0 (mkF m 41 #[.val (.ref b), .val (.int (0 : Int32)), .val (.int (3 : Int32)), .val (.long q), .second, .val (.int (2 : Int32)), .val (.int (2 : Int32)), .val (.int (2 : Int32)), .val (.long z), .second] [(.int (3 : Int32))])
      refine Goes.go (fun _ k => XS.istore X0.here X0.ex rfl (hb hby d_jdk_65_method_56_41) rfl (l' := #[.val (.ref b), .val (.int (0 : Int32)), .val (.int (3 : Int32)), .val (.long q), .second, .val (.int (3 : Int32)), .val (.int (2 : Int32)), .val (.int (2 : Int32)), .val (.long z), .second]) rfl (XS.goto X0.here X0.ex rfl (pc0 := 43) (pc' := 65) rfl (hb hby d_jdk_65_method_56_43) (by decide) (by decide) (XS.goto X0.here X0.ex rfl (pc0 := 65) (pc' := 8) rfl (hb hby d_jdk_65_method_56_65) (by decide) (by decide) (XS.iload X0.here X0.ex rfl (hb hby d_jdk_65_method_56_8) rfl (XS.iload X0.here X0.ex rfl (hb hby d_jdk_65_method_56_10) rfl (XS.icmpYes X0.here X0.ex rfl (pc0 := 12) (pc' := 68) rfl (hb hby d_jdk_65_method_56_12) rfl (cd_t (cd := .gt) (x := (3 : Int32)) (y := (2 : Int32)) (by decide)) (by decide) (by decide) k)))))) ?_
      show Goes _ _ _ _ T0 (mkF m 68 #[.val (.ref b), .val (.int (0 : Int32)), .val (.int (3 : Int32)), .val (.long q), .second, .val (.int (3 : Int32)), .val (.int (2 : Int32)), .val (.int (2 : Int32)), .val (.long z), .second] [])
      refine Goes.go (fun _ k => XS.iload X0.here X0.ex rfl (hb hby d_jdk_65_method_56_68) rfl (XS.iconst X0.here X0.ex rfl (hb hby d_jdk_65_method_56_70) (XS.iadd X0.here X0.ex rfl (hb hby d_jdk_65_method_56_71) rfl k))) ?_
      show Goes _ _ _ _ T0 (mkF m 72 #[.val (.ref b), .val (.int (0 : Int32)), .val (.int (3 : Int32)), .val (.long q), .second, .val (.int (3 : Int32)), .val (.int (2 : Int32)), .val (.int (2 : Int32)), .val (.long z), .second] [(.int ((3 : Int32) + (1 : Int32)))])
      refine Goes.cast (congrArg (fun zq_ => (mkF m 72 #[.val (.ref b), .val (.int (0 : Int32)), .val (.int (3 : Int32)), .val (.long q), .second, .val (.int (3 : Int32)), .val (.int (2 : Int32)), .val (.int (2 : Int32)), .val (.long z), .second] [(.int zq_)])) (show (((3 : Int32) + (1 : Int32)) : Int32) = (4 : Int32) from by decide)) ?_
      show Goes _ _ _ _ T0 (mkF m 72 #[.val (.ref b), .val (.int (0 : Int32)), .val (.int (3 : Int32)), .val (.long q), .second, .val (.int (3 : Int32)), .val (.int (2 : Int32)), .val (.int (2 : Int32)), .val (.long z), .second] [(.int (4 : Int32))])
      refine Goes.go (fun _ k => XS.ineg X0.here X0.ex rfl (hb hby d_jdk_65_method_56_72) rfl k) ?_
      show Goes _ _ _ _ T0 (mkF m 73 #[.val (.ref b), .val (.int (0 : Int32)), .val (.int (3 : Int32)), .val (.long q), .second, .val (.int (3 : Int32)), .val (.int (2 : Int32)), .val (.int (2 : Int32)), .val (.long z), .second] [(.int (-(4 : Int32)))])
      have cx : x < q := by simp only [Int64.lt_iff_toInt_lt] at *; omega
      have cy : y < q := by simp only [Int64.lt_iff_toInt_lt] at *; omega
      have cz : z < q := by simp only [Int64.lt_iff_toInt_lt] at *; omega
      refine Goes.outN X0 (fun q => by rw [hret] at q; cases q) hlk (X0.rI hret (hb hby d_jdk_65_method_56_73)) ?_ (by decide) (by decide)
      exact ⟨Ext.oKeepOf X0.ext [], (-(4 : Int32)), rfl, by first | (simp only [own_cnt, if_pos cx, if_pos cy, if_pos cz] <;> decide) | (simp [own_cnt, cx, cy, cz]; done)⟩
set_option maxRecDepth 65536 in
set_option maxHeartbeats 40000000 in
theorem own_bs_0 (l : Launch) (Z : State) (a0 : Array Value) (hw : ∀ d ∈ tables_1, d.before a0 Z = true) (h0 : Heap) (hO : Ext Z.heap h0) (b : Addr) (kA : ClassId) (q : Int64) (V : Arv Z h0 b kA .long (0 : Int32) [] (.long (0 : Int64)))  :
    CtrN l Z (⟨"java/util/Arrays", "binarySearch", "([JJ)I"⟩ : MethodName) jdk_65_method_54_code 3 (some .int) ({ frames := 1, cells := 0, slots := 0, locals := 21 } : Room) #[(.ref b), (.long q)] h0 (fun v h' => Keep h0 h' [] ∧ ∃ r, v = some (.int r) ∧ (if r < 0 then -r - 1 else r) = (own_cnt [] q)) := by
  refine CtrN.of (plainFor_of_name pn_0) hO ?_
  intro p e s m below meth c T0 X0 hsh hby hml hret hlk hnm
  refine Goes.cast (ef_own_bs_0 m b q) ?_
  show Goes _ _ _ _ T0 (mkF m 0 #[.val (.ref b), .val (.long q), .second] [])
  refine Goes.go (fun _ k => XS.aloadN X0.here X0.ex rfl (hb hby d_jdk_65_method_54_0) rfl rfl (XS.iconst X0.here X0.ex rfl (hb hby d_jdk_65_method_54_1) (XS.aloadN X0.here X0.ex rfl (hb hby d_jdk_65_method_54_2) rfl rfl k))) ?_
  show Goes _ _ _ _ T0 (mkF m 3 #[.val (.ref b), .val (.long q), .second] [(.ref b), (.int (0 : Int32)), (.ref b)])
  refine Goes.go (X0.alen V rfl rfl (hb hby d_jdk_65_method_54_3)) ?_
  show Goes _ _ _ _ T0 (mkF m 4 #[.val (.ref b), .val (.long q), .second] [(.int (0 : Int32)), (.int (0 : Int32)), (.ref b)])
  refine Goes.go (fun _ k => XS.lloadN X0.here X0.ex rfl (hb hby d_jdk_65_method_54_4) rfl k) ?_
  show Goes _ _ _ _ T0 (mkF m 5 #[.val (.ref b), .val (.long q), .second] [(.long q), (.int (0 : Int32)), (.int (0 : Int32)), (.ref b)])
  refine Wk.static (hm' := fun _ => h0) (y := (⟨"java/util/Arrays", "binarySearch0", "([JIIJ)I"⟩ : MethodName)) (W := 0) (kc := 0) (ks := 0) (argsL := [(.ref b), (.int (0 : Int32)), (.int (0 : Int32)), (.long q)]) (rest := []) (as' := #[(.ref b), (.int (0 : Int32)), (.int (0 : Int32)), (.long q)]) (ws := []) X0 (w_10 hw) (w_11 hw) (w_8 hw) (w_12 hw) (by decide) (CtrN.pays (own_bs0_0 l Z a0 hw h0 X0.old b kA q  V ) (w_12 hw) (w_8 hw) (by decide) (by decide)) (fun v h' L q => ⟨q.2, q.1.1⟩) all0 (fun _ => Mark.stay all0) rfl (by rw [hml]; rfl) (lenOf pd_0 rfl) rfl rfl (by show 2 * 0 + _ ≤ _; exact Nat.le_of_eq rfl) (hb hby d_jdk_65_method_54_5) (by decide) (by decide) ?_
  intro T1 h1 v1 L1 X1 q1 K1
  obtain ⟨⟨-, r1, rfl, hr1⟩, -⟩ := q1
  show Goes _ _ _ _ T1 (mkF m 8 #[.val (.ref b), .val (.long q), .second] [(.int r1)])
  refine Goes.outN X1 (fun q => by rw [hret] at q; cases q) hlk (X1.rI hret (hb hby d_jdk_65_method_54_8)) ?_ (by decide) (by decide)
  exact ⟨K1, r1, rfl, hr1⟩
set_option maxRecDepth 65536 in
set_option maxHeartbeats 40000000 in
theorem own_bs_1 (l : Launch) (Z : State) (a0 : Array Value) (hw : ∀ d ∈ tables_1, d.before a0 Z = true) (h0 : Heap) (hO : Ext Z.heap h0) (b : Addr) (kA : ClassId) (q : Int64) (x : Int64) (V : Arv Z h0 b kA .long (1 : Int32) [(.long x)] (.long (0 : Int64)))  :
    CtrN l Z (⟨"java/util/Arrays", "binarySearch", "([JJ)I"⟩ : MethodName) jdk_65_method_54_code 3 (some .int) ({ frames := 1, cells := 0, slots := 0, locals := 21 } : Room) #[(.ref b), (.long q)] h0 (fun v h' => Keep h0 h' [] ∧ ∃ r, v = some (.int r) ∧ (if r < 0 then -r - 1 else r) = (own_cnt [x] q)) := by
  refine CtrN.of (plainFor_of_name pn_0) hO ?_
  intro p e s m below meth c T0 X0 hsh hby hml hret hlk hnm
  refine Goes.cast (ef_own_bs_1 m b q) ?_
  show Goes _ _ _ _ T0 (mkF m 0 #[.val (.ref b), .val (.long q), .second] [])
  refine Goes.go (fun _ k => XS.aloadN X0.here X0.ex rfl (hb hby d_jdk_65_method_54_0) rfl rfl (XS.iconst X0.here X0.ex rfl (hb hby d_jdk_65_method_54_1) (XS.aloadN X0.here X0.ex rfl (hb hby d_jdk_65_method_54_2) rfl rfl k))) ?_
  show Goes _ _ _ _ T0 (mkF m 3 #[.val (.ref b), .val (.long q), .second] [(.ref b), (.int (0 : Int32)), (.ref b)])
  refine Goes.go (X0.alen V rfl rfl (hb hby d_jdk_65_method_54_3)) ?_
  show Goes _ _ _ _ T0 (mkF m 4 #[.val (.ref b), .val (.long q), .second] [(.int (1 : Int32)), (.int (0 : Int32)), (.ref b)])
  refine Goes.go (fun _ k => XS.lloadN X0.here X0.ex rfl (hb hby d_jdk_65_method_54_4) rfl k) ?_
  show Goes _ _ _ _ T0 (mkF m 5 #[.val (.ref b), .val (.long q), .second] [(.long q), (.int (1 : Int32)), (.int (0 : Int32)), (.ref b)])
  refine Wk.static (hm' := fun _ => h0) (y := (⟨"java/util/Arrays", "binarySearch0", "([JIIJ)I"⟩ : MethodName)) (W := 0) (kc := 0) (ks := 0) (argsL := [(.ref b), (.int (0 : Int32)), (.int (1 : Int32)), (.long q)]) (rest := []) (as' := #[(.ref b), (.int (0 : Int32)), (.int (1 : Int32)), (.long q)]) (ws := []) X0 (w_10 hw) (w_11 hw) (w_8 hw) (w_12 hw) (by decide) (CtrN.pays (own_bs0_1 l Z a0 hw h0 X0.old b kA q x V ) (w_12 hw) (w_8 hw) (by decide) (by decide)) (fun v h' L q => ⟨q.2, q.1.1⟩) all0 (fun _ => Mark.stay all0) rfl (by rw [hml]; rfl) (lenOf pd_0 rfl) rfl rfl (by show 2 * 0 + _ ≤ _; exact Nat.le_of_eq rfl) (hb hby d_jdk_65_method_54_5) (by decide) (by decide) ?_
  intro T2 h2 v2 L2 X2 q2 K2
  obtain ⟨⟨-, r2, rfl, hr2⟩, -⟩ := q2
  show Goes _ _ _ _ T2 (mkF m 8 #[.val (.ref b), .val (.long q), .second] [(.int r2)])
  refine Goes.outN X2 (fun q => by rw [hret] at q; cases q) hlk (X2.rI hret (hb hby d_jdk_65_method_54_8)) ?_ (by decide) (by decide)
  exact ⟨K2, r2, rfl, hr2⟩
set_option maxRecDepth 65536 in
set_option maxHeartbeats 40000000 in
theorem own_bs_2 (l : Launch) (Z : State) (a0 : Array Value) (hw : ∀ d ∈ tables_1, d.before a0 Z = true) (h0 : Heap) (hO : Ext Z.heap h0) (b : Addr) (kA : ClassId) (q : Int64) (x : Int64) (y : Int64) (V : Arv Z h0 b kA .long (2 : Int32) [(.long x), (.long y)] (.long (0 : Int64))) (s1 : x < y) :
    CtrN l Z (⟨"java/util/Arrays", "binarySearch", "([JJ)I"⟩ : MethodName) jdk_65_method_54_code 3 (some .int) ({ frames := 1, cells := 0, slots := 0, locals := 21 } : Room) #[(.ref b), (.long q)] h0 (fun v h' => Keep h0 h' [] ∧ ∃ r, v = some (.int r) ∧ (if r < 0 then -r - 1 else r) = (own_cnt [x, y] q)) := by
  refine CtrN.of (plainFor_of_name pn_0) hO ?_
  intro p e s m below meth c T0 X0 hsh hby hml hret hlk hnm
  refine Goes.cast (ef_own_bs_2 m b q) ?_
  show Goes _ _ _ _ T0 (mkF m 0 #[.val (.ref b), .val (.long q), .second] [])
  refine Goes.go (fun _ k => XS.aloadN X0.here X0.ex rfl (hb hby d_jdk_65_method_54_0) rfl rfl (XS.iconst X0.here X0.ex rfl (hb hby d_jdk_65_method_54_1) (XS.aloadN X0.here X0.ex rfl (hb hby d_jdk_65_method_54_2) rfl rfl k))) ?_
  show Goes _ _ _ _ T0 (mkF m 3 #[.val (.ref b), .val (.long q), .second] [(.ref b), (.int (0 : Int32)), (.ref b)])
  refine Goes.go (X0.alen V rfl rfl (hb hby d_jdk_65_method_54_3)) ?_
  show Goes _ _ _ _ T0 (mkF m 4 #[.val (.ref b), .val (.long q), .second] [(.int (2 : Int32)), (.int (0 : Int32)), (.ref b)])
  refine Goes.go (fun _ k => XS.lloadN X0.here X0.ex rfl (hb hby d_jdk_65_method_54_4) rfl k) ?_
  show Goes _ _ _ _ T0 (mkF m 5 #[.val (.ref b), .val (.long q), .second] [(.long q), (.int (2 : Int32)), (.int (0 : Int32)), (.ref b)])
  refine Wk.static (hm' := fun _ => h0) (y := (⟨"java/util/Arrays", "binarySearch0", "([JIIJ)I"⟩ : MethodName)) (W := 0) (kc := 0) (ks := 0) (argsL := [(.ref b), (.int (0 : Int32)), (.int (2 : Int32)), (.long q)]) (rest := []) (as' := #[(.ref b), (.int (0 : Int32)), (.int (2 : Int32)), (.long q)]) (ws := []) X0 (w_10 hw) (w_11 hw) (w_8 hw) (w_12 hw) (by decide) (CtrN.pays (own_bs0_2 l Z a0 hw h0 X0.old b kA q x y V s1) (w_12 hw) (w_8 hw) (by decide) (by decide)) (fun v h' L q => ⟨q.2, q.1.1⟩) all0 (fun _ => Mark.stay all0) rfl (by rw [hml]; rfl) (lenOf pd_0 rfl) rfl rfl (by show 2 * 0 + _ ≤ _; exact Nat.le_of_eq rfl) (hb hby d_jdk_65_method_54_5) (by decide) (by decide) ?_
  intro T3 h3 v3 L3 X3 q3 K3
  obtain ⟨⟨-, r3, rfl, hr3⟩, -⟩ := q3
  show Goes _ _ _ _ T3 (mkF m 8 #[.val (.ref b), .val (.long q), .second] [(.int r3)])
  refine Goes.outN X3 (fun q => by rw [hret] at q; cases q) hlk (X3.rI hret (hb hby d_jdk_65_method_54_8)) ?_ (by decide) (by decide)
  exact ⟨K3, r3, rfl, hr3⟩
set_option maxRecDepth 65536 in
set_option maxHeartbeats 40000000 in
theorem own_bs_3 (l : Launch) (Z : State) (a0 : Array Value) (hw : ∀ d ∈ tables_1, d.before a0 Z = true) (h0 : Heap) (hO : Ext Z.heap h0) (b : Addr) (kA : ClassId) (q : Int64) (x : Int64) (y : Int64) (z : Int64) (V : Arv Z h0 b kA .long (3 : Int32) [(.long x), (.long y), (.long z)] (.long (0 : Int64))) (s1 : x < y) (s2 : y < z) :
    CtrN l Z (⟨"java/util/Arrays", "binarySearch", "([JJ)I"⟩ : MethodName) jdk_65_method_54_code 3 (some .int) ({ frames := 1, cells := 0, slots := 0, locals := 21 } : Room) #[(.ref b), (.long q)] h0 (fun v h' => Keep h0 h' [] ∧ ∃ r, v = some (.int r) ∧ (if r < 0 then -r - 1 else r) = (own_cnt [x, y, z] q)) := by
  refine CtrN.of (plainFor_of_name pn_0) hO ?_
  intro p e s m below meth c T0 X0 hsh hby hml hret hlk hnm
  refine Goes.cast (ef_own_bs_3 m b q) ?_
  show Goes _ _ _ _ T0 (mkF m 0 #[.val (.ref b), .val (.long q), .second] [])
  refine Goes.go (fun _ k => XS.aloadN X0.here X0.ex rfl (hb hby d_jdk_65_method_54_0) rfl rfl (XS.iconst X0.here X0.ex rfl (hb hby d_jdk_65_method_54_1) (XS.aloadN X0.here X0.ex rfl (hb hby d_jdk_65_method_54_2) rfl rfl k))) ?_
  show Goes _ _ _ _ T0 (mkF m 3 #[.val (.ref b), .val (.long q), .second] [(.ref b), (.int (0 : Int32)), (.ref b)])
  refine Goes.go (X0.alen V rfl rfl (hb hby d_jdk_65_method_54_3)) ?_
  show Goes _ _ _ _ T0 (mkF m 4 #[.val (.ref b), .val (.long q), .second] [(.int (3 : Int32)), (.int (0 : Int32)), (.ref b)])
  refine Goes.go (fun _ k => XS.lloadN X0.here X0.ex rfl (hb hby d_jdk_65_method_54_4) rfl k) ?_
  show Goes _ _ _ _ T0 (mkF m 5 #[.val (.ref b), .val (.long q), .second] [(.long q), (.int (3 : Int32)), (.int (0 : Int32)), (.ref b)])
  refine Wk.static (hm' := fun _ => h0) (y := (⟨"java/util/Arrays", "binarySearch0", "([JIIJ)I"⟩ : MethodName)) (W := 0) (kc := 0) (ks := 0) (argsL := [(.ref b), (.int (0 : Int32)), (.int (3 : Int32)), (.long q)]) (rest := []) (as' := #[(.ref b), (.int (0 : Int32)), (.int (3 : Int32)), (.long q)]) (ws := []) X0 (w_10 hw) (w_11 hw) (w_8 hw) (w_12 hw) (by decide) (CtrN.pays (own_bs0_3 l Z a0 hw h0 X0.old b kA q x y z V s1 s2) (w_12 hw) (w_8 hw) (by decide) (by decide)) (fun v h' L q => ⟨q.2, q.1.1⟩) all0 (fun _ => Mark.stay all0) rfl (by rw [hml]; rfl) (lenOf pd_0 rfl) rfl rfl (by show 2 * 0 + _ ≤ _; exact Nat.le_of_eq rfl) (hb hby d_jdk_65_method_54_5) (by decide) (by decide) ?_
  intro T4 h4 v4 L4 X4 q4 K4
  obtain ⟨⟨-, r4, rfl, hr4⟩, -⟩ := q4
  show Goes _ _ _ _ T4 (mkF m 8 #[.val (.ref b), .val (.long q), .second] [(.int r4)])
  refine Goes.outN X4 (fun q => by rw [hret] at q; cases q) hlk (X4.rI hret (hb hby d_jdk_65_method_54_8)) ?_ (by decide) (by decide)
  exact ⟨K4, r4, rfl, hr4⟩
set_option maxRecDepth 65536 in
set_option maxHeartbeats 40000000 in
theorem own_ip_0 (l : Launch) (Z : State) (a0 : Array Value) (hw : ∀ d ∈ tables_1, d.before a0 Z = true) (h0 : Heap) (hO : Ext Z.heap h0) (b : Addr) (kA : ClassId) (q : Int64) (V : Arv Z h0 b kA .long (0 : Int32) [] (.long (0 : Int64)))  :
    CtrN l Z (⟨"com/example/assent/assent/log/CrashSet", "insertionPoint", "([JJ)I"⟩ : MethodName) prog_16_method_3_code 4 (some .int) ({ frames := 2, cells := 0, slots := 0, locals := 35 } : Room) #[(.ref b), (.long q)] h0 (fun v h' => Keep h0 h' [] ∧ v = some (.int (own_cnt [] q))) := by
  refine CtrN.of (plainFor_of_name pn_1) hO ?_
  intro p e s m below meth c T0 X0 hsh hby hml hret hlk hnm
  refine Goes.cast (ef_own_ip_0 m b q) ?_
  show Goes _ _ _ _ T0 (mkF m 0 #[.val (.ref b), .val (.long q), .second, .unset] [])
  refine Goes.go (fun _ k => XS.aloadN X0.here X0.ex rfl (hb hby d_prog_16_method_3_0) rfl rfl (XS.lloadN X0.here X0.ex rfl (hb hby d_prog_16_method_3_1) rfl k)) ?_
  show Goes _ _ _ _ T0 (mkF m 2 #[.val (.ref b), .val (.long q), .second, .unset] [(.long q), (.ref b)])
  refine Wk.static (hm' := fun _ => h0) (y := (⟨"java/util/Arrays", "binarySearch", "([JJ)I"⟩ : MethodName)) (W := 0) (kc := 0) (ks := 0) (argsL := [(.ref b), (.long q)]) (rest := []) (as' := #[(.ref b), (.long q)]) (ws := []) X0 (w_6 hw) (w_7 hw) (w_8 hw) (w_9 hw) (by decide) (CtrN.pays (own_bs_0 l Z a0 hw h0 X0.old b kA q  V ) (w_9 hw) (w_8 hw) (by decide) (by decide)) (fun v h' L q => ⟨q.2, q.1.1⟩) all0 (fun _ => Mark.stay all0) rfl (by rw [hml]; rfl) (lenOf pd_1 rfl) rfl rfl (by show 2 * 0 + _ ≤ _; exact Nat.le_of_eq rfl) (hb hby d_prog_16_method_3_2) (by decide) (by decide) ?_
  intro T5 h5 v5 L5 X5 q5 K5
  obtain ⟨⟨-, r5, rfl, hr5⟩, -⟩ := q5
  show Goes _ _ _ _ T5 (mkF m 5 #[.val (.ref b), .val (.long q), .second, .unset] [(.int r5)])
  refine Goes.go (fun _ k => XS.istoreN X5.here X5.ex rfl (hb hby d_prog_16_method_3_5) rfl (l' := #[.val (.ref b), .val (.long q), .second, .val (.int r5)]) rfl (XS.iloadN X5.here X5.ex rfl (hb hby d_prog_16_method_3_6) rfl k)) ?_
  show Goes _ _ _ _ T5 (mkF m 7 #[.val (.ref b), .val (.long q), .second, .val (.int r5)] [(.int r5)])
  suffices hJ7 : Goes p.tables e below (EndN Z s (({ frames := 2, cells := 0, slots := 0, locals := 35 } : Room)).cells (({ frames := 2, cells := 0, slots := 0, locals := 35 } : Room)).slots (fun v h' => Keep h0 h' [] ∧ v = some (.int (own_cnt [] q)))) T5 (mkF m 18 #[.val (.ref b), .val (.long q), .second, .val (.int r5)] [(.int (if r5 < (0 : Int32) then ((-r5) - (1 : Int32)) else r5))]) by
    refine Goes.ifc (pc' := 14) X5.here X5.ex (hb hby d_prog_16_method_3_7) (by decide) (by decide) (fun hr1 => ?_) (fun hr1 => ?_)
    · have hr1 : r5 < (0 : Int32) := hr1
      show Goes _ _ _ _ T5 (mkF m 14 #[.val (.ref b), .val (.long q), .second, .val (.int r5)] [])
      refine Goes.go (fun _ k => XS.iloadN X5.here X5.ex rfl (hb hby d_prog_16_method_3_14) rfl (XS.ineg X5.here X5.ex rfl (hb hby d_prog_16_method_3_15) rfl (XS.iconst X5.here X5.ex rfl (hb hby d_prog_16_method_3_16) (XS.isub X5.here X5.ex rfl (hb hby d_prog_16_method_3_17) rfl k)))) ?_
      show Goes _ _ _ _ T5 (mkF m 18 #[.val (.ref b), .val (.long q), .second, .val (.int r5)] [(.int ((-r5) - (1 : Int32)))])
      (try simp only [if_pos hr1] at hJ7 ⊢)
      exact hJ7
    · have hr1 : ¬ (r5 < (0 : Int32)) := hr1
      show Goes _ _ _ _ T5 (mkF m 10 #[.val (.ref b), .val (.long q), .second, .val (.int r5)] [])
      refine Goes.go (fun _ k => XS.iloadN X5.here X5.ex rfl (hb hby d_prog_16_method_3_10) rfl (XS.goto X5.here X5.ex rfl (pc0 := 11) (pc' := 18) rfl (hb hby d_prog_16_method_3_11) (by decide) (by decide) k)) ?_
      show Goes _ _ _ _ T5 (mkF m 18 #[.val (.ref b), .val (.long q), .second, .val (.int r5)] [(.int r5)])
      (try simp only [if_neg hr1] at hJ7 ⊢)
      exact hJ7
  rw [hr5]
  show Goes _ _ _ _ T5 (mkF m 18 #[.val (.ref b), .val (.long q), .second, .val (.int r5)] [(.int (own_cnt [] q))])
  refine Goes.outN X5 (fun q => by rw [hret] at q; cases q) hlk (X5.rI hret (hb hby d_prog_16_method_3_18)) ?_ (by decide) (by decide)
  exact ⟨K5, rfl⟩
set_option maxRecDepth 65536 in
set_option maxHeartbeats 40000000 in
theorem own_ip_1 (l : Launch) (Z : State) (a0 : Array Value) (hw : ∀ d ∈ tables_1, d.before a0 Z = true) (h0 : Heap) (hO : Ext Z.heap h0) (b : Addr) (kA : ClassId) (q : Int64) (x : Int64) (V : Arv Z h0 b kA .long (1 : Int32) [(.long x)] (.long (0 : Int64)))  :
    CtrN l Z (⟨"com/example/assent/assent/log/CrashSet", "insertionPoint", "([JJ)I"⟩ : MethodName) prog_16_method_3_code 4 (some .int) ({ frames := 2, cells := 0, slots := 0, locals := 35 } : Room) #[(.ref b), (.long q)] h0 (fun v h' => Keep h0 h' [] ∧ v = some (.int (own_cnt [x] q))) := by
  refine CtrN.of (plainFor_of_name pn_1) hO ?_
  intro p e s m below meth c T0 X0 hsh hby hml hret hlk hnm
  refine Goes.cast (ef_own_ip_1 m b q) ?_
  show Goes _ _ _ _ T0 (mkF m 0 #[.val (.ref b), .val (.long q), .second, .unset] [])
  refine Goes.go (fun _ k => XS.aloadN X0.here X0.ex rfl (hb hby d_prog_16_method_3_0) rfl rfl (XS.lloadN X0.here X0.ex rfl (hb hby d_prog_16_method_3_1) rfl k)) ?_
  show Goes _ _ _ _ T0 (mkF m 2 #[.val (.ref b), .val (.long q), .second, .unset] [(.long q), (.ref b)])
  refine Wk.static (hm' := fun _ => h0) (y := (⟨"java/util/Arrays", "binarySearch", "([JJ)I"⟩ : MethodName)) (W := 0) (kc := 0) (ks := 0) (argsL := [(.ref b), (.long q)]) (rest := []) (as' := #[(.ref b), (.long q)]) (ws := []) X0 (w_6 hw) (w_7 hw) (w_8 hw) (w_9 hw) (by decide) (CtrN.pays (own_bs_1 l Z a0 hw h0 X0.old b kA q x V ) (w_9 hw) (w_8 hw) (by decide) (by decide)) (fun v h' L q => ⟨q.2, q.1.1⟩) all0 (fun _ => Mark.stay all0) rfl (by rw [hml]; rfl) (lenOf pd_1 rfl) rfl rfl (by show 2 * 0 + _ ≤ _; exact Nat.le_of_eq rfl) (hb hby d_prog_16_method_3_2) (by decide) (by decide) ?_
  intro T6 h6 v6 L6 X6 q6 K6
  obtain ⟨⟨-, r6, rfl, hr6⟩, -⟩ := q6
  show Goes _ _ _ _ T6 (mkF m 5 #[.val (.ref b), .val (.long q), .second, .unset] [(.int r6)])
  refine Goes.go (fun _ k => XS.istoreN X6.here X6.ex rfl (hb hby d_prog_16_method_3_5) rfl (l' := #[.val (.ref b), .val (.long q), .second, .val (.int r6)]) rfl (XS.iloadN X6.here X6.ex rfl (hb hby d_prog_16_method_3_6) rfl k)) ?_
  show Goes _ _ _ _ T6 (mkF m 7 #[.val (.ref b), .val (.long q), .second, .val (.int r6)] [(.int r6)])
  suffices hJ7 : Goes p.tables e below (EndN Z s (({ frames := 2, cells := 0, slots := 0, locals := 35 } : Room)).cells (({ frames := 2, cells := 0, slots := 0, locals := 35 } : Room)).slots (fun v h' => Keep h0 h' [] ∧ v = some (.int (own_cnt [x] q)))) T6 (mkF m 18 #[.val (.ref b), .val (.long q), .second, .val (.int r6)] [(.int (if r6 < (0 : Int32) then ((-r6) - (1 : Int32)) else r6))]) by
    refine Goes.ifc (pc' := 14) X6.here X6.ex (hb hby d_prog_16_method_3_7) (by decide) (by decide) (fun hr1 => ?_) (fun hr1 => ?_)
    · have hr1 : r6 < (0 : Int32) := hr1
      show Goes _ _ _ _ T6 (mkF m 14 #[.val (.ref b), .val (.long q), .second, .val (.int r6)] [])
      refine Goes.go (fun _ k => XS.iloadN X6.here X6.ex rfl (hb hby d_prog_16_method_3_14) rfl (XS.ineg X6.here X6.ex rfl (hb hby d_prog_16_method_3_15) rfl (XS.iconst X6.here X6.ex rfl (hb hby d_prog_16_method_3_16) (XS.isub X6.here X6.ex rfl (hb hby d_prog_16_method_3_17) rfl k)))) ?_
      show Goes _ _ _ _ T6 (mkF m 18 #[.val (.ref b), .val (.long q), .second, .val (.int r6)] [(.int ((-r6) - (1 : Int32)))])
      (try simp only [if_pos hr1] at hJ7 ⊢)
      exact hJ7
    · have hr1 : ¬ (r6 < (0 : Int32)) := hr1
      show Goes _ _ _ _ T6 (mkF m 10 #[.val (.ref b), .val (.long q), .second, .val (.int r6)] [])
      refine Goes.go (fun _ k => XS.iloadN X6.here X6.ex rfl (hb hby d_prog_16_method_3_10) rfl (XS.goto X6.here X6.ex rfl (pc0 := 11) (pc' := 18) rfl (hb hby d_prog_16_method_3_11) (by decide) (by decide) k)) ?_
      show Goes _ _ _ _ T6 (mkF m 18 #[.val (.ref b), .val (.long q), .second, .val (.int r6)] [(.int r6)])
      (try simp only [if_neg hr1] at hJ7 ⊢)
      exact hJ7
  rw [hr6]
  show Goes _ _ _ _ T6 (mkF m 18 #[.val (.ref b), .val (.long q), .second, .val (.int r6)] [(.int (own_cnt [x] q))])
  refine Goes.outN X6 (fun q => by rw [hret] at q; cases q) hlk (X6.rI hret (hb hby d_prog_16_method_3_18)) ?_ (by decide) (by decide)
  exact ⟨K6, rfl⟩
set_option maxRecDepth 65536 in
set_option maxHeartbeats 40000000 in
theorem own_ip_2 (l : Launch) (Z : State) (a0 : Array Value) (hw : ∀ d ∈ tables_1, d.before a0 Z = true) (h0 : Heap) (hO : Ext Z.heap h0) (b : Addr) (kA : ClassId) (q : Int64) (x : Int64) (y : Int64) (V : Arv Z h0 b kA .long (2 : Int32) [(.long x), (.long y)] (.long (0 : Int64))) (s1 : x < y) :
    CtrN l Z (⟨"com/example/assent/assent/log/CrashSet", "insertionPoint", "([JJ)I"⟩ : MethodName) prog_16_method_3_code 4 (some .int) ({ frames := 2, cells := 0, slots := 0, locals := 35 } : Room) #[(.ref b), (.long q)] h0 (fun v h' => Keep h0 h' [] ∧ v = some (.int (own_cnt [x, y] q))) := by
  refine CtrN.of (plainFor_of_name pn_1) hO ?_
  intro p e s m below meth c T0 X0 hsh hby hml hret hlk hnm
  refine Goes.cast (ef_own_ip_2 m b q) ?_
  show Goes _ _ _ _ T0 (mkF m 0 #[.val (.ref b), .val (.long q), .second, .unset] [])
  refine Goes.go (fun _ k => XS.aloadN X0.here X0.ex rfl (hb hby d_prog_16_method_3_0) rfl rfl (XS.lloadN X0.here X0.ex rfl (hb hby d_prog_16_method_3_1) rfl k)) ?_
  show Goes _ _ _ _ T0 (mkF m 2 #[.val (.ref b), .val (.long q), .second, .unset] [(.long q), (.ref b)])
  refine Wk.static (hm' := fun _ => h0) (y := (⟨"java/util/Arrays", "binarySearch", "([JJ)I"⟩ : MethodName)) (W := 0) (kc := 0) (ks := 0) (argsL := [(.ref b), (.long q)]) (rest := []) (as' := #[(.ref b), (.long q)]) (ws := []) X0 (w_6 hw) (w_7 hw) (w_8 hw) (w_9 hw) (by decide) (CtrN.pays (own_bs_2 l Z a0 hw h0 X0.old b kA q x y V s1) (w_9 hw) (w_8 hw) (by decide) (by decide)) (fun v h' L q => ⟨q.2, q.1.1⟩) all0 (fun _ => Mark.stay all0) rfl (by rw [hml]; rfl) (lenOf pd_1 rfl) rfl rfl (by show 2 * 0 + _ ≤ _; exact Nat.le_of_eq rfl) (hb hby d_prog_16_method_3_2) (by decide) (by decide) ?_
  intro T7 h7 v7 L7 X7 q7 K7
  obtain ⟨⟨-, r7, rfl, hr7⟩, -⟩ := q7
  show Goes _ _ _ _ T7 (mkF m 5 #[.val (.ref b), .val (.long q), .second, .unset] [(.int r7)])
  refine Goes.go (fun _ k => XS.istoreN X7.here X7.ex rfl (hb hby d_prog_16_method_3_5) rfl (l' := #[.val (.ref b), .val (.long q), .second, .val (.int r7)]) rfl (XS.iloadN X7.here X7.ex rfl (hb hby d_prog_16_method_3_6) rfl k)) ?_
  show Goes _ _ _ _ T7 (mkF m 7 #[.val (.ref b), .val (.long q), .second, .val (.int r7)] [(.int r7)])
  suffices hJ7 : Goes p.tables e below (EndN Z s (({ frames := 2, cells := 0, slots := 0, locals := 35 } : Room)).cells (({ frames := 2, cells := 0, slots := 0, locals := 35 } : Room)).slots (fun v h' => Keep h0 h' [] ∧ v = some (.int (own_cnt [x, y] q)))) T7 (mkF m 18 #[.val (.ref b), .val (.long q), .second, .val (.int r7)] [(.int (if r7 < (0 : Int32) then ((-r7) - (1 : Int32)) else r7))]) by
    refine Goes.ifc (pc' := 14) X7.here X7.ex (hb hby d_prog_16_method_3_7) (by decide) (by decide) (fun hr1 => ?_) (fun hr1 => ?_)
    · have hr1 : r7 < (0 : Int32) := hr1
      show Goes _ _ _ _ T7 (mkF m 14 #[.val (.ref b), .val (.long q), .second, .val (.int r7)] [])
      refine Goes.go (fun _ k => XS.iloadN X7.here X7.ex rfl (hb hby d_prog_16_method_3_14) rfl (XS.ineg X7.here X7.ex rfl (hb hby d_prog_16_method_3_15) rfl (XS.iconst X7.here X7.ex rfl (hb hby d_prog_16_method_3_16) (XS.isub X7.here X7.ex rfl (hb hby d_prog_16_method_3_17) rfl k)))) ?_
      show Goes _ _ _ _ T7 (mkF m 18 #[.val (.ref b), .val (.long q), .second, .val (.int r7)] [(.int ((-r7) - (1 : Int32)))])
      (try simp only [if_pos hr1] at hJ7 ⊢)
      exact hJ7
    · have hr1 : ¬ (r7 < (0 : Int32)) := hr1
      show Goes _ _ _ _ T7 (mkF m 10 #[.val (.ref b), .val (.long q), .second, .val (.int r7)] [])
      refine Goes.go (fun _ k => XS.iloadN X7.here X7.ex rfl (hb hby d_prog_16_method_3_10) rfl (XS.goto X7.here X7.ex rfl (pc0 := 11) (pc' := 18) rfl (hb hby d_prog_16_method_3_11) (by decide) (by decide) k)) ?_
      show Goes _ _ _ _ T7 (mkF m 18 #[.val (.ref b), .val (.long q), .second, .val (.int r7)] [(.int r7)])
      (try simp only [if_neg hr1] at hJ7 ⊢)
      exact hJ7
  rw [hr7]
  show Goes _ _ _ _ T7 (mkF m 18 #[.val (.ref b), .val (.long q), .second, .val (.int r7)] [(.int (own_cnt [x, y] q))])
  refine Goes.outN X7 (fun q => by rw [hret] at q; cases q) hlk (X7.rI hret (hb hby d_prog_16_method_3_18)) ?_ (by decide) (by decide)
  exact ⟨K7, rfl⟩
set_option maxRecDepth 65536 in
set_option maxHeartbeats 40000000 in
theorem own_ip_3 (l : Launch) (Z : State) (a0 : Array Value) (hw : ∀ d ∈ tables_1, d.before a0 Z = true) (h0 : Heap) (hO : Ext Z.heap h0) (b : Addr) (kA : ClassId) (q : Int64) (x : Int64) (y : Int64) (z : Int64) (V : Arv Z h0 b kA .long (3 : Int32) [(.long x), (.long y), (.long z)] (.long (0 : Int64))) (s1 : x < y) (s2 : y < z) :
    CtrN l Z (⟨"com/example/assent/assent/log/CrashSet", "insertionPoint", "([JJ)I"⟩ : MethodName) prog_16_method_3_code 4 (some .int) ({ frames := 2, cells := 0, slots := 0, locals := 35 } : Room) #[(.ref b), (.long q)] h0 (fun v h' => Keep h0 h' [] ∧ v = some (.int (own_cnt [x, y, z] q))) := by
  refine CtrN.of (plainFor_of_name pn_1) hO ?_
  intro p e s m below meth c T0 X0 hsh hby hml hret hlk hnm
  refine Goes.cast (ef_own_ip_3 m b q) ?_
  show Goes _ _ _ _ T0 (mkF m 0 #[.val (.ref b), .val (.long q), .second, .unset] [])
  refine Goes.go (fun _ k => XS.aloadN X0.here X0.ex rfl (hb hby d_prog_16_method_3_0) rfl rfl (XS.lloadN X0.here X0.ex rfl (hb hby d_prog_16_method_3_1) rfl k)) ?_
  show Goes _ _ _ _ T0 (mkF m 2 #[.val (.ref b), .val (.long q), .second, .unset] [(.long q), (.ref b)])
  refine Wk.static (hm' := fun _ => h0) (y := (⟨"java/util/Arrays", "binarySearch", "([JJ)I"⟩ : MethodName)) (W := 0) (kc := 0) (ks := 0) (argsL := [(.ref b), (.long q)]) (rest := []) (as' := #[(.ref b), (.long q)]) (ws := []) X0 (w_6 hw) (w_7 hw) (w_8 hw) (w_9 hw) (by decide) (CtrN.pays (own_bs_3 l Z a0 hw h0 X0.old b kA q x y z V s1 s2) (w_9 hw) (w_8 hw) (by decide) (by decide)) (fun v h' L q => ⟨q.2, q.1.1⟩) all0 (fun _ => Mark.stay all0) rfl (by rw [hml]; rfl) (lenOf pd_1 rfl) rfl rfl (by show 2 * 0 + _ ≤ _; exact Nat.le_of_eq rfl) (hb hby d_prog_16_method_3_2) (by decide) (by decide) ?_
  intro T8 h8 v8 L8 X8 q8 K8
  obtain ⟨⟨-, r8, rfl, hr8⟩, -⟩ := q8
  show Goes _ _ _ _ T8 (mkF m 5 #[.val (.ref b), .val (.long q), .second, .unset] [(.int r8)])
  refine Goes.go (fun _ k => XS.istoreN X8.here X8.ex rfl (hb hby d_prog_16_method_3_5) rfl (l' := #[.val (.ref b), .val (.long q), .second, .val (.int r8)]) rfl (XS.iloadN X8.here X8.ex rfl (hb hby d_prog_16_method_3_6) rfl k)) ?_
  show Goes _ _ _ _ T8 (mkF m 7 #[.val (.ref b), .val (.long q), .second, .val (.int r8)] [(.int r8)])
  suffices hJ7 : Goes p.tables e below (EndN Z s (({ frames := 2, cells := 0, slots := 0, locals := 35 } : Room)).cells (({ frames := 2, cells := 0, slots := 0, locals := 35 } : Room)).slots (fun v h' => Keep h0 h' [] ∧ v = some (.int (own_cnt [x, y, z] q)))) T8 (mkF m 18 #[.val (.ref b), .val (.long q), .second, .val (.int r8)] [(.int (if r8 < (0 : Int32) then ((-r8) - (1 : Int32)) else r8))]) by
    refine Goes.ifc (pc' := 14) X8.here X8.ex (hb hby d_prog_16_method_3_7) (by decide) (by decide) (fun hr1 => ?_) (fun hr1 => ?_)
    · have hr1 : r8 < (0 : Int32) := hr1
      show Goes _ _ _ _ T8 (mkF m 14 #[.val (.ref b), .val (.long q), .second, .val (.int r8)] [])
      refine Goes.go (fun _ k => XS.iloadN X8.here X8.ex rfl (hb hby d_prog_16_method_3_14) rfl (XS.ineg X8.here X8.ex rfl (hb hby d_prog_16_method_3_15) rfl (XS.iconst X8.here X8.ex rfl (hb hby d_prog_16_method_3_16) (XS.isub X8.here X8.ex rfl (hb hby d_prog_16_method_3_17) rfl k)))) ?_
      show Goes _ _ _ _ T8 (mkF m 18 #[.val (.ref b), .val (.long q), .second, .val (.int r8)] [(.int ((-r8) - (1 : Int32)))])
      (try simp only [if_pos hr1] at hJ7 ⊢)
      exact hJ7
    · have hr1 : ¬ (r8 < (0 : Int32)) := hr1
      show Goes _ _ _ _ T8 (mkF m 10 #[.val (.ref b), .val (.long q), .second, .val (.int r8)] [])
      refine Goes.go (fun _ k => XS.iloadN X8.here X8.ex rfl (hb hby d_prog_16_method_3_10) rfl (XS.goto X8.here X8.ex rfl (pc0 := 11) (pc' := 18) rfl (hb hby d_prog_16_method_3_11) (by decide) (by decide) k)) ?_
      show Goes _ _ _ _ T8 (mkF m 18 #[.val (.ref b), .val (.long q), .second, .val (.int r8)] [(.int r8)])
      (try simp only [if_neg hr1] at hJ7 ⊢)
      exact hJ7
  rw [hr8]
  show Goes _ _ _ _ T8 (mkF m 18 #[.val (.ref b), .val (.long q), .second, .val (.int r8)] [(.int (own_cnt [x, y, z] q))])
  refine Goes.outN X8 (fun q => by rw [hret] at q; cases q) hlk (X8.rI hret (hb hby d_prog_16_method_3_18)) ?_ (by decide) (by decide)
  exact ⟨K8, rfl⟩
set_option maxRecDepth 65536 in
set_option maxHeartbeats 40000000 in
theorem own_law (l : Launch) (Z : State) (a0 : Array Value) (hw : ∀ d ∈ tables_1, d.before a0 Z = true) (h0 : Heap) (hO : Ext Z.heap h0) (i0 : Int64) (i1 : Int64) (i2 : Int64) (i3 : Int64) (i4 : Int32)  :
    CtrN l Z x code maxLocals ret room_1 #[(.long i0), (.long i1), (.long i2), (.long i3), (.int i4)] h0 (fun v h' => v = some (.int (1 : Int32))) := by
  refine CtrN.of (plainFor_of_name pn_2) hO ?_
  intro p e s m below meth c T0 X0 hsh hby hml hret hlk hnm
  refine Goes.cast (ef_own_law m i0 i1 i2 i3 i4) ?_
  show Goes _ _ _ _ T0 (mkF m 0 #[.val (.long i0), .second, .val (.long i1), .second, .val (.long i2), .second, .val (.long i3), .second, .val (.int i4), .unset, .unset, .unset, .unset, .unset, .unset, .unset, .unset, .unset, .unset, .unset, .unset, .unset, .unset, .unset, .unset] [])
  refine Goes.go (fun _ k => XS.lloadN X0.here X0.ex rfl (hb hby at_0) rfl (XS.lstore X0.here X0.ex rfl (hb hby at_1) rfl (l' := #[.val (.long i0), .second, .val (.long i1), .second, .val (.long i2), .second, .val (.long i3), .second, .val (.int i4), .val (.long i0), .second, .unset, .unset, .unset, .unset, .unset, .unset, .unset, .unset, .unset, .unset, .unset, .unset, .unset, .unset]) rfl (XS.lloadN X0.here X0.ex rfl (hb hby at_3) rfl (XS.lstore X0.here X0.ex rfl (hb hby at_4) rfl (l' := #[.val (.long i0), .second, .val (.long i1), .second, .val (.long i2), .second, .val (.long i3), .second, .val (.int i4), .val (.long i0), .second, .val (.long i1), .second, .unset, .unset, .unset, .unset, .unset, .unset, .unset, .unset, .unset, .unset, .unset, .unset]) rfl (XS.lload X0.here X0.ex rfl (hb hby at_6) rfl (XS.lstore X0.here X0.ex rfl (hb hby at_8) rfl (l' := #[.val (.long i0), .second, .val (.long i1), .second, .val (.long i2), .second, .val (.long i3), .second, .val (.int i4), .val (.long i0), .second, .val (.long i1), .second, .val (.long i2), .second, .unset, .unset, .unset, .unset, .unset, .unset, .unset, .unset, .unset, .unset]) rfl k)))))) ?_
  show Goes _ _ _ _ T0 (mkF m 10 #[.val (.long i0), .second, .val (.long i1), .second, .val (.long i2), .second, .val (.long i3), .second, .val (.int i4), .val (.long i0), .second, .val (.long i1), .second, .val (.long i2), .second, .unset, .unset, .unset, .unset, .unset, .unset, .unset, .unset, .unset, .unset] [])
  have J70 : ∀ (Tj9 : State) (hj9 : Heap) (x : Int64) (y : Int64) (z : Int64) (s15 : Slot) (s16 : Slot), Wk True p l e room_1 s m #[(.long i0), (.long i1), (.long i2), (.long i3), (.int i4)] below meth c Z "com/example/assent/assent/log/CrashSetInsertionPointPinLaw" [] hj9 Tj9 hj9 0 0 → (¬ y < x) → (¬ z < y) → Goes p.tables e below (EndN Z s room_1.cells room_1.slots (fun v h' => v = some (.int (1 : Int32)))) Tj9 (mkF m 70 #[.val (.long i0), .second, .val (.long i1), .second, .val (.long i2), .second, .val (.long i3), .second, .val (.int i4), .val (.long x), .second, .val (.long y), .second, .val (.long z), .second, s15, s16, .unset, .unset, .unset, .unset, .unset, .unset, .unset, .unset] []) := by
    intro Tj9 hj9 x y z s15 s16 Xj9 hxy hyz
    refine Goes.go (fun _ k => XS.iload Xj9.here Xj9.ex rfl (hb hby at_70) rfl (XS.iconst Xj9.here Xj9.ex rfl (hb hby at_72) (XS.iand Xj9.here Xj9.ex rfl (hb hby at_73) rfl (XS.istore Xj9.here Xj9.ex rfl (hb hby at_74) rfl (l' := #[.val (.long i0), .second, .val (.long i1), .second, .val (.long i2), .second, .val (.long i3), .second, .val (.int i4), .val (.long x), .second, .val (.long y), .second, .val (.long z), .second, s15, s16, .val (.int (i4 &&& (3 : Int32))), .unset, .unset, .unset, .unset, .unset, .unset, .unset]) rfl k)))) ?_
    show Goes _ _ _ _ Tj9 (mkF m 76 #[.val (.long i0), .second, .val (.long i1), .second, .val (.long i2), .second, .val (.long i3), .second, .val (.int i4), .val (.long x), .second, .val (.long y), .second, .val (.long z), .second, s15, s16, .val (.int (i4 &&& (3 : Int32))), .unset, .unset, .unset, .unset, .unset, .unset, .unset] [])
    obtain ⟨len, hlen⟩ : ∃ z : Int32, z = (i4 &&& (3 : Int32)) := ⟨_, rfl⟩
    refine Goes.cast (show (mkF m 76 #[.val (.long i0), .second, .val (.long i1), .second, .val (.long i2), .second, .val (.long i3), .second, .val (.int i4), .val (.long x), .second, .val (.long y), .second, .val (.long z), .second, s15, s16, .val (.int (i4 &&& (3 : Int32))), .unset, .unset, .unset, .unset, .unset, .unset, .unset] []) = (mkF m 76 #[.val (.long i0), .second, .val (.long i1), .second, .val (.long i2), .second, .val (.long i3), .second, .val (.int i4), .val (.long x), .second, .val (.long y), .second, .val (.long z), .second, s15, s16, .val (.int len), .unset, .unset, .unset, .unset, .unset, .unset, .unset] []) from by rw [hlen]) ?_
    show Goes _ _ _ _ Tj9 (mkF m 76 #[.val (.long i0), .second, .val (.long i1), .second, .val (.long i2), .second, .val (.long i3), .second, .val (.int i4), .val (.long x), .second, .val (.long y), .second, .val (.long z), .second, s15, s16, .val (.int len), .unset, .unset, .unset, .unset, .unset, .unset, .unset] [])
    have r_len := own_and3 i4
    rw [← hlen] at r_len
    clear hlen
    rcases r_len with rfl | rfl | rfl | rfl
    · show Goes _ _ _ _ Tj9 (mkF m 76 #[.val (.long i0), .second, .val (.long i1), .second, .val (.long i2), .second, .val (.long i3), .second, .val (.int i4), .val (.long x), .second, .val (.long y), .second, .val (.long z), .second, s15, s16, .val (.int (0 : Int32)), .unset, .unset, .unset, .unset, .unset, .unset, .unset] [])
      refine Goes.go (fun _ k => XS.iload Xj9.here Xj9.ex rfl (hb hby at_76) rfl (XS.iconst Xj9.here Xj9.ex rfl (hb hby at_78) (XS.icmpYes Xj9.here Xj9.ex rfl (pc0 := 79) (pc' := 92) rfl (hb hby at_79) rfl (cd_t (cd := .lt) (x := (0 : Int32)) (y := (2 : Int32)) (by decide)) (by decide) (by decide) (XS.iload Xj9.here Xj9.ex rfl (hb hby at_92) rfl (XS.iconst Xj9.here Xj9.ex rfl (hb hby at_94) (XS.icmpYes Xj9.here Xj9.ex rfl (pc0 := 95) (pc' := 108) rfl (hb hby at_95) rfl (cd_t (cd := .lt) (x := (0 : Int32)) (y := (3 : Int32)) (by decide)) (by decide) (by decide) k)))))) ?_
      show Goes _ _ _ _ Tj9 (mkF m 108 #[.val (.long i0), .second, .val (.long i1), .second, .val (.long i2), .second, .val (.long i3), .second, .val (.int i4), .val (.long x), .second, .val (.long y), .second, .val (.long z), .second, s15, s16, .val (.int (0 : Int32)), .unset, .unset, .unset, .unset, .unset, .unset, .unset] [])
      refine Goes.go (fun _ k => XS.iload Xj9.here Xj9.ex rfl (hb hby at_108) rfl k) ?_
      show Goes _ _ _ _ Tj9 (mkF m 110 #[.val (.long i0), .second, .val (.long i1), .second, .val (.long i2), .second, .val (.long i3), .second, .val (.int i4), .val (.long x), .second, .val (.long y), .second, .val (.long z), .second, s15, s16, .val (.int (0 : Int32)), .unset, .unset, .unset, .unset, .unset, .unset, .unset] [(.int (0 : Int32))])
      refine Wk.newA (aty := .long) Xj9 (w_0 hw) rfl (hb hby at_110) rfl (by decide) (cap := 0) (by decide) (by decide) (by decide) (by decide) ?_
      intro T10 h10 b10 k10 g10 X10 E10 A10 B_b10
      have V_b10 : Arv Z h10 b10 k10 .long (0 : Int32) [] (.long (0 : Int64)) := A10.pad (pad_rep [] (.long (0 : Int64)) 0)
      have gz_b10 : Z.heap.size ≤ b10 := g10 ▸ Xj9.old.1
      have gm_b10 : hj9.size ≤ b10 := g10 ▸ Xj9.ext.1
      show Goes _ _ _ _ T10 (mkF m 112 #[.val (.long i0), .second, .val (.long i1), .second, .val (.long i2), .second, .val (.long i3), .second, .val (.int i4), .val (.long x), .second, .val (.long y), .second, .val (.long z), .second, s15, s16, .val (.int (0 : Int32)), .unset, .unset, .unset, .unset, .unset, .unset, .unset] [(.ref b10)])
      refine Goes.go (fun _ k => XS.astore X10.here X10.ex rfl (hb hby at_112) rfl rfl (l' := #[.val (.long i0), .second, .val (.long i1), .second, .val (.long i2), .second, .val (.long i3), .second, .val (.int i4), .val (.long x), .second, .val (.long y), .second, .val (.long z), .second, s15, s16, .val (.int (0 : Int32)), .val (.ref b10), .unset, .unset, .unset, .unset, .unset, .unset]) rfl (XS.iload X10.here X10.ex rfl (hb hby at_114) rfl (XS.ifYes X10.here X10.ex rfl (pc0 := 116) (pc' := 125) rfl (hb hby at_116) rfl ((if0 _ _).trans (cd_t (cd := .le) (x := (0 : Int32)) (y := (0 : Int32)) (by decide))) (by decide) (by decide) (XS.iload X10.here X10.ex rfl (hb hby at_125) rfl (XS.iconst X10.here X10.ex rfl (hb hby at_127) (XS.icmpYes X10.here X10.ex rfl (pc0 := 128) (pc' := 137) rfl (hb hby at_128) rfl (cd_t (cd := .le) (x := (0 : Int32)) (y := (1 : Int32)) (by decide)) (by decide) (by decide) k)))))) ?_
      show Goes _ _ _ _ T10 (mkF m 137 #[.val (.long i0), .second, .val (.long i1), .second, .val (.long i2), .second, .val (.long i3), .second, .val (.int i4), .val (.long x), .second, .val (.long y), .second, .val (.long z), .second, s15, s16, .val (.int (0 : Int32)), .val (.ref b10), .unset, .unset, .unset, .unset, .unset, .unset] [])
      refine Goes.go (fun _ k => XS.iload X10.here X10.ex rfl (hb hby at_137) rfl (XS.iconst X10.here X10.ex rfl (hb hby at_139) (XS.icmpYes X10.here X10.ex rfl (pc0 := 140) (pc' := 149) rfl (hb hby at_140) rfl (cd_t (cd := .le) (x := (0 : Int32)) (y := (2 : Int32)) (by decide)) (by decide) (by decide) (XS.iload X10.here X10.ex rfl (hb hby at_149) rfl (XS.iconst X10.here X10.ex rfl (hb hby at_151) (XS.iushr X10.here X10.ex rfl (hb hby at_152) rfl k)))))) ?_
      show Goes _ _ _ _ T10 (mkF m 153 #[.val (.long i0), .second, .val (.long i1), .second, .val (.long i2), .second, .val (.long i3), .second, .val (.int i4), .val (.long x), .second, .val (.long y), .second, .val (.long z), .second, s15, s16, .val (.int (0 : Int32)), .val (.ref b10), .unset, .unset, .unset, .unset, .unset, .unset] [(.int ((i4.toUInt32 >>> ((2 : Int32) &&& 31).toUInt32).toInt32))])
      refine Goes.go (X10.ldcI (w_1 hw) rfl (hb hby at_153)) ?_
      show Goes _ _ _ _ T10 (mkF m 155 #[.val (.long i0), .second, .val (.long i1), .second, .val (.long i2), .second, .val (.long i3), .second, .val (.int i4), .val (.long x), .second, .val (.long y), .second, .val (.long z), .second, s15, s16, .val (.int (0 : Int32)), .val (.ref b10), .unset, .unset, .unset, .unset, .unset, .unset] [(.int (65535 : Int32)), (.int ((i4.toUInt32 >>> ((2 : Int32) &&& 31).toUInt32).toInt32))])
      refine Goes.go (fun _ k => XS.iand X10.here X10.ex rfl (hb hby at_155) rfl (XS.bipush X10.here X10.ex rfl (hb hby at_156) (XS.irem X10.here X10.ex rfl (hb hby at_158) rfl (by decide) (XS.istore X10.here X10.ex rfl (hb hby at_159) rfl (l' := #[.val (.long i0), .second, .val (.long i1), .second, .val (.long i2), .second, .val (.long i3), .second, .val (.int i4), .val (.long x), .second, .val (.long y), .second, .val (.long z), .second, s15, s16, .val (.int (0 : Int32)), .val (.ref b10), .val (.int ((((i4.toUInt32 >>> ((2 : Int32) &&& 31).toUInt32).toInt32) &&& (65535 : Int32)) - ((((i4.toUInt32 >>> ((2 : Int32) &&& 31).toUInt32).toInt32) &&& (65535 : Int32)) / (10 : Int32)) * (10 : Int32))), .unset, .unset, .unset, .unset, .unset]) rfl k)))) ?_
      show Goes _ _ _ _ T10 (mkF m 161 #[.val (.long i0), .second, .val (.long i1), .second, .val (.long i2), .second, .val (.long i3), .second, .val (.int i4), .val (.long x), .second, .val (.long y), .second, .val (.long z), .second, s15, s16, .val (.int (0 : Int32)), .val (.ref b10), .val (.int ((((i4.toUInt32 >>> ((2 : Int32) &&& 31).toUInt32).toInt32) &&& (65535 : Int32)) - ((((i4.toUInt32 >>> ((2 : Int32) &&& 31).toUInt32).toInt32) &&& (65535 : Int32)) / (10 : Int32)) * (10 : Int32))), .unset, .unset, .unset, .unset, .unset] [])
      obtain ⟨sel, hsel⟩ : ∃ z : Int32, z = ((((i4.toUInt32 >>> ((2 : Int32) &&& 31).toUInt32).toInt32) &&& (65535 : Int32)) - ((((i4.toUInt32 >>> ((2 : Int32) &&& 31).toUInt32).toInt32) &&& (65535 : Int32)) / (10 : Int32)) * (10 : Int32)) := ⟨_, rfl⟩
      refine Goes.cast (show (mkF m 161 #[.val (.long i0), .second, .val (.long i1), .second, .val (.long i2), .second, .val (.long i3), .second, .val (.int i4), .val (.long x), .second, .val (.long y), .second, .val (.long z), .second, s15, s16, .val (.int (0 : Int32)), .val (.ref b10), .val (.int ((((i4.toUInt32 >>> ((2 : Int32) &&& 31).toUInt32).toInt32) &&& (65535 : Int32)) - ((((i4.toUInt32 >>> ((2 : Int32) &&& 31).toUInt32).toInt32) &&& (65535 : Int32)) / (10 : Int32)) * (10 : Int32))), .unset, .unset, .unset, .unset, .unset] []) = (mkF m 161 #[.val (.long i0), .second, .val (.long i1), .second, .val (.long i2), .second, .val (.long i3), .second, .val (.int i4), .val (.long x), .second, .val (.long y), .second, .val (.long z), .second, s15, s16, .val (.int (0 : Int32)), .val (.ref b10), .val (.int sel), .unset, .unset, .unset, .unset, .unset] []) from by rw [hsel]) ?_
      show Goes _ _ _ _ T10 (mkF m 161 #[.val (.long i0), .second, .val (.long i1), .second, .val (.long i2), .second, .val (.long i3), .second, .val (.int i4), .val (.long x), .second, .val (.long y), .second, .val (.long z), .second, s15, s16, .val (.int (0 : Int32)), .val (.ref b10), .val (.int sel), .unset, .unset, .unset, .unset, .unset] [])
      have J221 : ∀ (Tj11 : State) (hj11 : Heap) (nb : Int64) (s23 : Slot) (s24 : Slot), Wk True p l e room_1 s m #[(.long i0), (.long i1), (.long i2), (.long i3), (.int i4)] below meth c Z "com/example/assent/assent/log/CrashSetInsertionPointPinLaw" [] hj11 Tj11 hj11 1 0 → ((s23 = .unset ∧ s24 = .unset) ∨ ∃ bb : Int64, s23 = .val (.long bb) ∧ s24 = .second) → (Arv Z hj11 b10 k10 .long (0 : Int32) [] (.long (0 : Int64))) → Goes p.tables e below (EndN Z s room_1.cells room_1.slots (fun v h' => v = some (.int (1 : Int32)))) Tj11 (mkF m 221 #[.val (.long i0), .second, .val (.long i1), .second, .val (.long i2), .second, .val (.long i3), .second, .val (.int i4), .val (.long x), .second, .val (.long y), .second, .val (.long z), .second, s15, s16, .val (.int (0 : Int32)), .val (.ref b10), .val (.int sel), .val (.long nb), .second, .val (.int (0 : Int32)), s23, s24] []) := by
        intro Tj11 hj11 nb s23 s24 Xj11 hs V
        refine Goes.go (fun _ k => XS.iload Xj11.here Xj11.ex rfl (hb hby at_221) rfl (XS.ifYes Xj11.here Xj11.ex rfl (pc0 := 223) (pc' := 237) rfl (hb hby at_223) rfl ((if0 _ _).trans (cd_t (cd := .le) (x := (0 : Int32)) (y := (0 : Int32)) (by decide))) (by decide) (by decide) (XS.iload Xj11.here Xj11.ex rfl (hb hby at_237) rfl (XS.iconst Xj11.here Xj11.ex rfl (hb hby at_239) (XS.icmpYes Xj11.here Xj11.ex rfl (pc0 := 240) (pc' := 254) rfl (hb hby at_240) rfl (cd_t (cd := .le) (x := (0 : Int32)) (y := (1 : Int32)) (by decide)) (by decide) (by decide) (XS.iload Xj11.here Xj11.ex rfl (hb hby at_254) rfl k)))))) ?_
        show Goes _ _ _ _ Tj11 (mkF m 256 #[.val (.long i0), .second, .val (.long i1), .second, .val (.long i2), .second, .val (.long i3), .second, .val (.int i4), .val (.long x), .second, .val (.long y), .second, .val (.long z), .second, s15, s16, .val (.int (0 : Int32)), .val (.ref b10), .val (.int sel), .val (.long nb), .second, .val (.int (0 : Int32)), s23, s24] [(.int (0 : Int32))])
        refine Goes.go (fun _ k => XS.iconst Xj11.here Xj11.ex rfl (hb hby at_256) (XS.icmpYes Xj11.here Xj11.ex rfl (pc0 := 257) (pc' := 271) rfl (hb hby at_257) rfl (cd_t (cd := .le) (x := (0 : Int32)) (y := (2 : Int32)) (by decide)) (by decide) (by decide) k)) ?_
        show Goes _ _ _ _ Tj11 (mkF m 271 #[.val (.long i0), .second, .val (.long i1), .second, .val (.long i2), .second, .val (.long i3), .second, .val (.int i4), .val (.long x), .second, .val (.long y), .second, .val (.long z), .second, s15, s16, .val (.int (0 : Int32)), .val (.ref b10), .val (.int sel), .val (.long nb), .second, .val (.int (0 : Int32)), s23, s24] [])
        refine Goes.go (fun _ k => XS.aload Xj11.here Xj11.ex rfl (hb hby at_271) rfl rfl (XS.lload Xj11.here Xj11.ex rfl (hb hby at_273) rfl k)) ?_
        show Goes _ _ _ _ Tj11 (mkF m 275 #[.val (.long i0), .second, .val (.long i1), .second, .val (.long i2), .second, .val (.long i3), .second, .val (.int i4), .val (.long x), .second, .val (.long y), .second, .val (.long z), .second, s15, s16, .val (.int (0 : Int32)), .val (.ref b10), .val (.int sel), .val (.long nb), .second, .val (.int (0 : Int32)), s23, s24] [(.long nb), (.ref b10)])
        refine Wk.static (hm' := fun _ => hj11) (y := (⟨"com/example/assent/assent/log/CrashSet", "insertionPoint", "([JJ)I"⟩ : MethodName)) (W := 0) (kc := 0) (ks := 0) (argsL := [(.ref b10), (.long nb)]) (rest := []) (as' := #[(.ref b10), (.long nb)]) (ws := []) Xj11 (w_2 hw) (w_3 hw) (w_4 hw) (w_5 hw) (by decide) (CtrN.pays (own_ip_0 l Z a0 hw hj11 Xj11.old b10 k10 nb  V ) (w_5 hw) (w_4 hw) (by decide) (by decide)) (fun v h' L q => ⟨q.2, q.1.1⟩) all0 (fun _ => Mark.stay all0) rfl (by rw [hml]; rfl) (lenOf pd_1 rfl) rfl rfl (by show 2 * 0 + _ ≤ _; exact Nat.le_of_eq rfl) (hb hby at_275) (by decide) (by decide) ?_
        intro T12 h12 v12 L12 X12 q12 K12
        obtain ⟨⟨-, rfl⟩, -⟩ := q12
        show Goes _ _ _ _ T12 (mkF m 278 #[.val (.long i0), .second, .val (.long i1), .second, .val (.long i2), .second, .val (.long i3), .second, .val (.int i4), .val (.long x), .second, .val (.long y), .second, .val (.long z), .second, s15, s16, .val (.int (0 : Int32)), .val (.ref b10), .val (.int sel), .val (.long nb), .second, .val (.int (0 : Int32)), s23, s24] [(.int (own_cnt [] nb))])
        rcases hs with ⟨rfl, rfl⟩ | ⟨bb, rfl, rfl⟩
        · show Goes _ _ _ _ T12 (mkF m 278 #[.val (.long i0), .second, .val (.long i1), .second, .val (.long i2), .second, .val (.long i3), .second, .val (.int i4), .val (.long x), .second, .val (.long y), .second, .val (.long z), .second, s15, s16, .val (.int (0 : Int32)), .val (.ref b10), .val (.int sel), .val (.long nb), .second, .val (.int (0 : Int32)), .unset, .unset] [(.int (own_cnt [] nb))])
          refine Goes.go (fun _ k => XS.istore X12.here X12.ex rfl (hb hby at_278) rfl (l' := #[.val (.long i0), .second, .val (.long i1), .second, .val (.long i2), .second, .val (.long i3), .second, .val (.int i4), .val (.long x), .second, .val (.long y), .second, .val (.long z), .second, s15, s16, .val (.int (0 : Int32)), .val (.ref b10), .val (.int sel), .val (.long nb), .second, .val (.int (0 : Int32)), .val (.int (own_cnt [] nb)), .unset]) rfl (XS.iload X12.here X12.ex rfl (hb hby at_280) rfl (XS.iload X12.here X12.ex rfl (hb hby at_282) rfl k))) ?_
          show Goes _ _ _ _ T12 (mkF m 284 #[.val (.long i0), .second, .val (.long i1), .second, .val (.long i2), .second, .val (.long i3), .second, .val (.int i4), .val (.long x), .second, .val (.long y), .second, .val (.long z), .second, s15, s16, .val (.int (0 : Int32)), .val (.ref b10), .val (.int sel), .val (.long nb), .second, .val (.int (0 : Int32)), .val (.int (own_cnt [] nb)), .unset] [(.int (0 : Int32)), (.int (own_cnt [] nb))])
          refine Goes.go (fun _ k => XS.icmpNo X12.here X12.ex rfl (hb hby at_284) rfl (cd_f (cd := .ne) (x := (own_cnt [] nb)) (y := (0 : Int32)) ((fun q => absurd (own_plain0 nb ) q))) k) ?_
          show Goes _ _ _ _ T12 (mkF m 287 #[.val (.long i0), .second, .val (.long i1), .second, .val (.long i2), .second, .val (.long i3), .second, .val (.int i4), .val (.long x), .second, .val (.long y), .second, .val (.long z), .second, s15, s16, .val (.int (0 : Int32)), .val (.ref b10), .val (.int sel), .val (.long nb), .second, .val (.int (0 : Int32)), .val (.int (own_cnt [] nb)), .unset] [])
          refine Goes.go (fun _ k => XS.iconst X12.here X12.ex rfl (hb hby at_287) (XS.goto X12.here X12.ex rfl (pc0 := 288) (pc' := 292) rfl (hb hby at_288) (by decide) (by decide) k)) ?_
          show Goes _ _ _ _ T12 (mkF m 292 #[.val (.long i0), .second, .val (.long i1), .second, .val (.long i2), .second, .val (.long i3), .second, .val (.int i4), .val (.long x), .second, .val (.long y), .second, .val (.long z), .second, s15, s16, .val (.int (0 : Int32)), .val (.ref b10), .val (.int sel), .val (.long nb), .second, .val (.int (0 : Int32)), .val (.int (own_cnt [] nb)), .unset] [(.int (1 : Int32))])
          refine Goes.outN X12 (fun q => by rw [hret] at q; cases q) hlk (X12.rB hret (by simp) (hb hby at_292)) ?_ (by decide) (by decide)
          exact rfl
        · show Goes _ _ _ _ T12 (mkF m 278 #[.val (.long i0), .second, .val (.long i1), .second, .val (.long i2), .second, .val (.long i3), .second, .val (.int i4), .val (.long x), .second, .val (.long y), .second, .val (.long z), .second, s15, s16, .val (.int (0 : Int32)), .val (.ref b10), .val (.int sel), .val (.long nb), .second, .val (.int (0 : Int32)), .val (.long bb), .second] [(.int (own_cnt [] nb))])
          refine Goes.go (fun _ k => XS.istore X12.here X12.ex rfl (hb hby at_278) rfl (l' := #[.val (.long i0), .second, .val (.long i1), .second, .val (.long i2), .second, .val (.long i3), .second, .val (.int i4), .val (.long x), .second, .val (.long y), .second, .val (.long z), .second, s15, s16, .val (.int (0 : Int32)), .val (.ref b10), .val (.int sel), .val (.long nb), .second, .val (.int (0 : Int32)), .val (.int (own_cnt [] nb)), .unset]) rfl (XS.iload X12.here X12.ex rfl (hb hby at_280) rfl (XS.iload X12.here X12.ex rfl (hb hby at_282) rfl k))) ?_
          show Goes _ _ _ _ T12 (mkF m 284 #[.val (.long i0), .second, .val (.long i1), .second, .val (.long i2), .second, .val (.long i3), .second, .val (.int i4), .val (.long x), .second, .val (.long y), .second, .val (.long z), .second, s15, s16, .val (.int (0 : Int32)), .val (.ref b10), .val (.int sel), .val (.long nb), .second, .val (.int (0 : Int32)), .val (.int (own_cnt [] nb)), .unset] [(.int (0 : Int32)), (.int (own_cnt [] nb))])
          refine Goes.go (fun _ k => XS.icmpNo X12.here X12.ex rfl (hb hby at_284) rfl (cd_f (cd := .ne) (x := (own_cnt [] nb)) (y := (0 : Int32)) ((fun q => absurd (own_plain0 nb ) q))) k) ?_
          show Goes _ _ _ _ T12 (mkF m 287 #[.val (.long i0), .second, .val (.long i1), .second, .val (.long i2), .second, .val (.long i3), .second, .val (.int i4), .val (.long x), .second, .val (.long y), .second, .val (.long z), .second, s15, s16, .val (.int (0 : Int32)), .val (.ref b10), .val (.int sel), .val (.long nb), .second, .val (.int (0 : Int32)), .val (.int (own_cnt [] nb)), .unset] [])
          refine Goes.go (fun _ k => XS.iconst X12.here X12.ex rfl (hb hby at_287) (XS.goto X12.here X12.ex rfl (pc0 := 288) (pc' := 292) rfl (hb hby at_288) (by decide) (by decide) k)) ?_
          show Goes _ _ _ _ T12 (mkF m 292 #[.val (.long i0), .second, .val (.long i1), .second, .val (.long i2), .second, .val (.long i3), .second, .val (.int i4), .val (.long x), .second, .val (.long y), .second, .val (.long z), .second, s15, s16, .val (.int (0 : Int32)), .val (.ref b10), .val (.int sel), .val (.long nb), .second, .val (.int (0 : Int32)), .val (.int (own_cnt [] nb)), .unset] [(.int (1 : Int32))])
          refine Goes.outN X12 (fun q => by rw [hret] at q; cases q) hlk (X12.rB hret (by simp) (hb hby at_292)) ?_ (by decide) (by decide)
          exact rfl
      refine Goes.go (fun _ k => XS.iload X10.here X10.ex rfl (hb hby at_161) rfl (XS.bipush X10.here X10.ex rfl (hb hby at_163) k)) ?_
      show Goes _ _ _ _ T10 (mkF m 165 #[.val (.long i0), .second, .val (.long i1), .second, .val (.long i2), .second, .val (.long i3), .second, .val (.int i4), .val (.long x), .second, .val (.long y), .second, .val (.long z), .second, s15, s16, .val (.int (0 : Int32)), .val (.ref b10), .val (.int sel), .unset, .unset, .unset, .unset, .unset] [(.int (9 : Int32)), (.int sel)])
      refine Goes.icmp (pc' := 175) X10.here X10.ex (hb hby at_165) (by decide) (by decide) (fun hc165 => ?_) (fun hc165 => ?_)
      · have hc165 : ¬ (sel = (9 : Int32)) := hc165
        show Goes _ _ _ _ T10 (mkF m 175 #[.val (.long i0), .second, .val (.long i1), .second, .val (.long i2), .second, .val (.long i3), .second, .val (.int i4), .val (.long x), .second, .val (.long y), .second, .val (.long z), .second, s15, s16, .val (.int (0 : Int32)), .val (.ref b10), .val (.int sel), .unset, .unset, .unset, .unset, .unset] [])
        refine Goes.go (fun _ k => XS.iload X10.here X10.ex rfl (hb hby at_175) rfl (XS.iconst X10.here X10.ex rfl (hb hby at_177) (XS.idiv X10.here X10.ex rfl (hb hby at_178) rfl (by decide) (XS.istore X10.here X10.ex rfl (hb hby at_179) rfl (l' := #[.val (.long i0), .second, .val (.long i1), .second, .val (.long i2), .second, .val (.long i3), .second, .val (.int i4), .val (.long x), .second, .val (.long y), .second, .val (.long z), .second, s15, s16, .val (.int (0 : Int32)), .val (.ref b10), .val (.int sel), .unset, .unset, .val (.int (sel / (3 : Int32))), .unset, .unset]) rfl (XS.iload X10.here X10.ex rfl (hb hby at_181) rfl k))))) ?_
        show Goes _ _ _ _ T10 (mkF m 183 #[.val (.long i0), .second, .val (.long i1), .second, .val (.long i2), .second, .val (.long i3), .second, .val (.int i4), .val (.long x), .second, .val (.long y), .second, .val (.long z), .second, s15, s16, .val (.int (0 : Int32)), .val (.ref b10), .val (.int sel), .unset, .unset, .val (.int (sel / (3 : Int32))), .unset, .unset] [(.int (sel / (3 : Int32)))])
        refine Goes.ifc (pc' := 191) X10.here X10.ex (hb hby at_183) (by decide) (by decide) (fun hc183 => ?_) (fun hc183 => ?_)
        · have hc183 : ¬ ((sel / (3 : Int32)) = (0 : Int32)) := hc183
          show Goes _ _ _ _ T10 (mkF m 191 #[.val (.long i0), .second, .val (.long i1), .second, .val (.long i2), .second, .val (.long i3), .second, .val (.int i4), .val (.long x), .second, .val (.long y), .second, .val (.long z), .second, s15, s16, .val (.int (0 : Int32)), .val (.ref b10), .val (.int sel), .unset, .unset, .val (.int (sel / (3 : Int32))), .unset, .unset] [])
          refine Goes.go (fun _ k => XS.iload X10.here X10.ex rfl (hb hby at_191) rfl (XS.iconst X10.here X10.ex rfl (hb hby at_193) k)) ?_
          show Goes _ _ _ _ T10 (mkF m 194 #[.val (.long i0), .second, .val (.long i1), .second, .val (.long i2), .second, .val (.long i3), .second, .val (.int i4), .val (.long x), .second, .val (.long y), .second, .val (.long z), .second, s15, s16, .val (.int (0 : Int32)), .val (.ref b10), .val (.int sel), .unset, .unset, .val (.int (sel / (3 : Int32))), .unset, .unset] [(.int (1 : Int32)), (.int (sel / (3 : Int32)))])
          refine Goes.icmp (pc' := 202) X10.here X10.ex (hb hby at_194) (by decide) (by decide) (fun hc194 => ?_) (fun hc194 => ?_)
          · have hc194 : ¬ ((sel / (3 : Int32)) = (1 : Int32)) := hc194
            show Goes _ _ _ _ T10 (mkF m 202 #[.val (.long i0), .second, .val (.long i1), .second, .val (.long i2), .second, .val (.long i3), .second, .val (.int i4), .val (.long x), .second, .val (.long y), .second, .val (.long z), .second, s15, s16, .val (.int (0 : Int32)), .val (.ref b10), .val (.int sel), .unset, .unset, .val (.int (sel / (3 : Int32))), .unset, .unset] [])
            refine Goes.go (fun _ k => XS.lload X10.here X10.ex rfl (hb hby at_202) rfl (XS.lstore X10.here X10.ex rfl (hb hby at_204) rfl (l' := #[.val (.long i0), .second, .val (.long i1), .second, .val (.long i2), .second, .val (.long i3), .second, .val (.int i4), .val (.long x), .second, .val (.long y), .second, .val (.long z), .second, s15, s16, .val (.int (0 : Int32)), .val (.ref b10), .val (.int sel), .unset, .unset, .val (.int (sel / (3 : Int32))), .val (.long z), .second]) rfl (XS.lload X10.here X10.ex rfl (hb hby at_206) rfl (XS.iload X10.here X10.ex rfl (hb hby at_208) rfl (XS.iconst X10.here X10.ex rfl (hb hby at_210) (XS.irem X10.here X10.ex rfl (hb hby at_211) rfl (by decide) k)))))) ?_
            show Goes _ _ _ _ T10 (mkF m 212 #[.val (.long i0), .second, .val (.long i1), .second, .val (.long i2), .second, .val (.long i3), .second, .val (.int i4), .val (.long x), .second, .val (.long y), .second, .val (.long z), .second, s15, s16, .val (.int (0 : Int32)), .val (.ref b10), .val (.int sel), .unset, .unset, .val (.int (sel / (3 : Int32))), .val (.long z), .second] [(.int (sel - (sel / (3 : Int32)) * (3 : Int32))), (.long z)])
            refine Goes.go (fun _ k => XS.iconst X10.here X10.ex rfl (hb hby at_212) (XS.isub X10.here X10.ex rfl (hb hby at_213) rfl (XS.i2l X10.here X10.ex rfl (hb hby at_214) rfl (XS.ladd X10.here X10.ex rfl (hb hby at_215) rfl (XS.lstore X10.here X10.ex rfl (hb hby at_216) rfl (l' := #[.val (.long i0), .second, .val (.long i1), .second, .val (.long i2), .second, .val (.long i3), .second, .val (.int i4), .val (.long x), .second, .val (.long y), .second, .val (.long z), .second, s15, s16, .val (.int (0 : Int32)), .val (.ref b10), .val (.int sel), .val (.long (z + (((sel - (sel / (3 : Int32)) * (3 : Int32)) - (1 : Int32)).toInt64))), .second, .val (.int (sel / (3 : Int32))), .val (.long z), .second]) rfl (XS.iconst X10.here X10.ex rfl (hb hby at_218) k)))))) ?_
            show Goes _ _ _ _ T10 (mkF m 219 #[.val (.long i0), .second, .val (.long i1), .second, .val (.long i2), .second, .val (.long i3), .second, .val (.int i4), .val (.long x), .second, .val (.long y), .second, .val (.long z), .second, s15, s16, .val (.int (0 : Int32)), .val (.ref b10), .val (.int sel), .val (.long (z + (((sel - (sel / (3 : Int32)) * (3 : Int32)) - (1 : Int32)).toInt64))), .second, .val (.int (sel / (3 : Int32))), .val (.long z), .second] [(.int (0 : Int32))])
            refine Goes.go (fun _ k => XS.istore X10.here X10.ex rfl (hb hby at_219) rfl (l' := #[.val (.long i0), .second, .val (.long i1), .second, .val (.long i2), .second, .val (.long i3), .second, .val (.int i4), .val (.long x), .second, .val (.long y), .second, .val (.long z), .second, s15, s16, .val (.int (0 : Int32)), .val (.ref b10), .val (.int sel), .val (.long (z + (((sel - (sel / (3 : Int32)) * (3 : Int32)) - (1 : Int32)).toInt64))), .second, .val (.int (0 : Int32)), .val (.long z), .second]) rfl k) ?_
            show Goes _ _ _ _ T10 (mkF m 221 #[.val (.long i0), .second, .val (.long i1), .second, .val (.long i2), .second, .val (.long i3), .second, .val (.int i4), .val (.long x), .second, .val (.long y), .second, .val (.long z), .second, s15, s16, .val (.int (0 : Int32)), .val (.ref b10), .val (.int sel), .val (.long (z + (((sel - (sel / (3 : Int32)) * (3 : Int32)) - (1 : Int32)).toInt64))), .second, .val (.int (0 : Int32)), .val (.long z), .second] [])
            exact J221 T10 h10 (z + (((sel - (sel / (3 : Int32)) * (3 : Int32)) - (1 : Int32)).toInt64)) (.val (.long z)) (.second) (X10.mark.mono (by decide) (by decide)) (Or.inr ⟨_, rfl, rfl⟩) V_b10
          · have hc194 : (sel / (3 : Int32)) = (1 : Int32) := Classical.not_not.mp hc194
            show Goes _ _ _ _ T10 (mkF m 197 #[.val (.long i0), .second, .val (.long i1), .second, .val (.long i2), .second, .val (.long i3), .second, .val (.int i4), .val (.long x), .second, .val (.long y), .second, .val (.long z), .second, s15, s16, .val (.int (0 : Int32)), .val (.ref b10), .val (.int sel), .unset, .unset, .val (.int (sel / (3 : Int32))), .unset, .unset] [])
            refine Goes.go (fun _ k => XS.lload X10.here X10.ex rfl (hb hby at_197) rfl (XS.goto X10.here X10.ex rfl (pc0 := 199) (pc' := 204) rfl (hb hby at_199) (by decide) (by decide) (XS.lstore X10.here X10.ex rfl (hb hby at_204) rfl (l' := #[.val (.long i0), .second, .val (.long i1), .second, .val (.long i2), .second, .val (.long i3), .second, .val (.int i4), .val (.long x), .second, .val (.long y), .second, .val (.long z), .second, s15, s16, .val (.int (0 : Int32)), .val (.ref b10), .val (.int sel), .unset, .unset, .val (.int (sel / (3 : Int32))), .val (.long y), .second]) rfl (XS.lload X10.here X10.ex rfl (hb hby at_206) rfl (XS.iload X10.here X10.ex rfl (hb hby at_208) rfl (XS.iconst X10.here X10.ex rfl (hb hby at_210) k)))))) ?_
            show Goes _ _ _ _ T10 (mkF m 211 #[.val (.long i0), .second, .val (.long i1), .second, .val (.long i2), .second, .val (.long i3), .second, .val (.int i4), .val (.long x), .second, .val (.long y), .second, .val (.long z), .second, s15, s16, .val (.int (0 : Int32)), .val (.ref b10), .val (.int sel), .unset, .unset, .val (.int (sel / (3 : Int32))), .val (.long y), .second] [(.int (3 : Int32)), (.int sel), (.long y)])
            refine Goes.go (fun _ k => XS.irem X10.here X10.ex rfl (hb hby at_211) rfl (by decide) (XS.iconst X10.here X10.ex rfl (hb hby at_212) (XS.isub X10.here X10.ex rfl (hb hby at_213) rfl (XS.i2l X10.here X10.ex rfl (hb hby at_214) rfl (XS.ladd X10.here X10.ex rfl (hb hby at_215) rfl (XS.lstore X10.here X10.ex rfl (hb hby at_216) rfl (l' := #[.val (.long i0), .second, .val (.long i1), .second, .val (.long i2), .second, .val (.long i3), .second, .val (.int i4), .val (.long x), .second, .val (.long y), .second, .val (.long z), .second, s15, s16, .val (.int (0 : Int32)), .val (.ref b10), .val (.int sel), .val (.long (y + (((sel - (sel / (3 : Int32)) * (3 : Int32)) - (1 : Int32)).toInt64))), .second, .val (.int (sel / (3 : Int32))), .val (.long y), .second]) rfl k)))))) ?_
            show Goes _ _ _ _ T10 (mkF m 218 #[.val (.long i0), .second, .val (.long i1), .second, .val (.long i2), .second, .val (.long i3), .second, .val (.int i4), .val (.long x), .second, .val (.long y), .second, .val (.long z), .second, s15, s16, .val (.int (0 : Int32)), .val (.ref b10), .val (.int sel), .val (.long (y + (((sel - (sel / (3 : Int32)) * (3 : Int32)) - (1 : Int32)).toInt64))), .second, .val (.int (sel / (3 : Int32))), .val (.long y), .second] [])
            refine Goes.go (fun _ k => XS.iconst X10.here X10.ex rfl (hb hby at_218) (XS.istore X10.here X10.ex rfl (hb hby at_219) rfl (l' := #[.val (.long i0), .second, .val (.long i1), .second, .val (.long i2), .second, .val (.long i3), .second, .val (.int i4), .val (.long x), .second, .val (.long y), .second, .val (.long z), .second, s15, s16, .val (.int (0 : Int32)), .val (.ref b10), .val (.int sel), .val (.long (y + (((sel - (sel / (3 : Int32)) * (3 : Int32)) - (1 : Int32)).toInt64))), .second, .val (.int (0 : Int32)), .val (.long y), .second]) rfl k)) ?_
            show Goes _ _ _ _ T10 (mkF m 221 #[.val (.long i0), .second, .val (.long i1), .second, .val (.long i2), .second, .val (.long i3), .second, .val (.int i4), .val (.long x), .second, .val (.long y), .second, .val (.long z), .second, s15, s16, .val (.int (0 : Int32)), .val (.ref b10), .val (.int sel), .val (.long (y + (((sel - (sel / (3 : Int32)) * (3 : Int32)) - (1 : Int32)).toInt64))), .second, .val (.int (0 : Int32)), .val (.long y), .second] [])
            exact J221 T10 h10 (y + (((sel - (sel / (3 : Int32)) * (3 : Int32)) - (1 : Int32)).toInt64)) (.val (.long y)) (.second) (X10.mark.mono (by decide) (by decide)) (Or.inr ⟨_, rfl, rfl⟩) V_b10
        · have hc183 : (sel / (3 : Int32)) = (0 : Int32) := Classical.not_not.mp hc183
          show Goes _ _ _ _ T10 (mkF m 186 #[.val (.long i0), .second, .val (.long i1), .second, .val (.long i2), .second, .val (.long i3), .second, .val (.int i4), .val (.long x), .second, .val (.long y), .second, .val (.long z), .second, s15, s16, .val (.int (0 : Int32)), .val (.ref b10), .val (.int sel), .unset, .unset, .val (.int (sel / (3 : Int32))), .unset, .unset] [])
          refine Goes.go (fun _ k => XS.lload X10.here X10.ex rfl (hb hby at_186) rfl (XS.goto X10.here X10.ex rfl (pc0 := 188) (pc' := 204) rfl (hb hby at_188) (by decide) (by decide) (XS.lstore X10.here X10.ex rfl (hb hby at_204) rfl (l' := #[.val (.long i0), .second, .val (.long i1), .second, .val (.long i2), .second, .val (.long i3), .second, .val (.int i4), .val (.long x), .second, .val (.long y), .second, .val (.long z), .second, s15, s16, .val (.int (0 : Int32)), .val (.ref b10), .val (.int sel), .unset, .unset, .val (.int (sel / (3 : Int32))), .val (.long x), .second]) rfl (XS.lload X10.here X10.ex rfl (hb hby at_206) rfl (XS.iload X10.here X10.ex rfl (hb hby at_208) rfl (XS.iconst X10.here X10.ex rfl (hb hby at_210) k)))))) ?_
          show Goes _ _ _ _ T10 (mkF m 211 #[.val (.long i0), .second, .val (.long i1), .second, .val (.long i2), .second, .val (.long i3), .second, .val (.int i4), .val (.long x), .second, .val (.long y), .second, .val (.long z), .second, s15, s16, .val (.int (0 : Int32)), .val (.ref b10), .val (.int sel), .unset, .unset, .val (.int (sel / (3 : Int32))), .val (.long x), .second] [(.int (3 : Int32)), (.int sel), (.long x)])
          refine Goes.go (fun _ k => XS.irem X10.here X10.ex rfl (hb hby at_211) rfl (by decide) (XS.iconst X10.here X10.ex rfl (hb hby at_212) (XS.isub X10.here X10.ex rfl (hb hby at_213) rfl (XS.i2l X10.here X10.ex rfl (hb hby at_214) rfl (XS.ladd X10.here X10.ex rfl (hb hby at_215) rfl (XS.lstore X10.here X10.ex rfl (hb hby at_216) rfl (l' := #[.val (.long i0), .second, .val (.long i1), .second, .val (.long i2), .second, .val (.long i3), .second, .val (.int i4), .val (.long x), .second, .val (.long y), .second, .val (.long z), .second, s15, s16, .val (.int (0 : Int32)), .val (.ref b10), .val (.int sel), .val (.long (x + (((sel - (sel / (3 : Int32)) * (3 : Int32)) - (1 : Int32)).toInt64))), .second, .val (.int (sel / (3 : Int32))), .val (.long x), .second]) rfl k)))))) ?_
          show Goes _ _ _ _ T10 (mkF m 218 #[.val (.long i0), .second, .val (.long i1), .second, .val (.long i2), .second, .val (.long i3), .second, .val (.int i4), .val (.long x), .second, .val (.long y), .second, .val (.long z), .second, s15, s16, .val (.int (0 : Int32)), .val (.ref b10), .val (.int sel), .val (.long (x + (((sel - (sel / (3 : Int32)) * (3 : Int32)) - (1 : Int32)).toInt64))), .second, .val (.int (sel / (3 : Int32))), .val (.long x), .second] [])
          refine Goes.go (fun _ k => XS.iconst X10.here X10.ex rfl (hb hby at_218) (XS.istore X10.here X10.ex rfl (hb hby at_219) rfl (l' := #[.val (.long i0), .second, .val (.long i1), .second, .val (.long i2), .second, .val (.long i3), .second, .val (.int i4), .val (.long x), .second, .val (.long y), .second, .val (.long z), .second, s15, s16, .val (.int (0 : Int32)), .val (.ref b10), .val (.int sel), .val (.long (x + (((sel - (sel / (3 : Int32)) * (3 : Int32)) - (1 : Int32)).toInt64))), .second, .val (.int (0 : Int32)), .val (.long x), .second]) rfl k)) ?_
          show Goes _ _ _ _ T10 (mkF m 221 #[.val (.long i0), .second, .val (.long i1), .second, .val (.long i2), .second, .val (.long i3), .second, .val (.int i4), .val (.long x), .second, .val (.long y), .second, .val (.long z), .second, s15, s16, .val (.int (0 : Int32)), .val (.ref b10), .val (.int sel), .val (.long (x + (((sel - (sel / (3 : Int32)) * (3 : Int32)) - (1 : Int32)).toInt64))), .second, .val (.int (0 : Int32)), .val (.long x), .second] [])
          exact J221 T10 h10 (x + (((sel - (sel / (3 : Int32)) * (3 : Int32)) - (1 : Int32)).toInt64)) (.val (.long x)) (.second) (X10.mark.mono (by decide) (by decide)) (Or.inr ⟨_, rfl, rfl⟩) V_b10
      · have hc165 : sel = (9 : Int32) := Classical.not_not.mp hc165
        show Goes _ _ _ _ T10 (mkF m 168 #[.val (.long i0), .second, .val (.long i1), .second, .val (.long i2), .second, .val (.long i3), .second, .val (.int i4), .val (.long x), .second, .val (.long y), .second, .val (.long z), .second, s15, s16, .val (.int (0 : Int32)), .val (.ref b10), .val (.int sel), .unset, .unset, .unset, .unset, .unset] [])
        refine Goes.go (fun _ k => XS.lload X10.here X10.ex rfl (hb hby at_168) rfl (XS.lstore X10.here X10.ex rfl (hb hby at_170) rfl (l' := #[.val (.long i0), .second, .val (.long i1), .second, .val (.long i2), .second, .val (.long i3), .second, .val (.int i4), .val (.long x), .second, .val (.long y), .second, .val (.long z), .second, s15, s16, .val (.int (0 : Int32)), .val (.ref b10), .val (.int sel), .val (.long i3), .second, .unset, .unset, .unset]) rfl (XS.goto X10.here X10.ex rfl (pc0 := 172) (pc' := 218) rfl (hb hby at_172) (by decide) (by decide) (XS.iconst X10.here X10.ex rfl (hb hby at_218) (XS.istore X10.here X10.ex rfl (hb hby at_219) rfl (l' := #[.val (.long i0), .second, .val (.long i1), .second, .val (.long i2), .second, .val (.long i3), .second, .val (.int i4), .val (.long x), .second, .val (.long y), .second, .val (.long z), .second, s15, s16, .val (.int (0 : Int32)), .val (.ref b10), .val (.int sel), .val (.long i3), .second, .val (.int (0 : Int32)), .unset, .unset]) rfl k))))) ?_
        show Goes _ _ _ _ T10 (mkF m 221 #[.val (.long i0), .second, .val (.long i1), .second, .val (.long i2), .second, .val (.long i3), .second, .val (.int i4), .val (.long x), .second, .val (.long y), .second, .val (.long z), .second, s15, s16, .val (.int (0 : Int32)), .val (.ref b10), .val (.int sel), .val (.long i3), .second, .val (.int (0 : Int32)), .unset, .unset] [])
        exact J221 T10 h10 i3 (.unset) (.unset) (X10.mark.mono (by decide) (by decide)) (Or.inl ⟨rfl, rfl⟩) V_b10
    · show Goes _ _ _ _ Tj9 (mkF m 76 #[.val (.long i0), .second, .val (.long i1), .second, .val (.long i2), .second, .val (.long i3), .second, .val (.int i4), .val (.long x), .second, .val (.long y), .second, .val (.long z), .second, s15, s16, .val (.int (1 : Int32)), .unset, .unset, .unset, .unset, .unset, .unset, .unset] [])
      refine Goes.go (fun _ k => XS.iload Xj9.here Xj9.ex rfl (hb hby at_76) rfl (XS.iconst Xj9.here Xj9.ex rfl (hb hby at_78) (XS.icmpYes Xj9.here Xj9.ex rfl (pc0 := 79) (pc' := 92) rfl (hb hby at_79) rfl (cd_t (cd := .lt) (x := (1 : Int32)) (y := (2 : Int32)) (by decide)) (by decide) (by decide) (XS.iload Xj9.here Xj9.ex rfl (hb hby at_92) rfl (XS.iconst Xj9.here Xj9.ex rfl (hb hby at_94) (XS.icmpYes Xj9.here Xj9.ex rfl (pc0 := 95) (pc' := 108) rfl (hb hby at_95) rfl (cd_t (cd := .lt) (x := (1 : Int32)) (y := (3 : Int32)) (by decide)) (by decide) (by decide) k)))))) ?_
      show Goes _ _ _ _ Tj9 (mkF m 108 #[.val (.long i0), .second, .val (.long i1), .second, .val (.long i2), .second, .val (.long i3), .second, .val (.int i4), .val (.long x), .second, .val (.long y), .second, .val (.long z), .second, s15, s16, .val (.int (1 : Int32)), .unset, .unset, .unset, .unset, .unset, .unset, .unset] [])
      refine Goes.go (fun _ k => XS.iload Xj9.here Xj9.ex rfl (hb hby at_108) rfl k) ?_
      show Goes _ _ _ _ Tj9 (mkF m 110 #[.val (.long i0), .second, .val (.long i1), .second, .val (.long i2), .second, .val (.long i3), .second, .val (.int i4), .val (.long x), .second, .val (.long y), .second, .val (.long z), .second, s15, s16, .val (.int (1 : Int32)), .unset, .unset, .unset, .unset, .unset, .unset, .unset] [(.int (1 : Int32))])
      refine Wk.newA (aty := .long) Xj9 (w_0 hw) rfl (hb hby at_110) rfl (by decide) (cap := 1) (by decide) (by decide) (by decide) (by decide) ?_
      intro T13 h13 b13 k13 g13 X13 E13 A13 B_b13
      have V_b13 : Arv Z h13 b13 k13 .long (1 : Int32) [(.long (0 : Int64))] (.long (0 : Int64)) := A13.pad (pad_rep [] (.long (0 : Int64)) 1)
      have gz_b13 : Z.heap.size ≤ b13 := g13 ▸ Xj9.old.1
      have gm_b13 : hj9.size ≤ b13 := g13 ▸ Xj9.ext.1
      show Goes _ _ _ _ T13 (mkF m 112 #[.val (.long i0), .second, .val (.long i1), .second, .val (.long i2), .second, .val (.long i3), .second, .val (.int i4), .val (.long x), .second, .val (.long y), .second, .val (.long z), .second, s15, s16, .val (.int (1 : Int32)), .unset, .unset, .unset, .unset, .unset, .unset, .unset] [(.ref b13)])
      refine Goes.go (fun _ k => XS.astore X13.here X13.ex rfl (hb hby at_112) rfl rfl (l' := #[.val (.long i0), .second, .val (.long i1), .second, .val (.long i2), .second, .val (.long i3), .second, .val (.int i4), .val (.long x), .second, .val (.long y), .second, .val (.long z), .second, s15, s16, .val (.int (1 : Int32)), .val (.ref b13), .unset, .unset, .unset, .unset, .unset, .unset]) rfl (XS.iload X13.here X13.ex rfl (hb hby at_114) rfl (XS.ifNo X13.here X13.ex rfl (hb hby at_116) rfl ((if0 _ _).trans (cd_f (cd := .le) (x := (1 : Int32)) (y := (0 : Int32)) (by decide))) (XS.aload X13.here X13.ex rfl (hb hby at_119) rfl rfl (XS.iconst X13.here X13.ex rfl (hb hby at_121) (XS.lload X13.here X13.ex rfl (hb hby at_122) rfl k)))))) ?_
      show Goes _ _ _ _ T13 (mkF m 124 #[.val (.long i0), .second, .val (.long i1), .second, .val (.long i2), .second, .val (.long i3), .second, .val (.int i4), .val (.long x), .second, .val (.long y), .second, .val (.long z), .second, s15, s16, .val (.int (1 : Int32)), .val (.ref b13), .unset, .unset, .unset, .unset, .unset, .unset] [(.long x), (.int (0 : Int32)), (.ref b13)])
      refine Wk.lastore (hm' := fun _ => hj9) X13 V_b13 ⟨by decide, by decide⟩ (i := 0) rfl (Nat.le_of_ble_eq_true rfl) gz_b13 (fun _ => Mark.stay (allS gm_b13 all0)) rfl rfl (hb hby at_124) ?_
      intro T14 h14 X14 W14 V14
      clear V_b13; have V_b13 : Arv Z h14 b13 _ .long (1 : Int32) [(.long x)] (.long (0 : Int64)) := V14
      show Goes _ _ _ _ T14 (mkF m 125 #[.val (.long i0), .second, .val (.long i1), .second, .val (.long i2), .second, .val (.long i3), .second, .val (.int i4), .val (.long x), .second, .val (.long y), .second, .val (.long z), .second, s15, s16, .val (.int (1 : Int32)), .val (.ref b13), .unset, .unset, .unset, .unset, .unset, .unset] [])
      refine Goes.go (fun _ k => XS.iload X14.here X14.ex rfl (hb hby at_125) rfl (XS.iconst X14.here X14.ex rfl (hb hby at_127) (XS.icmpYes X14.here X14.ex rfl (pc0 := 128) (pc' := 137) rfl (hb hby at_128) rfl (cd_t (cd := .le) (x := (1 : Int32)) (y := (1 : Int32)) (by decide)) (by decide) (by decide) (XS.iload X14.here X14.ex rfl (hb hby at_137) rfl (XS.iconst X14.here X14.ex rfl (hb hby at_139) (XS.icmpYes X14.here X14.ex rfl (pc0 := 140) (pc' := 149) rfl (hb hby at_140) rfl (cd_t (cd := .le) (x := (1 : Int32)) (y := (2 : Int32)) (by decide)) (by decide) (by decide) k)))))) ?_
      show Goes _ _ _ _ T14 (mkF m 149 #[.val (.long i0), .second, .val (.long i1), .second, .val (.long i2), .second, .val (.long i3), .second, .val (.int i4), .val (.long x), .second, .val (.long y), .second, .val (.long z), .second, s15, s16, .val (.int (1 : Int32)), .val (.ref b13), .unset, .unset, .unset, .unset, .unset, .unset] [])
      refine Goes.go (fun _ k => XS.iload X14.here X14.ex rfl (hb hby at_149) rfl (XS.iconst X14.here X14.ex rfl (hb hby at_151) (XS.iushr X14.here X14.ex rfl (hb hby at_152) rfl k))) ?_
      show Goes _ _ _ _ T14 (mkF m 153 #[.val (.long i0), .second, .val (.long i1), .second, .val (.long i2), .second, .val (.long i3), .second, .val (.int i4), .val (.long x), .second, .val (.long y), .second, .val (.long z), .second, s15, s16, .val (.int (1 : Int32)), .val (.ref b13), .unset, .unset, .unset, .unset, .unset, .unset] [(.int ((i4.toUInt32 >>> ((2 : Int32) &&& 31).toUInt32).toInt32))])
      refine Goes.go (X14.ldcI (w_1 hw) rfl (hb hby at_153)) ?_
      show Goes _ _ _ _ T14 (mkF m 155 #[.val (.long i0), .second, .val (.long i1), .second, .val (.long i2), .second, .val (.long i3), .second, .val (.int i4), .val (.long x), .second, .val (.long y), .second, .val (.long z), .second, s15, s16, .val (.int (1 : Int32)), .val (.ref b13), .unset, .unset, .unset, .unset, .unset, .unset] [(.int (65535 : Int32)), (.int ((i4.toUInt32 >>> ((2 : Int32) &&& 31).toUInt32).toInt32))])
      refine Goes.go (fun _ k => XS.iand X14.here X14.ex rfl (hb hby at_155) rfl (XS.bipush X14.here X14.ex rfl (hb hby at_156) (XS.irem X14.here X14.ex rfl (hb hby at_158) rfl (by decide) (XS.istore X14.here X14.ex rfl (hb hby at_159) rfl (l' := #[.val (.long i0), .second, .val (.long i1), .second, .val (.long i2), .second, .val (.long i3), .second, .val (.int i4), .val (.long x), .second, .val (.long y), .second, .val (.long z), .second, s15, s16, .val (.int (1 : Int32)), .val (.ref b13), .val (.int ((((i4.toUInt32 >>> ((2 : Int32) &&& 31).toUInt32).toInt32) &&& (65535 : Int32)) - ((((i4.toUInt32 >>> ((2 : Int32) &&& 31).toUInt32).toInt32) &&& (65535 : Int32)) / (10 : Int32)) * (10 : Int32))), .unset, .unset, .unset, .unset, .unset]) rfl k)))) ?_
      show Goes _ _ _ _ T14 (mkF m 161 #[.val (.long i0), .second, .val (.long i1), .second, .val (.long i2), .second, .val (.long i3), .second, .val (.int i4), .val (.long x), .second, .val (.long y), .second, .val (.long z), .second, s15, s16, .val (.int (1 : Int32)), .val (.ref b13), .val (.int ((((i4.toUInt32 >>> ((2 : Int32) &&& 31).toUInt32).toInt32) &&& (65535 : Int32)) - ((((i4.toUInt32 >>> ((2 : Int32) &&& 31).toUInt32).toInt32) &&& (65535 : Int32)) / (10 : Int32)) * (10 : Int32))), .unset, .unset, .unset, .unset, .unset] [])
      obtain ⟨sel, hsel⟩ : ∃ z : Int32, z = ((((i4.toUInt32 >>> ((2 : Int32) &&& 31).toUInt32).toInt32) &&& (65535 : Int32)) - ((((i4.toUInt32 >>> ((2 : Int32) &&& 31).toUInt32).toInt32) &&& (65535 : Int32)) / (10 : Int32)) * (10 : Int32)) := ⟨_, rfl⟩
      refine Goes.cast (show (mkF m 161 #[.val (.long i0), .second, .val (.long i1), .second, .val (.long i2), .second, .val (.long i3), .second, .val (.int i4), .val (.long x), .second, .val (.long y), .second, .val (.long z), .second, s15, s16, .val (.int (1 : Int32)), .val (.ref b13), .val (.int ((((i4.toUInt32 >>> ((2 : Int32) &&& 31).toUInt32).toInt32) &&& (65535 : Int32)) - ((((i4.toUInt32 >>> ((2 : Int32) &&& 31).toUInt32).toInt32) &&& (65535 : Int32)) / (10 : Int32)) * (10 : Int32))), .unset, .unset, .unset, .unset, .unset] []) = (mkF m 161 #[.val (.long i0), .second, .val (.long i1), .second, .val (.long i2), .second, .val (.long i3), .second, .val (.int i4), .val (.long x), .second, .val (.long y), .second, .val (.long z), .second, s15, s16, .val (.int (1 : Int32)), .val (.ref b13), .val (.int sel), .unset, .unset, .unset, .unset, .unset] []) from by rw [hsel]) ?_
      show Goes _ _ _ _ T14 (mkF m 161 #[.val (.long i0), .second, .val (.long i1), .second, .val (.long i2), .second, .val (.long i3), .second, .val (.int i4), .val (.long x), .second, .val (.long y), .second, .val (.long z), .second, s15, s16, .val (.int (1 : Int32)), .val (.ref b13), .val (.int sel), .unset, .unset, .unset, .unset, .unset] [])
      have J221 : ∀ (Tj15 : State) (hj15 : Heap) (nb : Int64) (s23 : Slot) (s24 : Slot), Wk True p l e room_1 s m #[(.long i0), (.long i1), (.long i2), (.long i3), (.int i4)] below meth c Z "com/example/assent/assent/log/CrashSetInsertionPointPinLaw" [] hj15 Tj15 hj15 1 1 → ((s23 = .unset ∧ s24 = .unset) ∨ ∃ bb : Int64, s23 = .val (.long bb) ∧ s24 = .second) → (Arv Z hj15 b13 k13 .long (1 : Int32) [(.long x)] (.long (0 : Int64))) → Goes p.tables e below (EndN Z s room_1.cells room_1.slots (fun v h' => v = some (.int (1 : Int32)))) Tj15 (mkF m 221 #[.val (.long i0), .second, .val (.long i1), .second, .val (.long i2), .second, .val (.long i3), .second, .val (.int i4), .val (.long x), .second, .val (.long y), .second, .val (.long z), .second, s15, s16, .val (.int (1 : Int32)), .val (.ref b13), .val (.int sel), .val (.long nb), .second, .val (.int (0 : Int32)), s23, s24] []) := by
        intro Tj15 hj15 nb s23 s24 Xj15 hs V
        suffices hJ221 : Goes p.tables e below (EndN Z s room_1.cells room_1.slots (fun v h' => v = some (.int (1 : Int32)))) Tj15 (mkF m 271 #[.val (.long i0), .second, .val (.long i1), .second, .val (.long i2), .second, .val (.long i3), .second, .val (.int i4), .val (.long x), .second, .val (.long y), .second, .val (.long z), .second, s15, s16, .val (.int (1 : Int32)), .val (.ref b13), .val (.int sel), .val (.long nb), .second, .val (.int (if (lcmpW x nb) < (0 : Int32) then (1 : Int32) else (0 : Int32))), s23, s24] []) by
          refine Goes.go (fun _ k => XS.iload Xj15.here Xj15.ex rfl (hb hby at_221) rfl (XS.ifNo Xj15.here Xj15.ex rfl (hb hby at_223) rfl ((if0 _ _).trans (cd_f (cd := .le) (x := (1 : Int32)) (y := (0 : Int32)) (by decide))) (XS.lload Xj15.here Xj15.ex rfl (hb hby at_226) rfl (XS.lload Xj15.here Xj15.ex rfl (hb hby at_228) rfl (XS.lcmp Xj15.here Xj15.ex rfl (hb hby at_230) rfl k))))) ?_
          show Goes _ _ _ _ Tj15 (mkF m 231 #[.val (.long i0), .second, .val (.long i1), .second, .val (.long i2), .second, .val (.long i3), .second, .val (.int i4), .val (.long x), .second, .val (.long y), .second, .val (.long z), .second, s15, s16, .val (.int (1 : Int32)), .val (.ref b13), .val (.int sel), .val (.long nb), .second, .val (.int (0 : Int32)), s23, s24] [(.int (lcmpW x nb))])
          refine Goes.ifc (pc' := 237) Xj15.here Xj15.ex (hb hby at_231) (by decide) (by decide) (fun hr1 => ?_) (fun hr1 => ?_)
          · have hr1 : ¬ ((lcmpW x nb) < (0 : Int32)) := hr1
            show Goes _ _ _ _ Tj15 (mkF m 237 #[.val (.long i0), .second, .val (.long i1), .second, .val (.long i2), .second, .val (.long i3), .second, .val (.int i4), .val (.long x), .second, .val (.long y), .second, .val (.long z), .second, s15, s16, .val (.int (1 : Int32)), .val (.ref b13), .val (.int sel), .val (.long nb), .second, .val (.int (0 : Int32)), s23, s24] [])
            refine Goes.go (fun _ k => XS.iload Xj15.here Xj15.ex rfl (hb hby at_237) rfl (XS.iconst Xj15.here Xj15.ex rfl (hb hby at_239) (XS.icmpYes Xj15.here Xj15.ex rfl (pc0 := 240) (pc' := 254) rfl (hb hby at_240) rfl (cd_t (cd := .le) (x := (1 : Int32)) (y := (1 : Int32)) (by decide)) (by decide) (by decide) (XS.iload Xj15.here Xj15.ex rfl (hb hby at_254) rfl (XS.iconst Xj15.here Xj15.ex rfl (hb hby at_256) (XS.icmpYes Xj15.here Xj15.ex rfl (pc0 := 257) (pc' := 271) rfl (hb hby at_257) rfl (cd_t (cd := .le) (x := (1 : Int32)) (y := (2 : Int32)) (by decide)) (by decide) (by decide) k)))))) ?_
            show Goes _ _ _ _ Tj15 (mkF m 271 #[.val (.long i0), .second, .val (.long i1), .second, .val (.long i2), .second, .val (.long i3), .second, .val (.int i4), .val (.long x), .second, .val (.long y), .second, .val (.long z), .second, s15, s16, .val (.int (1 : Int32)), .val (.ref b13), .val (.int sel), .val (.long nb), .second, .val (.int (0 : Int32)), s23, s24] [])
            (try simp only [if_neg hr1] at hJ221 ⊢)
            exact hJ221
          · have hr1 : (lcmpW x nb) < (0 : Int32) := Classical.not_not.mp hr1
            show Goes _ _ _ _ Tj15 (mkF m 234 #[.val (.long i0), .second, .val (.long i1), .second, .val (.long i2), .second, .val (.long i3), .second, .val (.int i4), .val (.long x), .second, .val (.long y), .second, .val (.long z), .second, s15, s16, .val (.int (1 : Int32)), .val (.ref b13), .val (.int sel), .val (.long nb), .second, .val (.int (0 : Int32)), s23, s24] [])
            refine Goes.go (fun _ k => XS.iinc Xj15.here Xj15.ex rfl (hb hby at_234) rfl (l' := #[.val (.long i0), .second, .val (.long i1), .second, .val (.long i2), .second, .val (.long i3), .second, .val (.int i4), .val (.long x), .second, .val (.long y), .second, .val (.long z), .second, s15, s16, .val (.int (1 : Int32)), .val (.ref b13), .val (.int sel), .val (.long nb), .second, .val (.int ((0 : Int32) + (1 : Int32))), s23, s24]) rfl k) ?_
            show Goes _ _ _ _ Tj15 (mkF m 237 #[.val (.long i0), .second, .val (.long i1), .second, .val (.long i2), .second, .val (.long i3), .second, .val (.int i4), .val (.long x), .second, .val (.long y), .second, .val (.long z), .second, s15, s16, .val (.int (1 : Int32)), .val (.ref b13), .val (.int sel), .val (.long nb), .second, .val (.int ((0 : Int32) + (1 : Int32))), s23, s24] [])
            refine Goes.cast (congrArg (fun zq_ => (mkF m 237 #[.val (.long i0), .second, .val (.long i1), .second, .val (.long i2), .second, .val (.long i3), .second, .val (.int i4), .val (.long x), .second, .val (.long y), .second, .val (.long z), .second, s15, s16, .val (.int (1 : Int32)), .val (.ref b13), .val (.int sel), .val (.long nb), .second, .val (.int zq_), s23, s24] [])) (show (((0 : Int32) + (1 : Int32)) : Int32) = (1 : Int32) from by decide)) ?_
            show Goes _ _ _ _ Tj15 (mkF m 237 #[.val (.long i0), .second, .val (.long i1), .second, .val (.long i2), .second, .val (.long i3), .second, .val (.int i4), .val (.long x), .second, .val (.long y), .second, .val (.long z), .second, s15, s16, .val (.int (1 : Int32)), .val (.ref b13), .val (.int sel), .val (.long nb), .second, .val (.int (1 : Int32)), s23, s24] [])
            refine Goes.go (fun _ k => XS.iload Xj15.here Xj15.ex rfl (hb hby at_237) rfl (XS.iconst Xj15.here Xj15.ex rfl (hb hby at_239) (XS.icmpYes Xj15.here Xj15.ex rfl (pc0 := 240) (pc' := 254) rfl (hb hby at_240) rfl (cd_t (cd := .le) (x := (1 : Int32)) (y := (1 : Int32)) (by decide)) (by decide) (by decide) (XS.iload Xj15.here Xj15.ex rfl (hb hby at_254) rfl (XS.iconst Xj15.here Xj15.ex rfl (hb hby at_256) (XS.icmpYes Xj15.here Xj15.ex rfl (pc0 := 257) (pc' := 271) rfl (hb hby at_257) rfl (cd_t (cd := .le) (x := (1 : Int32)) (y := (2 : Int32)) (by decide)) (by decide) (by decide) k)))))) ?_
            show Goes _ _ _ _ Tj15 (mkF m 271 #[.val (.long i0), .second, .val (.long i1), .second, .val (.long i2), .second, .val (.long i3), .second, .val (.int i4), .val (.long x), .second, .val (.long y), .second, .val (.long z), .second, s15, s16, .val (.int (1 : Int32)), .val (.ref b13), .val (.int sel), .val (.long nb), .second, .val (.int (1 : Int32)), s23, s24] [])
            (try simp only [if_pos hr1] at hJ221 ⊢)
            exact hJ221
        refine Goes.go (fun _ k => XS.aload Xj15.here Xj15.ex rfl (hb hby at_271) rfl rfl (XS.lload Xj15.here Xj15.ex rfl (hb hby at_273) rfl k)) ?_
        show Goes _ _ _ _ Tj15 (mkF m 275 #[.val (.long i0), .second, .val (.long i1), .second, .val (.long i2), .second, .val (.long i3), .second, .val (.int i4), .val (.long x), .second, .val (.long y), .second, .val (.long z), .second, s15, s16, .val (.int (1 : Int32)), .val (.ref b13), .val (.int sel), .val (.long nb), .second, .val (.int (if (lcmpW x nb) < (0 : Int32) then (1 : Int32) else (0 : Int32))), s23, s24] [(.long nb), (.ref b13)])
        refine Wk.static (hm' := fun _ => hj15) (y := (⟨"com/example/assent/assent/log/CrashSet", "insertionPoint", "([JJ)I"⟩ : MethodName)) (W := 0) (kc := 0) (ks := 0) (argsL := [(.ref b13), (.long nb)]) (rest := []) (as' := #[(.ref b13), (.long nb)]) (ws := []) Xj15 (w_2 hw) (w_3 hw) (w_4 hw) (w_5 hw) (by decide) (CtrN.pays (own_ip_1 l Z a0 hw hj15 Xj15.old b13 k13 nb x V ) (w_5 hw) (w_4 hw) (by decide) (by decide)) (fun v h' L q => ⟨q.2, q.1.1⟩) all0 (fun _ => Mark.stay all0) rfl (by rw [hml]; rfl) (lenOf pd_1 rfl) rfl rfl (by show 2 * 0 + _ ≤ _; exact Nat.le_of_eq rfl) (hb hby at_275) (by decide) (by decide) ?_
        intro T16 h16 v16 L16 X16 q16 K16
        obtain ⟨⟨-, rfl⟩, -⟩ := q16
        show Goes _ _ _ _ T16 (mkF m 278 #[.val (.long i0), .second, .val (.long i1), .second, .val (.long i2), .second, .val (.long i3), .second, .val (.int i4), .val (.long x), .second, .val (.long y), .second, .val (.long z), .second, s15, s16, .val (.int (1 : Int32)), .val (.ref b13), .val (.int sel), .val (.long nb), .second, .val (.int (if (lcmpW x nb) < (0 : Int32) then (1 : Int32) else (0 : Int32))), s23, s24] [(.int (own_cnt [x] nb))])
        rcases hs with ⟨rfl, rfl⟩ | ⟨bb, rfl, rfl⟩
        · show Goes _ _ _ _ T16 (mkF m 278 #[.val (.long i0), .second, .val (.long i1), .second, .val (.long i2), .second, .val (.long i3), .second, .val (.int i4), .val (.long x), .second, .val (.long y), .second, .val (.long z), .second, s15, s16, .val (.int (1 : Int32)), .val (.ref b13), .val (.int sel), .val (.long nb), .second, .val (.int (if (lcmpW x nb) < (0 : Int32) then (1 : Int32) else (0 : Int32))), .unset, .unset] [(.int (own_cnt [x] nb))])
          refine Goes.go (fun _ k => XS.istore X16.here X16.ex rfl (hb hby at_278) rfl (l' := #[.val (.long i0), .second, .val (.long i1), .second, .val (.long i2), .second, .val (.long i3), .second, .val (.int i4), .val (.long x), .second, .val (.long y), .second, .val (.long z), .second, s15, s16, .val (.int (1 : Int32)), .val (.ref b13), .val (.int sel), .val (.long nb), .second, .val (.int (if (lcmpW x nb) < (0 : Int32) then (1 : Int32) else (0 : Int32))), .val (.int (own_cnt [x] nb)), .unset]) rfl (XS.iload X16.here X16.ex rfl (hb hby at_280) rfl (XS.iload X16.here X16.ex rfl (hb hby at_282) rfl k))) ?_
          show Goes _ _ _ _ T16 (mkF m 284 #[.val (.long i0), .second, .val (.long i1), .second, .val (.long i2), .second, .val (.long i3), .second, .val (.int i4), .val (.long x), .second, .val (.long y), .second, .val (.long z), .second, s15, s16, .val (.int (1 : Int32)), .val (.ref b13), .val (.int sel), .val (.long nb), .second, .val (.int (if (lcmpW x nb) < (0 : Int32) then (1 : Int32) else (0 : Int32))), .val (.int (own_cnt [x] nb)), .unset] [(.int (if (lcmpW x nb) < (0 : Int32) then (1 : Int32) else (0 : Int32))), (.int (own_cnt [x] nb))])
          refine Goes.go (fun _ k => XS.icmpNo X16.here X16.ex rfl (hb hby at_284) rfl (cd_f (cd := .ne) (x := (own_cnt [x] nb)) (y := (if (lcmpW x nb) < (0 : Int32) then (1 : Int32) else (0 : Int32))) ((fun q => absurd (own_plain1 nb x) q))) k) ?_
          show Goes _ _ _ _ T16 (mkF m 287 #[.val (.long i0), .second, .val (.long i1), .second, .val (.long i2), .second, .val (.long i3), .second, .val (.int i4), .val (.long x), .second, .val (.long y), .second, .val (.long z), .second, s15, s16, .val (.int (1 : Int32)), .val (.ref b13), .val (.int sel), .val (.long nb), .second, .val (.int (if (lcmpW x nb) < (0 : Int32) then (1 : Int32) else (0 : Int32))), .val (.int (own_cnt [x] nb)), .unset] [])
          refine Goes.go (fun _ k => XS.iconst X16.here X16.ex rfl (hb hby at_287) (XS.goto X16.here X16.ex rfl (pc0 := 288) (pc' := 292) rfl (hb hby at_288) (by decide) (by decide) k)) ?_
          show Goes _ _ _ _ T16 (mkF m 292 #[.val (.long i0), .second, .val (.long i1), .second, .val (.long i2), .second, .val (.long i3), .second, .val (.int i4), .val (.long x), .second, .val (.long y), .second, .val (.long z), .second, s15, s16, .val (.int (1 : Int32)), .val (.ref b13), .val (.int sel), .val (.long nb), .second, .val (.int (if (lcmpW x nb) < (0 : Int32) then (1 : Int32) else (0 : Int32))), .val (.int (own_cnt [x] nb)), .unset] [(.int (1 : Int32))])
          refine Goes.outN X16 (fun q => by rw [hret] at q; cases q) hlk (X16.rB hret (by simp) (hb hby at_292)) ?_ (by decide) (by decide)
          exact rfl
        · show Goes _ _ _ _ T16 (mkF m 278 #[.val (.long i0), .second, .val (.long i1), .second, .val (.long i2), .second, .val (.long i3), .second, .val (.int i4), .val (.long x), .second, .val (.long y), .second, .val (.long z), .second, s15, s16, .val (.int (1 : Int32)), .val (.ref b13), .val (.int sel), .val (.long nb), .second, .val (.int (if (lcmpW x nb) < (0 : Int32) then (1 : Int32) else (0 : Int32))), .val (.long bb), .second] [(.int (own_cnt [x] nb))])
          refine Goes.go (fun _ k => XS.istore X16.here X16.ex rfl (hb hby at_278) rfl (l' := #[.val (.long i0), .second, .val (.long i1), .second, .val (.long i2), .second, .val (.long i3), .second, .val (.int i4), .val (.long x), .second, .val (.long y), .second, .val (.long z), .second, s15, s16, .val (.int (1 : Int32)), .val (.ref b13), .val (.int sel), .val (.long nb), .second, .val (.int (if (lcmpW x nb) < (0 : Int32) then (1 : Int32) else (0 : Int32))), .val (.int (own_cnt [x] nb)), .unset]) rfl (XS.iload X16.here X16.ex rfl (hb hby at_280) rfl (XS.iload X16.here X16.ex rfl (hb hby at_282) rfl k))) ?_
          show Goes _ _ _ _ T16 (mkF m 284 #[.val (.long i0), .second, .val (.long i1), .second, .val (.long i2), .second, .val (.long i3), .second, .val (.int i4), .val (.long x), .second, .val (.long y), .second, .val (.long z), .second, s15, s16, .val (.int (1 : Int32)), .val (.ref b13), .val (.int sel), .val (.long nb), .second, .val (.int (if (lcmpW x nb) < (0 : Int32) then (1 : Int32) else (0 : Int32))), .val (.int (own_cnt [x] nb)), .unset] [(.int (if (lcmpW x nb) < (0 : Int32) then (1 : Int32) else (0 : Int32))), (.int (own_cnt [x] nb))])
          refine Goes.go (fun _ k => XS.icmpNo X16.here X16.ex rfl (hb hby at_284) rfl (cd_f (cd := .ne) (x := (own_cnt [x] nb)) (y := (if (lcmpW x nb) < (0 : Int32) then (1 : Int32) else (0 : Int32))) ((fun q => absurd (own_plain1 nb x) q))) k) ?_
          show Goes _ _ _ _ T16 (mkF m 287 #[.val (.long i0), .second, .val (.long i1), .second, .val (.long i2), .second, .val (.long i3), .second, .val (.int i4), .val (.long x), .second, .val (.long y), .second, .val (.long z), .second, s15, s16, .val (.int (1 : Int32)), .val (.ref b13), .val (.int sel), .val (.long nb), .second, .val (.int (if (lcmpW x nb) < (0 : Int32) then (1 : Int32) else (0 : Int32))), .val (.int (own_cnt [x] nb)), .unset] [])
          refine Goes.go (fun _ k => XS.iconst X16.here X16.ex rfl (hb hby at_287) (XS.goto X16.here X16.ex rfl (pc0 := 288) (pc' := 292) rfl (hb hby at_288) (by decide) (by decide) k)) ?_
          show Goes _ _ _ _ T16 (mkF m 292 #[.val (.long i0), .second, .val (.long i1), .second, .val (.long i2), .second, .val (.long i3), .second, .val (.int i4), .val (.long x), .second, .val (.long y), .second, .val (.long z), .second, s15, s16, .val (.int (1 : Int32)), .val (.ref b13), .val (.int sel), .val (.long nb), .second, .val (.int (if (lcmpW x nb) < (0 : Int32) then (1 : Int32) else (0 : Int32))), .val (.int (own_cnt [x] nb)), .unset] [(.int (1 : Int32))])
          refine Goes.outN X16 (fun q => by rw [hret] at q; cases q) hlk (X16.rB hret (by simp) (hb hby at_292)) ?_ (by decide) (by decide)
          exact rfl
      refine Goes.go (fun _ k => XS.iload X14.here X14.ex rfl (hb hby at_161) rfl (XS.bipush X14.here X14.ex rfl (hb hby at_163) k)) ?_
      show Goes _ _ _ _ T14 (mkF m 165 #[.val (.long i0), .second, .val (.long i1), .second, .val (.long i2), .second, .val (.long i3), .second, .val (.int i4), .val (.long x), .second, .val (.long y), .second, .val (.long z), .second, s15, s16, .val (.int (1 : Int32)), .val (.ref b13), .val (.int sel), .unset, .unset, .unset, .unset, .unset] [(.int (9 : Int32)), (.int sel)])
      refine Goes.icmp (pc' := 175) X14.here X14.ex (hb hby at_165) (by decide) (by decide) (fun hc165 => ?_) (fun hc165 => ?_)
      · have hc165 : ¬ (sel = (9 : Int32)) := hc165
        show Goes _ _ _ _ T14 (mkF m 175 #[.val (.long i0), .second, .val (.long i1), .second, .val (.long i2), .second, .val (.long i3), .second, .val (.int i4), .val (.long x), .second, .val (.long y), .second, .val (.long z), .second, s15, s16, .val (.int (1 : Int32)), .val (.ref b13), .val (.int sel), .unset, .unset, .unset, .unset, .unset] [])
        refine Goes.go (fun _ k => XS.iload X14.here X14.ex rfl (hb hby at_175) rfl (XS.iconst X14.here X14.ex rfl (hb hby at_177) (XS.idiv X14.here X14.ex rfl (hb hby at_178) rfl (by decide) (XS.istore X14.here X14.ex rfl (hb hby at_179) rfl (l' := #[.val (.long i0), .second, .val (.long i1), .second, .val (.long i2), .second, .val (.long i3), .second, .val (.int i4), .val (.long x), .second, .val (.long y), .second, .val (.long z), .second, s15, s16, .val (.int (1 : Int32)), .val (.ref b13), .val (.int sel), .unset, .unset, .val (.int (sel / (3 : Int32))), .unset, .unset]) rfl (XS.iload X14.here X14.ex rfl (hb hby at_181) rfl k))))) ?_
        show Goes _ _ _ _ T14 (mkF m 183 #[.val (.long i0), .second, .val (.long i1), .second, .val (.long i2), .second, .val (.long i3), .second, .val (.int i4), .val (.long x), .second, .val (.long y), .second, .val (.long z), .second, s15, s16, .val (.int (1 : Int32)), .val (.ref b13), .val (.int sel), .unset, .unset, .val (.int (sel / (3 : Int32))), .unset, .unset] [(.int (sel / (3 : Int32)))])
        refine Goes.ifc (pc' := 191) X14.here X14.ex (hb hby at_183) (by decide) (by decide) (fun hc183 => ?_) (fun hc183 => ?_)
        · have hc183 : ¬ ((sel / (3 : Int32)) = (0 : Int32)) := hc183
          show Goes _ _ _ _ T14 (mkF m 191 #[.val (.long i0), .second, .val (.long i1), .second, .val (.long i2), .second, .val (.long i3), .second, .val (.int i4), .val (.long x), .second, .val (.long y), .second, .val (.long z), .second, s15, s16, .val (.int (1 : Int32)), .val (.ref b13), .val (.int sel), .unset, .unset, .val (.int (sel / (3 : Int32))), .unset, .unset] [])
          refine Goes.go (fun _ k => XS.iload X14.here X14.ex rfl (hb hby at_191) rfl (XS.iconst X14.here X14.ex rfl (hb hby at_193) k)) ?_
          show Goes _ _ _ _ T14 (mkF m 194 #[.val (.long i0), .second, .val (.long i1), .second, .val (.long i2), .second, .val (.long i3), .second, .val (.int i4), .val (.long x), .second, .val (.long y), .second, .val (.long z), .second, s15, s16, .val (.int (1 : Int32)), .val (.ref b13), .val (.int sel), .unset, .unset, .val (.int (sel / (3 : Int32))), .unset, .unset] [(.int (1 : Int32)), (.int (sel / (3 : Int32)))])
          refine Goes.icmp (pc' := 202) X14.here X14.ex (hb hby at_194) (by decide) (by decide) (fun hc194 => ?_) (fun hc194 => ?_)
          · have hc194 : ¬ ((sel / (3 : Int32)) = (1 : Int32)) := hc194
            show Goes _ _ _ _ T14 (mkF m 202 #[.val (.long i0), .second, .val (.long i1), .second, .val (.long i2), .second, .val (.long i3), .second, .val (.int i4), .val (.long x), .second, .val (.long y), .second, .val (.long z), .second, s15, s16, .val (.int (1 : Int32)), .val (.ref b13), .val (.int sel), .unset, .unset, .val (.int (sel / (3 : Int32))), .unset, .unset] [])
            refine Goes.go (fun _ k => XS.lload X14.here X14.ex rfl (hb hby at_202) rfl (XS.lstore X14.here X14.ex rfl (hb hby at_204) rfl (l' := #[.val (.long i0), .second, .val (.long i1), .second, .val (.long i2), .second, .val (.long i3), .second, .val (.int i4), .val (.long x), .second, .val (.long y), .second, .val (.long z), .second, s15, s16, .val (.int (1 : Int32)), .val (.ref b13), .val (.int sel), .unset, .unset, .val (.int (sel / (3 : Int32))), .val (.long z), .second]) rfl (XS.lload X14.here X14.ex rfl (hb hby at_206) rfl (XS.iload X14.here X14.ex rfl (hb hby at_208) rfl (XS.iconst X14.here X14.ex rfl (hb hby at_210) (XS.irem X14.here X14.ex rfl (hb hby at_211) rfl (by decide) k)))))) ?_
            show Goes _ _ _ _ T14 (mkF m 212 #[.val (.long i0), .second, .val (.long i1), .second, .val (.long i2), .second, .val (.long i3), .second, .val (.int i4), .val (.long x), .second, .val (.long y), .second, .val (.long z), .second, s15, s16, .val (.int (1 : Int32)), .val (.ref b13), .val (.int sel), .unset, .unset, .val (.int (sel / (3 : Int32))), .val (.long z), .second] [(.int (sel - (sel / (3 : Int32)) * (3 : Int32))), (.long z)])
            refine Goes.go (fun _ k => XS.iconst X14.here X14.ex rfl (hb hby at_212) (XS.isub X14.here X14.ex rfl (hb hby at_213) rfl (XS.i2l X14.here X14.ex rfl (hb hby at_214) rfl (XS.ladd X14.here X14.ex rfl (hb hby at_215) rfl (XS.lstore X14.here X14.ex rfl (hb hby at_216) rfl (l' := #[.val (.long i0), .second, .val (.long i1), .second, .val (.long i2), .second, .val (.long i3), .second, .val (.int i4), .val (.long x), .second, .val (.long y), .second, .val (.long z), .second, s15, s16, .val (.int (1 : Int32)), .val (.ref b13), .val (.int sel), .val (.long (z + (((sel - (sel / (3 : Int32)) * (3 : Int32)) - (1 : Int32)).toInt64))), .second, .val (.int (sel / (3 : Int32))), .val (.long z), .second]) rfl (XS.iconst X14.here X14.ex rfl (hb hby at_218) k)))))) ?_
            show Goes _ _ _ _ T14 (mkF m 219 #[.val (.long i0), .second, .val (.long i1), .second, .val (.long i2), .second, .val (.long i3), .second, .val (.int i4), .val (.long x), .second, .val (.long y), .second, .val (.long z), .second, s15, s16, .val (.int (1 : Int32)), .val (.ref b13), .val (.int sel), .val (.long (z + (((sel - (sel / (3 : Int32)) * (3 : Int32)) - (1 : Int32)).toInt64))), .second, .val (.int (sel / (3 : Int32))), .val (.long z), .second] [(.int (0 : Int32))])
            refine Goes.go (fun _ k => XS.istore X14.here X14.ex rfl (hb hby at_219) rfl (l' := #[.val (.long i0), .second, .val (.long i1), .second, .val (.long i2), .second, .val (.long i3), .second, .val (.int i4), .val (.long x), .second, .val (.long y), .second, .val (.long z), .second, s15, s16, .val (.int (1 : Int32)), .val (.ref b13), .val (.int sel), .val (.long (z + (((sel - (sel / (3 : Int32)) * (3 : Int32)) - (1 : Int32)).toInt64))), .second, .val (.int (0 : Int32)), .val (.long z), .second]) rfl k) ?_
            show Goes _ _ _ _ T14 (mkF m 221 #[.val (.long i0), .second, .val (.long i1), .second, .val (.long i2), .second, .val (.long i3), .second, .val (.int i4), .val (.long x), .second, .val (.long y), .second, .val (.long z), .second, s15, s16, .val (.int (1 : Int32)), .val (.ref b13), .val (.int sel), .val (.long (z + (((sel - (sel / (3 : Int32)) * (3 : Int32)) - (1 : Int32)).toInt64))), .second, .val (.int (0 : Int32)), .val (.long z), .second] [])
            exact J221 T14 h14 (z + (((sel - (sel / (3 : Int32)) * (3 : Int32)) - (1 : Int32)).toInt64)) (.val (.long z)) (.second) (X14.mark.mono (by decide) (by decide)) (Or.inr ⟨_, rfl, rfl⟩) V_b13
          · have hc194 : (sel / (3 : Int32)) = (1 : Int32) := Classical.not_not.mp hc194
            show Goes _ _ _ _ T14 (mkF m 197 #[.val (.long i0), .second, .val (.long i1), .second, .val (.long i2), .second, .val (.long i3), .second, .val (.int i4), .val (.long x), .second, .val (.long y), .second, .val (.long z), .second, s15, s16, .val (.int (1 : Int32)), .val (.ref b13), .val (.int sel), .unset, .unset, .val (.int (sel / (3 : Int32))), .unset, .unset] [])
            refine Goes.go (fun _ k => XS.lload X14.here X14.ex rfl (hb hby at_197) rfl (XS.goto X14.here X14.ex rfl (pc0 := 199) (pc' := 204) rfl (hb hby at_199) (by decide) (by decide) (XS.lstore X14.here X14.ex rfl (hb hby at_204) rfl (l' := #[.val (.long i0), .second, .val (.long i1), .second, .val (.long i2), .second, .val (.long i3), .second, .val (.int i4), .val (.long x), .second, .val (.long y), .second, .val (.long z), .second, s15, s16, .val (.int (1 : Int32)), .val (.ref b13), .val (.int sel), .unset, .unset, .val (.int (sel / (3 : Int32))), .val (.long y), .second]) rfl (XS.lload X14.here X14.ex rfl (hb hby at_206) rfl (XS.iload X14.here X14.ex rfl (hb hby at_208) rfl (XS.iconst X14.here X14.ex rfl (hb hby at_210) k)))))) ?_
            show Goes _ _ _ _ T14 (mkF m 211 #[.val (.long i0), .second, .val (.long i1), .second, .val (.long i2), .second, .val (.long i3), .second, .val (.int i4), .val (.long x), .second, .val (.long y), .second, .val (.long z), .second, s15, s16, .val (.int (1 : Int32)), .val (.ref b13), .val (.int sel), .unset, .unset, .val (.int (sel / (3 : Int32))), .val (.long y), .second] [(.int (3 : Int32)), (.int sel), (.long y)])
            refine Goes.go (fun _ k => XS.irem X14.here X14.ex rfl (hb hby at_211) rfl (by decide) (XS.iconst X14.here X14.ex rfl (hb hby at_212) (XS.isub X14.here X14.ex rfl (hb hby at_213) rfl (XS.i2l X14.here X14.ex rfl (hb hby at_214) rfl (XS.ladd X14.here X14.ex rfl (hb hby at_215) rfl (XS.lstore X14.here X14.ex rfl (hb hby at_216) rfl (l' := #[.val (.long i0), .second, .val (.long i1), .second, .val (.long i2), .second, .val (.long i3), .second, .val (.int i4), .val (.long x), .second, .val (.long y), .second, .val (.long z), .second, s15, s16, .val (.int (1 : Int32)), .val (.ref b13), .val (.int sel), .val (.long (y + (((sel - (sel / (3 : Int32)) * (3 : Int32)) - (1 : Int32)).toInt64))), .second, .val (.int (sel / (3 : Int32))), .val (.long y), .second]) rfl k)))))) ?_
            show Goes _ _ _ _ T14 (mkF m 218 #[.val (.long i0), .second, .val (.long i1), .second, .val (.long i2), .second, .val (.long i3), .second, .val (.int i4), .val (.long x), .second, .val (.long y), .second, .val (.long z), .second, s15, s16, .val (.int (1 : Int32)), .val (.ref b13), .val (.int sel), .val (.long (y + (((sel - (sel / (3 : Int32)) * (3 : Int32)) - (1 : Int32)).toInt64))), .second, .val (.int (sel / (3 : Int32))), .val (.long y), .second] [])
            refine Goes.go (fun _ k => XS.iconst X14.here X14.ex rfl (hb hby at_218) (XS.istore X14.here X14.ex rfl (hb hby at_219) rfl (l' := #[.val (.long i0), .second, .val (.long i1), .second, .val (.long i2), .second, .val (.long i3), .second, .val (.int i4), .val (.long x), .second, .val (.long y), .second, .val (.long z), .second, s15, s16, .val (.int (1 : Int32)), .val (.ref b13), .val (.int sel), .val (.long (y + (((sel - (sel / (3 : Int32)) * (3 : Int32)) - (1 : Int32)).toInt64))), .second, .val (.int (0 : Int32)), .val (.long y), .second]) rfl k)) ?_
            show Goes _ _ _ _ T14 (mkF m 221 #[.val (.long i0), .second, .val (.long i1), .second, .val (.long i2), .second, .val (.long i3), .second, .val (.int i4), .val (.long x), .second, .val (.long y), .second, .val (.long z), .second, s15, s16, .val (.int (1 : Int32)), .val (.ref b13), .val (.int sel), .val (.long (y + (((sel - (sel / (3 : Int32)) * (3 : Int32)) - (1 : Int32)).toInt64))), .second, .val (.int (0 : Int32)), .val (.long y), .second] [])
            exact J221 T14 h14 (y + (((sel - (sel / (3 : Int32)) * (3 : Int32)) - (1 : Int32)).toInt64)) (.val (.long y)) (.second) (X14.mark.mono (by decide) (by decide)) (Or.inr ⟨_, rfl, rfl⟩) V_b13
        · have hc183 : (sel / (3 : Int32)) = (0 : Int32) := Classical.not_not.mp hc183
          show Goes _ _ _ _ T14 (mkF m 186 #[.val (.long i0), .second, .val (.long i1), .second, .val (.long i2), .second, .val (.long i3), .second, .val (.int i4), .val (.long x), .second, .val (.long y), .second, .val (.long z), .second, s15, s16, .val (.int (1 : Int32)), .val (.ref b13), .val (.int sel), .unset, .unset, .val (.int (sel / (3 : Int32))), .unset, .unset] [])
          refine Goes.go (fun _ k => XS.lload X14.here X14.ex rfl (hb hby at_186) rfl (XS.goto X14.here X14.ex rfl (pc0 := 188) (pc' := 204) rfl (hb hby at_188) (by decide) (by decide) (XS.lstore X14.here X14.ex rfl (hb hby at_204) rfl (l' := #[.val (.long i0), .second, .val (.long i1), .second, .val (.long i2), .second, .val (.long i3), .second, .val (.int i4), .val (.long x), .second, .val (.long y), .second, .val (.long z), .second, s15, s16, .val (.int (1 : Int32)), .val (.ref b13), .val (.int sel), .unset, .unset, .val (.int (sel / (3 : Int32))), .val (.long x), .second]) rfl (XS.lload X14.here X14.ex rfl (hb hby at_206) rfl (XS.iload X14.here X14.ex rfl (hb hby at_208) rfl (XS.iconst X14.here X14.ex rfl (hb hby at_210) k)))))) ?_
          show Goes _ _ _ _ T14 (mkF m 211 #[.val (.long i0), .second, .val (.long i1), .second, .val (.long i2), .second, .val (.long i3), .second, .val (.int i4), .val (.long x), .second, .val (.long y), .second, .val (.long z), .second, s15, s16, .val (.int (1 : Int32)), .val (.ref b13), .val (.int sel), .unset, .unset, .val (.int (sel / (3 : Int32))), .val (.long x), .second] [(.int (3 : Int32)), (.int sel), (.long x)])
          refine Goes.go (fun _ k => XS.irem X14.here X14.ex rfl (hb hby at_211) rfl (by decide) (XS.iconst X14.here X14.ex rfl (hb hby at_212) (XS.isub X14.here X14.ex rfl (hb hby at_213) rfl (XS.i2l X14.here X14.ex rfl (hb hby at_214) rfl (XS.ladd X14.here X14.ex rfl (hb hby at_215) rfl (XS.lstore X14.here X14.ex rfl (hb hby at_216) rfl (l' := #[.val (.long i0), .second, .val (.long i1), .second, .val (.long i2), .second, .val (.long i3), .second, .val (.int i4), .val (.long x), .second, .val (.long y), .second, .val (.long z), .second, s15, s16, .val (.int (1 : Int32)), .val (.ref b13), .val (.int sel), .val (.long (x + (((sel - (sel / (3 : Int32)) * (3 : Int32)) - (1 : Int32)).toInt64))), .second, .val (.int (sel / (3 : Int32))), .val (.long x), .second]) rfl k)))))) ?_
          show Goes _ _ _ _ T14 (mkF m 218 #[.val (.long i0), .second, .val (.long i1), .second, .val (.long i2), .second, .val (.long i3), .second, .val (.int i4), .val (.long x), .second, .val (.long y), .second, .val (.long z), .second, s15, s16, .val (.int (1 : Int32)), .val (.ref b13), .val (.int sel), .val (.long (x + (((sel - (sel / (3 : Int32)) * (3 : Int32)) - (1 : Int32)).toInt64))), .second, .val (.int (sel / (3 : Int32))), .val (.long x), .second] [])
          refine Goes.go (fun _ k => XS.iconst X14.here X14.ex rfl (hb hby at_218) (XS.istore X14.here X14.ex rfl (hb hby at_219) rfl (l' := #[.val (.long i0), .second, .val (.long i1), .second, .val (.long i2), .second, .val (.long i3), .second, .val (.int i4), .val (.long x), .second, .val (.long y), .second, .val (.long z), .second, s15, s16, .val (.int (1 : Int32)), .val (.ref b13), .val (.int sel), .val (.long (x + (((sel - (sel / (3 : Int32)) * (3 : Int32)) - (1 : Int32)).toInt64))), .second, .val (.int (0 : Int32)), .val (.long x), .second]) rfl k)) ?_
          show Goes _ _ _ _ T14 (mkF m 221 #[.val (.long i0), .second, .val (.long i1), .second, .val (.long i2), .second, .val (.long i3), .second, .val (.int i4), .val (.long x), .second, .val (.long y), .second, .val (.long z), .second, s15, s16, .val (.int (1 : Int32)), .val (.ref b13), .val (.int sel), .val (.long (x + (((sel - (sel / (3 : Int32)) * (3 : Int32)) - (1 : Int32)).toInt64))), .second, .val (.int (0 : Int32)), .val (.long x), .second] [])
          exact J221 T14 h14 (x + (((sel - (sel / (3 : Int32)) * (3 : Int32)) - (1 : Int32)).toInt64)) (.val (.long x)) (.second) (X14.mark.mono (by decide) (by decide)) (Or.inr ⟨_, rfl, rfl⟩) V_b13
      · have hc165 : sel = (9 : Int32) := Classical.not_not.mp hc165
        show Goes _ _ _ _ T14 (mkF m 168 #[.val (.long i0), .second, .val (.long i1), .second, .val (.long i2), .second, .val (.long i3), .second, .val (.int i4), .val (.long x), .second, .val (.long y), .second, .val (.long z), .second, s15, s16, .val (.int (1 : Int32)), .val (.ref b13), .val (.int sel), .unset, .unset, .unset, .unset, .unset] [])
        refine Goes.go (fun _ k => XS.lload X14.here X14.ex rfl (hb hby at_168) rfl (XS.lstore X14.here X14.ex rfl (hb hby at_170) rfl (l' := #[.val (.long i0), .second, .val (.long i1), .second, .val (.long i2), .second, .val (.long i3), .second, .val (.int i4), .val (.long x), .second, .val (.long y), .second, .val (.long z), .second, s15, s16, .val (.int (1 : Int32)), .val (.ref b13), .val (.int sel), .val (.long i3), .second, .unset, .unset, .unset]) rfl (XS.goto X14.here X14.ex rfl (pc0 := 172) (pc' := 218) rfl (hb hby at_172) (by decide) (by decide) (XS.iconst X14.here X14.ex rfl (hb hby at_218) (XS.istore X14.here X14.ex rfl (hb hby at_219) rfl (l' := #[.val (.long i0), .second, .val (.long i1), .second, .val (.long i2), .second, .val (.long i3), .second, .val (.int i4), .val (.long x), .second, .val (.long y), .second, .val (.long z), .second, s15, s16, .val (.int (1 : Int32)), .val (.ref b13), .val (.int sel), .val (.long i3), .second, .val (.int (0 : Int32)), .unset, .unset]) rfl k))))) ?_
        show Goes _ _ _ _ T14 (mkF m 221 #[.val (.long i0), .second, .val (.long i1), .second, .val (.long i2), .second, .val (.long i3), .second, .val (.int i4), .val (.long x), .second, .val (.long y), .second, .val (.long z), .second, s15, s16, .val (.int (1 : Int32)), .val (.ref b13), .val (.int sel), .val (.long i3), .second, .val (.int (0 : Int32)), .unset, .unset] [])
        exact J221 T14 h14 i3 (.unset) (.unset) (X14.mark.mono (by decide) (by decide)) (Or.inl ⟨rfl, rfl⟩) V_b13
    · show Goes _ _ _ _ Tj9 (mkF m 76 #[.val (.long i0), .second, .val (.long i1), .second, .val (.long i2), .second, .val (.long i3), .second, .val (.int i4), .val (.long x), .second, .val (.long y), .second, .val (.long z), .second, s15, s16, .val (.int (2 : Int32)), .unset, .unset, .unset, .unset, .unset, .unset, .unset] [])
      refine Goes.go (fun _ k => XS.iload Xj9.here Xj9.ex rfl (hb hby at_76) rfl (XS.iconst Xj9.here Xj9.ex rfl (hb hby at_78) (XS.icmpNo Xj9.here Xj9.ex rfl (hb hby at_79) rfl (cd_f (cd := .lt) (x := (2 : Int32)) (y := (2 : Int32)) (by decide)) (XS.lload Xj9.here Xj9.ex rfl (hb hby at_82) rfl (XS.lload Xj9.here Xj9.ex rfl (hb hby at_84) rfl (XS.lcmp Xj9.here Xj9.ex rfl (hb hby at_86) rfl k)))))) ?_
      show Goes _ _ _ _ Tj9 (mkF m 87 #[.val (.long i0), .second, .val (.long i1), .second, .val (.long i2), .second, .val (.long i3), .second, .val (.int i4), .val (.long x), .second, .val (.long y), .second, .val (.long z), .second, s15, s16, .val (.int (2 : Int32)), .unset, .unset, .unset, .unset, .unset, .unset, .unset] [(.int (lcmpW x y))])
      refine Goes.ifc (pc' := 92) Xj9.here Xj9.ex (hb hby at_87) (by decide) (by decide) (fun he1 => ?_) (fun he1 => ?_)
      · have he1 : ¬ ((lcmpW x y) = (0 : Int32)) := he1
        show Goes _ _ _ _ Tj9 (mkF m 92 #[.val (.long i0), .second, .val (.long i1), .second, .val (.long i2), .second, .val (.long i3), .second, .val (.int i4), .val (.long x), .second, .val (.long y), .second, .val (.long z), .second, s15, s16, .val (.int (2 : Int32)), .unset, .unset, .unset, .unset, .unset, .unset, .unset] [])
        rw [lw_eq] at he1
        refine Goes.go (fun _ k => XS.iload Xj9.here Xj9.ex rfl (hb hby at_92) rfl (XS.iconst Xj9.here Xj9.ex rfl (hb hby at_94) (XS.icmpYes Xj9.here Xj9.ex rfl (pc0 := 95) (pc' := 108) rfl (hb hby at_95) rfl (cd_t (cd := .lt) (x := (2 : Int32)) (y := (3 : Int32)) (by decide)) (by decide) (by decide) (XS.iload Xj9.here Xj9.ex rfl (hb hby at_108) rfl k)))) ?_
        show Goes _ _ _ _ Tj9 (mkF m 110 #[.val (.long i0), .second, .val (.long i1), .second, .val (.long i2), .second, .val (.long i3), .second, .val (.int i4), .val (.long x), .second, .val (.long y), .second, .val (.long z), .second, s15, s16, .val (.int (2 : Int32)), .unset, .unset, .unset, .unset, .unset, .unset, .unset] [(.int (2 : Int32))])
        have s1 : x < y := own_lt hxy he1
        refine Wk.newA (aty := .long) Xj9 (w_0 hw) rfl (hb hby at_110) rfl (by decide) (cap := 2) (by decide) (by decide) (by decide) (by decide) ?_
        intro T17 h17 b17 k17 g17 X17 E17 A17 B_b17
        have V_b17 : Arv Z h17 b17 k17 .long (2 : Int32) [(.long (0 : Int64)), (.long (0 : Int64))] (.long (0 : Int64)) := A17.pad (pad_rep [] (.long (0 : Int64)) 2)
        have gz_b17 : Z.heap.size ≤ b17 := g17 ▸ Xj9.old.1
        have gm_b17 : hj9.size ≤ b17 := g17 ▸ Xj9.ext.1
        show Goes _ _ _ _ T17 (mkF m 112 #[.val (.long i0), .second, .val (.long i1), .second, .val (.long i2), .second, .val (.long i3), .second, .val (.int i4), .val (.long x), .second, .val (.long y), .second, .val (.long z), .second, s15, s16, .val (.int (2 : Int32)), .unset, .unset, .unset, .unset, .unset, .unset, .unset] [(.ref b17)])
        refine Goes.go (fun _ k => XS.astore X17.here X17.ex rfl (hb hby at_112) rfl rfl (l' := #[.val (.long i0), .second, .val (.long i1), .second, .val (.long i2), .second, .val (.long i3), .second, .val (.int i4), .val (.long x), .second, .val (.long y), .second, .val (.long z), .second, s15, s16, .val (.int (2 : Int32)), .val (.ref b17), .unset, .unset, .unset, .unset, .unset, .unset]) rfl (XS.iload X17.here X17.ex rfl (hb hby at_114) rfl (XS.ifNo X17.here X17.ex rfl (hb hby at_116) rfl ((if0 _ _).trans (cd_f (cd := .le) (x := (2 : Int32)) (y := (0 : Int32)) (by decide))) (XS.aload X17.here X17.ex rfl (hb hby at_119) rfl rfl (XS.iconst X17.here X17.ex rfl (hb hby at_121) (XS.lload X17.here X17.ex rfl (hb hby at_122) rfl k)))))) ?_
        show Goes _ _ _ _ T17 (mkF m 124 #[.val (.long i0), .second, .val (.long i1), .second, .val (.long i2), .second, .val (.long i3), .second, .val (.int i4), .val (.long x), .second, .val (.long y), .second, .val (.long z), .second, s15, s16, .val (.int (2 : Int32)), .val (.ref b17), .unset, .unset, .unset, .unset, .unset, .unset] [(.long x), (.int (0 : Int32)), (.ref b17)])
        refine Wk.lastore (hm' := fun _ => hj9) X17 V_b17 ⟨by decide, by decide⟩ (i := 0) rfl (Nat.le_of_ble_eq_true rfl) gz_b17 (fun _ => Mark.stay (allS gm_b17 all0)) rfl rfl (hb hby at_124) ?_
        intro T18 h18 X18 W18 V18
        clear V_b17; have V_b17 : Arv Z h18 b17 _ .long (2 : Int32) [(.long x), (.long (0 : Int64))] (.long (0 : Int64)) := V18
        show Goes _ _ _ _ T18 (mkF m 125 #[.val (.long i0), .second, .val (.long i1), .second, .val (.long i2), .second, .val (.long i3), .second, .val (.int i4), .val (.long x), .second, .val (.long y), .second, .val (.long z), .second, s15, s16, .val (.int (2 : Int32)), .val (.ref b17), .unset, .unset, .unset, .unset, .unset, .unset] [])
        refine Goes.go (fun _ k => XS.iload X18.here X18.ex rfl (hb hby at_125) rfl (XS.iconst X18.here X18.ex rfl (hb hby at_127) (XS.icmpNo X18.here X18.ex rfl (hb hby at_128) rfl (cd_f (cd := .le) (x := (2 : Int32)) (y := (1 : Int32)) (by decide)) (XS.aload X18.here X18.ex rfl (hb hby at_131) rfl rfl (XS.iconst X18.here X18.ex rfl (hb hby at_133) (XS.lload X18.here X18.ex rfl (hb hby at_134) rfl k)))))) ?_
        show Goes _ _ _ _ T18 (mkF m 136 #[.val (.long i0), .second, .val (.long i1), .second, .val (.long i2), .second, .val (.long i3), .second, .val (.int i4), .val (.long x), .second, .val (.long y), .second, .val (.long z), .second, s15, s16, .val (.int (2 : Int32)), .val (.ref b17), .unset, .unset, .unset, .unset, .unset, .unset] [(.long y), (.int (1 : Int32)), (.ref b17)])
        refine Wk.lastore (hm' := fun _ => hj9) X18 V_b17 ⟨by decide, by decide⟩ (i := 1) rfl (Nat.le_of_ble_eq_true rfl) gz_b17 (fun _ => Mark.stay (allS gm_b17 all0)) rfl rfl (hb hby at_136) ?_
        intro T19 h19 X19 W19 V19
        clear V_b17; have V_b17 : Arv Z h19 b17 _ .long (2 : Int32) [(.long x), (.long y)] (.long (0 : Int64)) := V19
        show Goes _ _ _ _ T19 (mkF m 137 #[.val (.long i0), .second, .val (.long i1), .second, .val (.long i2), .second, .val (.long i3), .second, .val (.int i4), .val (.long x), .second, .val (.long y), .second, .val (.long z), .second, s15, s16, .val (.int (2 : Int32)), .val (.ref b17), .unset, .unset, .unset, .unset, .unset, .unset] [])
        refine Goes.go (fun _ k => XS.iload X19.here X19.ex rfl (hb hby at_137) rfl (XS.iconst X19.here X19.ex rfl (hb hby at_139) (XS.icmpYes X19.here X19.ex rfl (pc0 := 140) (pc' := 149) rfl (hb hby at_140) rfl (cd_t (cd := .le) (x := (2 : Int32)) (y := (2 : Int32)) (by decide)) (by decide) (by decide) (XS.iload X19.here X19.ex rfl (hb hby at_149) rfl (XS.iconst X19.here X19.ex rfl (hb hby at_151) (XS.iushr X19.here X19.ex rfl (hb hby at_152) rfl k)))))) ?_
        show Goes _ _ _ _ T19 (mkF m 153 #[.val (.long i0), .second, .val (.long i1), .second, .val (.long i2), .second, .val (.long i3), .second, .val (.int i4), .val (.long x), .second, .val (.long y), .second, .val (.long z), .second, s15, s16, .val (.int (2 : Int32)), .val (.ref b17), .unset, .unset, .unset, .unset, .unset, .unset] [(.int ((i4.toUInt32 >>> ((2 : Int32) &&& 31).toUInt32).toInt32))])
        refine Goes.go (X19.ldcI (w_1 hw) rfl (hb hby at_153)) ?_
        show Goes _ _ _ _ T19 (mkF m 155 #[.val (.long i0), .second, .val (.long i1), .second, .val (.long i2), .second, .val (.long i3), .second, .val (.int i4), .val (.long x), .second, .val (.long y), .second, .val (.long z), .second, s15, s16, .val (.int (2 : Int32)), .val (.ref b17), .unset, .unset, .unset, .unset, .unset, .unset] [(.int (65535 : Int32)), (.int ((i4.toUInt32 >>> ((2 : Int32) &&& 31).toUInt32).toInt32))])
        refine Goes.go (fun _ k => XS.iand X19.here X19.ex rfl (hb hby at_155) rfl (XS.bipush X19.here X19.ex rfl (hb hby at_156) (XS.irem X19.here X19.ex rfl (hb hby at_158) rfl (by decide) (XS.istore X19.here X19.ex rfl (hb hby at_159) rfl (l' := #[.val (.long i0), .second, .val (.long i1), .second, .val (.long i2), .second, .val (.long i3), .second, .val (.int i4), .val (.long x), .second, .val (.long y), .second, .val (.long z), .second, s15, s16, .val (.int (2 : Int32)), .val (.ref b17), .val (.int ((((i4.toUInt32 >>> ((2 : Int32) &&& 31).toUInt32).toInt32) &&& (65535 : Int32)) - ((((i4.toUInt32 >>> ((2 : Int32) &&& 31).toUInt32).toInt32) &&& (65535 : Int32)) / (10 : Int32)) * (10 : Int32))), .unset, .unset, .unset, .unset, .unset]) rfl k)))) ?_
        show Goes _ _ _ _ T19 (mkF m 161 #[.val (.long i0), .second, .val (.long i1), .second, .val (.long i2), .second, .val (.long i3), .second, .val (.int i4), .val (.long x), .second, .val (.long y), .second, .val (.long z), .second, s15, s16, .val (.int (2 : Int32)), .val (.ref b17), .val (.int ((((i4.toUInt32 >>> ((2 : Int32) &&& 31).toUInt32).toInt32) &&& (65535 : Int32)) - ((((i4.toUInt32 >>> ((2 : Int32) &&& 31).toUInt32).toInt32) &&& (65535 : Int32)) / (10 : Int32)) * (10 : Int32))), .unset, .unset, .unset, .unset, .unset] [])
        obtain ⟨sel, hsel⟩ : ∃ z : Int32, z = ((((i4.toUInt32 >>> ((2 : Int32) &&& 31).toUInt32).toInt32) &&& (65535 : Int32)) - ((((i4.toUInt32 >>> ((2 : Int32) &&& 31).toUInt32).toInt32) &&& (65535 : Int32)) / (10 : Int32)) * (10 : Int32)) := ⟨_, rfl⟩
        refine Goes.cast (show (mkF m 161 #[.val (.long i0), .second, .val (.long i1), .second, .val (.long i2), .second, .val (.long i3), .second, .val (.int i4), .val (.long x), .second, .val (.long y), .second, .val (.long z), .second, s15, s16, .val (.int (2 : Int32)), .val (.ref b17), .val (.int ((((i4.toUInt32 >>> ((2 : Int32) &&& 31).toUInt32).toInt32) &&& (65535 : Int32)) - ((((i4.toUInt32 >>> ((2 : Int32) &&& 31).toUInt32).toInt32) &&& (65535 : Int32)) / (10 : Int32)) * (10 : Int32))), .unset, .unset, .unset, .unset, .unset] []) = (mkF m 161 #[.val (.long i0), .second, .val (.long i1), .second, .val (.long i2), .second, .val (.long i3), .second, .val (.int i4), .val (.long x), .second, .val (.long y), .second, .val (.long z), .second, s15, s16, .val (.int (2 : Int32)), .val (.ref b17), .val (.int sel), .unset, .unset, .unset, .unset, .unset] []) from by rw [hsel]) ?_
        show Goes _ _ _ _ T19 (mkF m 161 #[.val (.long i0), .second, .val (.long i1), .second, .val (.long i2), .second, .val (.long i3), .second, .val (.int i4), .val (.long x), .second, .val (.long y), .second, .val (.long z), .second, s15, s16, .val (.int (2 : Int32)), .val (.ref b17), .val (.int sel), .unset, .unset, .unset, .unset, .unset] [])
        have J221 : ∀ (Tj20 : State) (hj20 : Heap) (nb : Int64) (s23 : Slot) (s24 : Slot), Wk True p l e room_1 s m #[(.long i0), (.long i1), (.long i2), (.long i3), (.int i4)] below meth c Z "com/example/assent/assent/log/CrashSetInsertionPointPinLaw" [] hj20 Tj20 hj20 1 2 → ((s23 = .unset ∧ s24 = .unset) ∨ ∃ bb : Int64, s23 = .val (.long bb) ∧ s24 = .second) → (Arv Z hj20 b17 k17 .long (2 : Int32) [(.long x), (.long y)] (.long (0 : Int64))) → Goes p.tables e below (EndN Z s room_1.cells room_1.slots (fun v h' => v = some (.int (1 : Int32)))) Tj20 (mkF m 221 #[.val (.long i0), .second, .val (.long i1), .second, .val (.long i2), .second, .val (.long i3), .second, .val (.int i4), .val (.long x), .second, .val (.long y), .second, .val (.long z), .second, s15, s16, .val (.int (2 : Int32)), .val (.ref b17), .val (.int sel), .val (.long nb), .second, .val (.int (0 : Int32)), s23, s24] []) := by
          intro Tj20 hj20 nb s23 s24 Xj20 hs V
          suffices hJ221 : Goes p.tables e below (EndN Z s room_1.cells room_1.slots (fun v h' => v = some (.int (1 : Int32)))) Tj20 (mkF m 271 #[.val (.long i0), .second, .val (.long i1), .second, .val (.long i2), .second, .val (.long i3), .second, .val (.int i4), .val (.long x), .second, .val (.long y), .second, .val (.long z), .second, s15, s16, .val (.int (2 : Int32)), .val (.ref b17), .val (.int sel), .val (.long nb), .second, .val (.int (if (lcmpW x nb) < (0 : Int32) then (if (lcmpW y nb) < (0 : Int32) then (2 : Int32) else (1 : Int32)) else (if (lcmpW y nb) < (0 : Int32) then (1 : Int32) else (0 : Int32)))), s23, s24] []) by
            refine Goes.go (fun _ k => XS.iload Xj20.here Xj20.ex rfl (hb hby at_221) rfl (XS.ifNo Xj20.here Xj20.ex rfl (hb hby at_223) rfl ((if0 _ _).trans (cd_f (cd := .le) (x := (2 : Int32)) (y := (0 : Int32)) (by decide))) (XS.lload Xj20.here Xj20.ex rfl (hb hby at_226) rfl (XS.lload Xj20.here Xj20.ex rfl (hb hby at_228) rfl (XS.lcmp Xj20.here Xj20.ex rfl (hb hby at_230) rfl k))))) ?_
            show Goes _ _ _ _ Tj20 (mkF m 231 #[.val (.long i0), .second, .val (.long i1), .second, .val (.long i2), .second, .val (.long i3), .second, .val (.int i4), .val (.long x), .second, .val (.long y), .second, .val (.long z), .second, s15, s16, .val (.int (2 : Int32)), .val (.ref b17), .val (.int sel), .val (.long nb), .second, .val (.int (0 : Int32)), s23, s24] [(.int (lcmpW x nb))])
            refine Goes.ifc (pc' := 237) Xj20.here Xj20.ex (hb hby at_231) (by decide) (by decide) (fun hr1 => ?_) (fun hr1 => ?_)
            · have hr1 : ¬ ((lcmpW x nb) < (0 : Int32)) := hr1
              show Goes _ _ _ _ Tj20 (mkF m 237 #[.val (.long i0), .second, .val (.long i1), .second, .val (.long i2), .second, .val (.long i3), .second, .val (.int i4), .val (.long x), .second, .val (.long y), .second, .val (.long z), .second, s15, s16, .val (.int (2 : Int32)), .val (.ref b17), .val (.int sel), .val (.long nb), .second, .val (.int (0 : Int32)), s23, s24] [])
              refine Goes.go (fun _ k => XS.iload Xj20.here Xj20.ex rfl (hb hby at_237) rfl (XS.iconst Xj20.here Xj20.ex rfl (hb hby at_239) (XS.icmpNo Xj20.here Xj20.ex rfl (hb hby at_240) rfl (cd_f (cd := .le) (x := (2 : Int32)) (y := (1 : Int32)) (by decide)) (XS.lload Xj20.here Xj20.ex rfl (hb hby at_243) rfl (XS.lload Xj20.here Xj20.ex rfl (hb hby at_245) rfl (XS.lcmp Xj20.here Xj20.ex rfl (hb hby at_247) rfl k)))))) ?_
              show Goes _ _ _ _ Tj20 (mkF m 248 #[.val (.long i0), .second, .val (.long i1), .second, .val (.long i2), .second, .val (.long i3), .second, .val (.int i4), .val (.long x), .second, .val (.long y), .second, .val (.long z), .second, s15, s16, .val (.int (2 : Int32)), .val (.ref b17), .val (.int sel), .val (.long nb), .second, .val (.int (0 : Int32)), s23, s24] [(.int (lcmpW y nb))])
              refine Goes.ifc (pc' := 254) Xj20.here Xj20.ex (hb hby at_248) (by decide) (by decide) (fun hr2 => ?_) (fun hr2 => ?_)
              · have hr2 : ¬ ((lcmpW y nb) < (0 : Int32)) := hr2
                show Goes _ _ _ _ Tj20 (mkF m 254 #[.val (.long i0), .second, .val (.long i1), .second, .val (.long i2), .second, .val (.long i3), .second, .val (.int i4), .val (.long x), .second, .val (.long y), .second, .val (.long z), .second, s15, s16, .val (.int (2 : Int32)), .val (.ref b17), .val (.int sel), .val (.long nb), .second, .val (.int (0 : Int32)), s23, s24] [])
                refine Goes.go (fun _ k => XS.iload Xj20.here Xj20.ex rfl (hb hby at_254) rfl (XS.iconst Xj20.here Xj20.ex rfl (hb hby at_256) (XS.icmpYes Xj20.here Xj20.ex rfl (pc0 := 257) (pc' := 271) rfl (hb hby at_257) rfl (cd_t (cd := .le) (x := (2 : Int32)) (y := (2 : Int32)) (by decide)) (by decide) (by decide) k))) ?_
                show Goes _ _ _ _ Tj20 (mkF m 271 #[.val (.long i0), .second, .val (.long i1), .second, .val (.long i2), .second, .val (.long i3), .second, .val (.int i4), .val (.long x), .second, .val (.long y), .second, .val (.long z), .second, s15, s16, .val (.int (2 : Int32)), .val (.ref b17), .val (.int sel), .val (.long nb), .second, .val (.int (0 : Int32)), s23, s24] [])
                (try simp only [if_neg hr1, if_neg hr2] at hJ221 ⊢)
                exact hJ221
              · have hr2 : (lcmpW y nb) < (0 : Int32) := Classical.not_not.mp hr2
                show Goes _ _ _ _ Tj20 (mkF m 251 #[.val (.long i0), .second, .val (.long i1), .second, .val (.long i2), .second, .val (.long i3), .second, .val (.int i4), .val (.long x), .second, .val (.long y), .second, .val (.long z), .second, s15, s16, .val (.int (2 : Int32)), .val (.ref b17), .val (.int sel), .val (.long nb), .second, .val (.int (0 : Int32)), s23, s24] [])
                refine Goes.go (fun _ k => XS.iinc Xj20.here Xj20.ex rfl (hb hby at_251) rfl (l' := #[.val (.long i0), .second, .val (.long i1), .second, .val (.long i2), .second, .val (.long i3), .second, .val (.int i4), .val (.long x), .second, .val (.long y), .second, .val (.long z), .second, s15, s16, .val (.int (2 : Int32)), .val (.ref b17), .val (.int sel), .val (.long nb), .second, .val (.int ((0 : Int32) + (1 : Int32))), s23, s24]) rfl k) ?_
                show Goes _ _ _ _ Tj20 (mkF m 254 #[.val (.long i0), .second, .val (.long i1), .second, .val (.long i2), .second, .val (.long i3), .second, .val (.int i4), .val (.long x), .second, .val (.long y), .second, .val (.long z), .second, s15, s16, .val (.int (2 : Int32)), .val (.ref b17), .val (.int sel), .val (.long nb), .second, .val (.int ((0 : Int32) + (1 : Int32))), s23, s24] [])
                refine Goes.cast (congrArg (fun zq_ => (mkF m 254 #[.val (.long i0), .second, .val (.long i1), .second, .val (.long i2), .second, .val (.long i3), .second, .val (.int i4), .val (.long x), .second, .val (.long y), .second, .val (.long z), .second, s15, s16, .val (.int (2 : Int32)), .val (.ref b17), .val (.int sel), .val (.long nb), .second, .val (.int zq_), s23, s24] [])) (show (((0 : Int32) + (1 : Int32)) : Int32) = (1 : Int32) from by decide)) ?_
                show Goes _ _ _ _ Tj20 (mkF m 254 #[.val (.long i0), .second, .val (.long i1), .second, .val (.long i2), .second, .val (.long i3), .second, .val (.int i4), .val (.long x), .second, .val (.long y), .second, .val (.long z), .second, s15, s16, .val (.int (2 : Int32)), .val (.ref b17), .val (.int sel), .val (.long nb), .second, .val (.int (1 : Int32)), s23, s24] [])
                refine Goes.go (fun _ k => XS.iload Xj20.here Xj20.ex rfl (hb hby at_254) rfl (XS.iconst Xj20.here Xj20.ex rfl (hb hby at_256) (XS.icmpYes Xj20.here Xj20.ex rfl (pc0 := 257) (pc' := 271) rfl (hb hby at_257) rfl (cd_t (cd := .le) (x := (2 : Int32)) (y := (2 : Int32)) (by decide)) (by decide) (by decide) k))) ?_
                show Goes _ _ _ _ Tj20 (mkF m 271 #[.val (.long i0), .second, .val (.long i1), .second, .val (.long i2), .second, .val (.long i3), .second, .val (.int i4), .val (.long x), .second, .val (.long y), .second, .val (.long z), .second, s15, s16, .val (.int (2 : Int32)), .val (.ref b17), .val (.int sel), .val (.long nb), .second, .val (.int (1 : Int32)), s23, s24] [])
                (try simp only [if_neg hr1, if_pos hr2] at hJ221 ⊢)
                exact hJ221
            · have hr1 : (lcmpW x nb) < (0 : Int32) := Classical.not_not.mp hr1
              show Goes _ _ _ _ Tj20 (mkF m 234 #[.val (.long i0), .second, .val (.long i1), .second, .val (.long i2), .second, .val (.long i3), .second, .val (.int i4), .val (.long x), .second, .val (.long y), .second, .val (.long z), .second, s15, s16, .val (.int (2 : Int32)), .val (.ref b17), .val (.int sel), .val (.long nb), .second, .val (.int (0 : Int32)), s23, s24] [])
              refine Goes.go (fun _ k => XS.iinc Xj20.here Xj20.ex rfl (hb hby at_234) rfl (l' := #[.val (.long i0), .second, .val (.long i1), .second, .val (.long i2), .second, .val (.long i3), .second, .val (.int i4), .val (.long x), .second, .val (.long y), .second, .val (.long z), .second, s15, s16, .val (.int (2 : Int32)), .val (.ref b17), .val (.int sel), .val (.long nb), .second, .val (.int ((0 : Int32) + (1 : Int32))), s23, s24]) rfl k) ?_
              show Goes _ _ _ _ Tj20 (mkF m 237 #[.val (.long i0), .second, .val (.long i1), .second, .val (.long i2), .second, .val (.long i3), .second, .val (.int i4), .val (.long x), .second, .val (.long y), .second, .val (.long z), .second, s15, s16, .val (.int (2 : Int32)), .val (.ref b17), .val (.int sel), .val (.long nb), .second, .val (.int ((0 : Int32) + (1 : Int32))), s23, s24] [])
              refine Goes.cast (congrArg (fun zq_ => (mkF m 237 #[.val (.long i0), .second, .val (.long i1), .second, .val (.long i2), .second, .val (.long i3), .second, .val (.int i4), .val (.long x), .second, .val (.long y), .second, .val (.long z), .second, s15, s16, .val (.int (2 : Int32)), .val (.ref b17), .val (.int sel), .val (.long nb), .second, .val (.int zq_), s23, s24] [])) (show (((0 : Int32) + (1 : Int32)) : Int32) = (1 : Int32) from by decide)) ?_
              show Goes _ _ _ _ Tj20 (mkF m 237 #[.val (.long i0), .second, .val (.long i1), .second, .val (.long i2), .second, .val (.long i3), .second, .val (.int i4), .val (.long x), .second, .val (.long y), .second, .val (.long z), .second, s15, s16, .val (.int (2 : Int32)), .val (.ref b17), .val (.int sel), .val (.long nb), .second, .val (.int (1 : Int32)), s23, s24] [])
              refine Goes.go (fun _ k => XS.iload Xj20.here Xj20.ex rfl (hb hby at_237) rfl (XS.iconst Xj20.here Xj20.ex rfl (hb hby at_239) (XS.icmpNo Xj20.here Xj20.ex rfl (hb hby at_240) rfl (cd_f (cd := .le) (x := (2 : Int32)) (y := (1 : Int32)) (by decide)) (XS.lload Xj20.here Xj20.ex rfl (hb hby at_243) rfl (XS.lload Xj20.here Xj20.ex rfl (hb hby at_245) rfl (XS.lcmp Xj20.here Xj20.ex rfl (hb hby at_247) rfl k)))))) ?_
              show Goes _ _ _ _ Tj20 (mkF m 248 #[.val (.long i0), .second, .val (.long i1), .second, .val (.long i2), .second, .val (.long i3), .second, .val (.int i4), .val (.long x), .second, .val (.long y), .second, .val (.long z), .second, s15, s16, .val (.int (2 : Int32)), .val (.ref b17), .val (.int sel), .val (.long nb), .second, .val (.int (1 : Int32)), s23, s24] [(.int (lcmpW y nb))])
              refine Goes.ifc (pc' := 254) Xj20.here Xj20.ex (hb hby at_248) (by decide) (by decide) (fun hr3 => ?_) (fun hr3 => ?_)
              · have hr3 : ¬ ((lcmpW y nb) < (0 : Int32)) := hr3
                show Goes _ _ _ _ Tj20 (mkF m 254 #[.val (.long i0), .second, .val (.long i1), .second, .val (.long i2), .second, .val (.long i3), .second, .val (.int i4), .val (.long x), .second, .val (.long y), .second, .val (.long z), .second, s15, s16, .val (.int (2 : Int32)), .val (.ref b17), .val (.int sel), .val (.long nb), .second, .val (.int (1 : Int32)), s23, s24] [])
                refine Goes.go (fun _ k => XS.iload Xj20.here Xj20.ex rfl (hb hby at_254) rfl (XS.iconst Xj20.here Xj20.ex rfl (hb hby at_256) (XS.icmpYes Xj20.here Xj20.ex rfl (pc0 := 257) (pc' := 271) rfl (hb hby at_257) rfl (cd_t (cd := .le) (x := (2 : Int32)) (y := (2 : Int32)) (by decide)) (by decide) (by decide) k))) ?_
                show Goes _ _ _ _ Tj20 (mkF m 271 #[.val (.long i0), .second, .val (.long i1), .second, .val (.long i2), .second, .val (.long i3), .second, .val (.int i4), .val (.long x), .second, .val (.long y), .second, .val (.long z), .second, s15, s16, .val (.int (2 : Int32)), .val (.ref b17), .val (.int sel), .val (.long nb), .second, .val (.int (1 : Int32)), s23, s24] [])
                (try simp only [if_pos hr1, if_neg hr3] at hJ221 ⊢)
                exact hJ221
              · have hr3 : (lcmpW y nb) < (0 : Int32) := Classical.not_not.mp hr3
                show Goes _ _ _ _ Tj20 (mkF m 251 #[.val (.long i0), .second, .val (.long i1), .second, .val (.long i2), .second, .val (.long i3), .second, .val (.int i4), .val (.long x), .second, .val (.long y), .second, .val (.long z), .second, s15, s16, .val (.int (2 : Int32)), .val (.ref b17), .val (.int sel), .val (.long nb), .second, .val (.int (1 : Int32)), s23, s24] [])
                refine Goes.go (fun _ k => XS.iinc Xj20.here Xj20.ex rfl (hb hby at_251) rfl (l' := #[.val (.long i0), .second, .val (.long i1), .second, .val (.long i2), .second, .val (.long i3), .second, .val (.int i4), .val (.long x), .second, .val (.long y), .second, .val (.long z), .second, s15, s16, .val (.int (2 : Int32)), .val (.ref b17), .val (.int sel), .val (.long nb), .second, .val (.int ((1 : Int32) + (1 : Int32))), s23, s24]) rfl k) ?_
                show Goes _ _ _ _ Tj20 (mkF m 254 #[.val (.long i0), .second, .val (.long i1), .second, .val (.long i2), .second, .val (.long i3), .second, .val (.int i4), .val (.long x), .second, .val (.long y), .second, .val (.long z), .second, s15, s16, .val (.int (2 : Int32)), .val (.ref b17), .val (.int sel), .val (.long nb), .second, .val (.int ((1 : Int32) + (1 : Int32))), s23, s24] [])
                refine Goes.cast (congrArg (fun zq_ => (mkF m 254 #[.val (.long i0), .second, .val (.long i1), .second, .val (.long i2), .second, .val (.long i3), .second, .val (.int i4), .val (.long x), .second, .val (.long y), .second, .val (.long z), .second, s15, s16, .val (.int (2 : Int32)), .val (.ref b17), .val (.int sel), .val (.long nb), .second, .val (.int zq_), s23, s24] [])) (show (((1 : Int32) + (1 : Int32)) : Int32) = (2 : Int32) from by decide)) ?_
                show Goes _ _ _ _ Tj20 (mkF m 254 #[.val (.long i0), .second, .val (.long i1), .second, .val (.long i2), .second, .val (.long i3), .second, .val (.int i4), .val (.long x), .second, .val (.long y), .second, .val (.long z), .second, s15, s16, .val (.int (2 : Int32)), .val (.ref b17), .val (.int sel), .val (.long nb), .second, .val (.int (2 : Int32)), s23, s24] [])
                refine Goes.go (fun _ k => XS.iload Xj20.here Xj20.ex rfl (hb hby at_254) rfl (XS.iconst Xj20.here Xj20.ex rfl (hb hby at_256) (XS.icmpYes Xj20.here Xj20.ex rfl (pc0 := 257) (pc' := 271) rfl (hb hby at_257) rfl (cd_t (cd := .le) (x := (2 : Int32)) (y := (2 : Int32)) (by decide)) (by decide) (by decide) k))) ?_
                show Goes _ _ _ _ Tj20 (mkF m 271 #[.val (.long i0), .second, .val (.long i1), .second, .val (.long i2), .second, .val (.long i3), .second, .val (.int i4), .val (.long x), .second, .val (.long y), .second, .val (.long z), .second, s15, s16, .val (.int (2 : Int32)), .val (.ref b17), .val (.int sel), .val (.long nb), .second, .val (.int (2 : Int32)), s23, s24] [])
                (try simp only [if_pos hr1, if_pos hr3] at hJ221 ⊢)
                exact hJ221
          refine Goes.go (fun _ k => XS.aload Xj20.here Xj20.ex rfl (hb hby at_271) rfl rfl (XS.lload Xj20.here Xj20.ex rfl (hb hby at_273) rfl k)) ?_
          show Goes _ _ _ _ Tj20 (mkF m 275 #[.val (.long i0), .second, .val (.long i1), .second, .val (.long i2), .second, .val (.long i3), .second, .val (.int i4), .val (.long x), .second, .val (.long y), .second, .val (.long z), .second, s15, s16, .val (.int (2 : Int32)), .val (.ref b17), .val (.int sel), .val (.long nb), .second, .val (.int (if (lcmpW x nb) < (0 : Int32) then (if (lcmpW y nb) < (0 : Int32) then (2 : Int32) else (1 : Int32)) else (if (lcmpW y nb) < (0 : Int32) then (1 : Int32) else (0 : Int32)))), s23, s24] [(.long nb), (.ref b17)])
          refine Wk.static (hm' := fun _ => hj20) (y := (⟨"com/example/assent/assent/log/CrashSet", "insertionPoint", "([JJ)I"⟩ : MethodName)) (W := 0) (kc := 0) (ks := 0) (argsL := [(.ref b17), (.long nb)]) (rest := []) (as' := #[(.ref b17), (.long nb)]) (ws := []) Xj20 (w_2 hw) (w_3 hw) (w_4 hw) (w_5 hw) (by decide) (CtrN.pays (own_ip_2 l Z a0 hw hj20 Xj20.old b17 k17 nb x y V s1) (w_5 hw) (w_4 hw) (by decide) (by decide)) (fun v h' L q => ⟨q.2, q.1.1⟩) all0 (fun _ => Mark.stay all0) rfl (by rw [hml]; rfl) (lenOf pd_1 rfl) rfl rfl (by show 2 * 0 + _ ≤ _; exact Nat.le_of_eq rfl) (hb hby at_275) (by decide) (by decide) ?_
          intro T21 h21 v21 L21 X21 q21 K21
          obtain ⟨⟨-, rfl⟩, -⟩ := q21
          show Goes _ _ _ _ T21 (mkF m 278 #[.val (.long i0), .second, .val (.long i1), .second, .val (.long i2), .second, .val (.long i3), .second, .val (.int i4), .val (.long x), .second, .val (.long y), .second, .val (.long z), .second, s15, s16, .val (.int (2 : Int32)), .val (.ref b17), .val (.int sel), .val (.long nb), .second, .val (.int (if (lcmpW x nb) < (0 : Int32) then (if (lcmpW y nb) < (0 : Int32) then (2 : Int32) else (1 : Int32)) else (if (lcmpW y nb) < (0 : Int32) then (1 : Int32) else (0 : Int32)))), s23, s24] [(.int (own_cnt [x, y] nb))])
          rcases hs with ⟨rfl, rfl⟩ | ⟨bb, rfl, rfl⟩
          · show Goes _ _ _ _ T21 (mkF m 278 #[.val (.long i0), .second, .val (.long i1), .second, .val (.long i2), .second, .val (.long i3), .second, .val (.int i4), .val (.long x), .second, .val (.long y), .second, .val (.long z), .second, s15, s16, .val (.int (2 : Int32)), .val (.ref b17), .val (.int sel), .val (.long nb), .second, .val (.int (if (lcmpW x nb) < (0 : Int32) then (if (lcmpW y nb) < (0 : Int32) then (2 : Int32) else (1 : Int32)) else (if (lcmpW y nb) < (0 : Int32) then (1 : Int32) else (0 : Int32)))), .unset, .unset] [(.int (own_cnt [x, y] nb))])
            refine Goes.go (fun _ k => XS.istore X21.here X21.ex rfl (hb hby at_278) rfl (l' := #[.val (.long i0), .second, .val (.long i1), .second, .val (.long i2), .second, .val (.long i3), .second, .val (.int i4), .val (.long x), .second, .val (.long y), .second, .val (.long z), .second, s15, s16, .val (.int (2 : Int32)), .val (.ref b17), .val (.int sel), .val (.long nb), .second, .val (.int (if (lcmpW x nb) < (0 : Int32) then (if (lcmpW y nb) < (0 : Int32) then (2 : Int32) else (1 : Int32)) else (if (lcmpW y nb) < (0 : Int32) then (1 : Int32) else (0 : Int32)))), .val (.int (own_cnt [x, y] nb)), .unset]) rfl (XS.iload X21.here X21.ex rfl (hb hby at_280) rfl (XS.iload X21.here X21.ex rfl (hb hby at_282) rfl k))) ?_
            show Goes _ _ _ _ T21 (mkF m 284 #[.val (.long i0), .second, .val (.long i1), .second, .val (.long i2), .second, .val (.long i3), .second, .val (.int i4), .val (.long x), .second, .val (.long y), .second, .val (.long z), .second, s15, s16, .val (.int (2 : Int32)), .val (.ref b17), .val (.int sel), .val (.long nb), .second, .val (.int (if (lcmpW x nb) < (0 : Int32) then (if (lcmpW y nb) < (0 : Int32) then (2 : Int32) else (1 : Int32)) else (if (lcmpW y nb) < (0 : Int32) then (1 : Int32) else (0 : Int32)))), .val (.int (own_cnt [x, y] nb)), .unset] [(.int (if (lcmpW x nb) < (0 : Int32) then (if (lcmpW y nb) < (0 : Int32) then (2 : Int32) else (1 : Int32)) else (if (lcmpW y nb) < (0 : Int32) then (1 : Int32) else (0 : Int32)))), (.int (own_cnt [x, y] nb))])
            refine Goes.go (fun _ k => XS.icmpNo X21.here X21.ex rfl (hb hby at_284) rfl (cd_f (cd := .ne) (x := (own_cnt [x, y] nb)) (y := (if (lcmpW x nb) < (0 : Int32) then (if (lcmpW y nb) < (0 : Int32) then (2 : Int32) else (1 : Int32)) else (if (lcmpW y nb) < (0 : Int32) then (1 : Int32) else (0 : Int32)))) ((fun q => absurd (own_plain2 nb x y) q))) k) ?_
            show Goes _ _ _ _ T21 (mkF m 287 #[.val (.long i0), .second, .val (.long i1), .second, .val (.long i2), .second, .val (.long i3), .second, .val (.int i4), .val (.long x), .second, .val (.long y), .second, .val (.long z), .second, s15, s16, .val (.int (2 : Int32)), .val (.ref b17), .val (.int sel), .val (.long nb), .second, .val (.int (if (lcmpW x nb) < (0 : Int32) then (if (lcmpW y nb) < (0 : Int32) then (2 : Int32) else (1 : Int32)) else (if (lcmpW y nb) < (0 : Int32) then (1 : Int32) else (0 : Int32)))), .val (.int (own_cnt [x, y] nb)), .unset] [])
            refine Goes.go (fun _ k => XS.iconst X21.here X21.ex rfl (hb hby at_287) (XS.goto X21.here X21.ex rfl (pc0 := 288) (pc' := 292) rfl (hb hby at_288) (by decide) (by decide) k)) ?_
            show Goes _ _ _ _ T21 (mkF m 292 #[.val (.long i0), .second, .val (.long i1), .second, .val (.long i2), .second, .val (.long i3), .second, .val (.int i4), .val (.long x), .second, .val (.long y), .second, .val (.long z), .second, s15, s16, .val (.int (2 : Int32)), .val (.ref b17), .val (.int sel), .val (.long nb), .second, .val (.int (if (lcmpW x nb) < (0 : Int32) then (if (lcmpW y nb) < (0 : Int32) then (2 : Int32) else (1 : Int32)) else (if (lcmpW y nb) < (0 : Int32) then (1 : Int32) else (0 : Int32)))), .val (.int (own_cnt [x, y] nb)), .unset] [(.int (1 : Int32))])
            refine Goes.outN X21 (fun q => by rw [hret] at q; cases q) hlk (X21.rB hret (by simp) (hb hby at_292)) ?_ (by decide) (by decide)
            exact rfl
          · show Goes _ _ _ _ T21 (mkF m 278 #[.val (.long i0), .second, .val (.long i1), .second, .val (.long i2), .second, .val (.long i3), .second, .val (.int i4), .val (.long x), .second, .val (.long y), .second, .val (.long z), .second, s15, s16, .val (.int (2 : Int32)), .val (.ref b17), .val (.int sel), .val (.long nb), .second, .val (.int (if (lcmpW x nb) < (0 : Int32) then (if (lcmpW y nb) < (0 : Int32) then (2 : Int32) else (1 : Int32)) else (if (lcmpW y nb) < (0 : Int32) then (1 : Int32) else (0 : Int32)))), .val (.long bb), .second] [(.int (own_cnt [x, y] nb))])
            refine Goes.go (fun _ k => XS.istore X21.here X21.ex rfl (hb hby at_278) rfl (l' := #[.val (.long i0), .second, .val (.long i1), .second, .val (.long i2), .second, .val (.long i3), .second, .val (.int i4), .val (.long x), .second, .val (.long y), .second, .val (.long z), .second, s15, s16, .val (.int (2 : Int32)), .val (.ref b17), .val (.int sel), .val (.long nb), .second, .val (.int (if (lcmpW x nb) < (0 : Int32) then (if (lcmpW y nb) < (0 : Int32) then (2 : Int32) else (1 : Int32)) else (if (lcmpW y nb) < (0 : Int32) then (1 : Int32) else (0 : Int32)))), .val (.int (own_cnt [x, y] nb)), .unset]) rfl (XS.iload X21.here X21.ex rfl (hb hby at_280) rfl (XS.iload X21.here X21.ex rfl (hb hby at_282) rfl k))) ?_
            show Goes _ _ _ _ T21 (mkF m 284 #[.val (.long i0), .second, .val (.long i1), .second, .val (.long i2), .second, .val (.long i3), .second, .val (.int i4), .val (.long x), .second, .val (.long y), .second, .val (.long z), .second, s15, s16, .val (.int (2 : Int32)), .val (.ref b17), .val (.int sel), .val (.long nb), .second, .val (.int (if (lcmpW x nb) < (0 : Int32) then (if (lcmpW y nb) < (0 : Int32) then (2 : Int32) else (1 : Int32)) else (if (lcmpW y nb) < (0 : Int32) then (1 : Int32) else (0 : Int32)))), .val (.int (own_cnt [x, y] nb)), .unset] [(.int (if (lcmpW x nb) < (0 : Int32) then (if (lcmpW y nb) < (0 : Int32) then (2 : Int32) else (1 : Int32)) else (if (lcmpW y nb) < (0 : Int32) then (1 : Int32) else (0 : Int32)))), (.int (own_cnt [x, y] nb))])
            refine Goes.go (fun _ k => XS.icmpNo X21.here X21.ex rfl (hb hby at_284) rfl (cd_f (cd := .ne) (x := (own_cnt [x, y] nb)) (y := (if (lcmpW x nb) < (0 : Int32) then (if (lcmpW y nb) < (0 : Int32) then (2 : Int32) else (1 : Int32)) else (if (lcmpW y nb) < (0 : Int32) then (1 : Int32) else (0 : Int32)))) ((fun q => absurd (own_plain2 nb x y) q))) k) ?_
            show Goes _ _ _ _ T21 (mkF m 287 #[.val (.long i0), .second, .val (.long i1), .second, .val (.long i2), .second, .val (.long i3), .second, .val (.int i4), .val (.long x), .second, .val (.long y), .second, .val (.long z), .second, s15, s16, .val (.int (2 : Int32)), .val (.ref b17), .val (.int sel), .val (.long nb), .second, .val (.int (if (lcmpW x nb) < (0 : Int32) then (if (lcmpW y nb) < (0 : Int32) then (2 : Int32) else (1 : Int32)) else (if (lcmpW y nb) < (0 : Int32) then (1 : Int32) else (0 : Int32)))), .val (.int (own_cnt [x, y] nb)), .unset] [])
            refine Goes.go (fun _ k => XS.iconst X21.here X21.ex rfl (hb hby at_287) (XS.goto X21.here X21.ex rfl (pc0 := 288) (pc' := 292) rfl (hb hby at_288) (by decide) (by decide) k)) ?_
            show Goes _ _ _ _ T21 (mkF m 292 #[.val (.long i0), .second, .val (.long i1), .second, .val (.long i2), .second, .val (.long i3), .second, .val (.int i4), .val (.long x), .second, .val (.long y), .second, .val (.long z), .second, s15, s16, .val (.int (2 : Int32)), .val (.ref b17), .val (.int sel), .val (.long nb), .second, .val (.int (if (lcmpW x nb) < (0 : Int32) then (if (lcmpW y nb) < (0 : Int32) then (2 : Int32) else (1 : Int32)) else (if (lcmpW y nb) < (0 : Int32) then (1 : Int32) else (0 : Int32)))), .val (.int (own_cnt [x, y] nb)), .unset] [(.int (1 : Int32))])
            refine Goes.outN X21 (fun q => by rw [hret] at q; cases q) hlk (X21.rB hret (by simp) (hb hby at_292)) ?_ (by decide) (by decide)
            exact rfl
        refine Goes.go (fun _ k => XS.iload X19.here X19.ex rfl (hb hby at_161) rfl (XS.bipush X19.here X19.ex rfl (hb hby at_163) k)) ?_
        show Goes _ _ _ _ T19 (mkF m 165 #[.val (.long i0), .second, .val (.long i1), .second, .val (.long i2), .second, .val (.long i3), .second, .val (.int i4), .val (.long x), .second, .val (.long y), .second, .val (.long z), .second, s15, s16, .val (.int (2 : Int32)), .val (.ref b17), .val (.int sel), .unset, .unset, .unset, .unset, .unset] [(.int (9 : Int32)), (.int sel)])
        refine Goes.icmp (pc' := 175) X19.here X19.ex (hb hby at_165) (by decide) (by decide) (fun hc165 => ?_) (fun hc165 => ?_)
        · have hc165 : ¬ (sel = (9 : Int32)) := hc165
          show Goes _ _ _ _ T19 (mkF m 175 #[.val (.long i0), .second, .val (.long i1), .second, .val (.long i2), .second, .val (.long i3), .second, .val (.int i4), .val (.long x), .second, .val (.long y), .second, .val (.long z), .second, s15, s16, .val (.int (2 : Int32)), .val (.ref b17), .val (.int sel), .unset, .unset, .unset, .unset, .unset] [])
          refine Goes.go (fun _ k => XS.iload X19.here X19.ex rfl (hb hby at_175) rfl (XS.iconst X19.here X19.ex rfl (hb hby at_177) (XS.idiv X19.here X19.ex rfl (hb hby at_178) rfl (by decide) (XS.istore X19.here X19.ex rfl (hb hby at_179) rfl (l' := #[.val (.long i0), .second, .val (.long i1), .second, .val (.long i2), .second, .val (.long i3), .second, .val (.int i4), .val (.long x), .second, .val (.long y), .second, .val (.long z), .second, s15, s16, .val (.int (2 : Int32)), .val (.ref b17), .val (.int sel), .unset, .unset, .val (.int (sel / (3 : Int32))), .unset, .unset]) rfl (XS.iload X19.here X19.ex rfl (hb hby at_181) rfl k))))) ?_
          show Goes _ _ _ _ T19 (mkF m 183 #[.val (.long i0), .second, .val (.long i1), .second, .val (.long i2), .second, .val (.long i3), .second, .val (.int i4), .val (.long x), .second, .val (.long y), .second, .val (.long z), .second, s15, s16, .val (.int (2 : Int32)), .val (.ref b17), .val (.int sel), .unset, .unset, .val (.int (sel / (3 : Int32))), .unset, .unset] [(.int (sel / (3 : Int32)))])
          refine Goes.ifc (pc' := 191) X19.here X19.ex (hb hby at_183) (by decide) (by decide) (fun hc183 => ?_) (fun hc183 => ?_)
          · have hc183 : ¬ ((sel / (3 : Int32)) = (0 : Int32)) := hc183
            show Goes _ _ _ _ T19 (mkF m 191 #[.val (.long i0), .second, .val (.long i1), .second, .val (.long i2), .second, .val (.long i3), .second, .val (.int i4), .val (.long x), .second, .val (.long y), .second, .val (.long z), .second, s15, s16, .val (.int (2 : Int32)), .val (.ref b17), .val (.int sel), .unset, .unset, .val (.int (sel / (3 : Int32))), .unset, .unset] [])
            refine Goes.go (fun _ k => XS.iload X19.here X19.ex rfl (hb hby at_191) rfl (XS.iconst X19.here X19.ex rfl (hb hby at_193) k)) ?_
            show Goes _ _ _ _ T19 (mkF m 194 #[.val (.long i0), .second, .val (.long i1), .second, .val (.long i2), .second, .val (.long i3), .second, .val (.int i4), .val (.long x), .second, .val (.long y), .second, .val (.long z), .second, s15, s16, .val (.int (2 : Int32)), .val (.ref b17), .val (.int sel), .unset, .unset, .val (.int (sel / (3 : Int32))), .unset, .unset] [(.int (1 : Int32)), (.int (sel / (3 : Int32)))])
            refine Goes.icmp (pc' := 202) X19.here X19.ex (hb hby at_194) (by decide) (by decide) (fun hc194 => ?_) (fun hc194 => ?_)
            · have hc194 : ¬ ((sel / (3 : Int32)) = (1 : Int32)) := hc194
              show Goes _ _ _ _ T19 (mkF m 202 #[.val (.long i0), .second, .val (.long i1), .second, .val (.long i2), .second, .val (.long i3), .second, .val (.int i4), .val (.long x), .second, .val (.long y), .second, .val (.long z), .second, s15, s16, .val (.int (2 : Int32)), .val (.ref b17), .val (.int sel), .unset, .unset, .val (.int (sel / (3 : Int32))), .unset, .unset] [])
              refine Goes.go (fun _ k => XS.lload X19.here X19.ex rfl (hb hby at_202) rfl (XS.lstore X19.here X19.ex rfl (hb hby at_204) rfl (l' := #[.val (.long i0), .second, .val (.long i1), .second, .val (.long i2), .second, .val (.long i3), .second, .val (.int i4), .val (.long x), .second, .val (.long y), .second, .val (.long z), .second, s15, s16, .val (.int (2 : Int32)), .val (.ref b17), .val (.int sel), .unset, .unset, .val (.int (sel / (3 : Int32))), .val (.long z), .second]) rfl (XS.lload X19.here X19.ex rfl (hb hby at_206) rfl (XS.iload X19.here X19.ex rfl (hb hby at_208) rfl (XS.iconst X19.here X19.ex rfl (hb hby at_210) (XS.irem X19.here X19.ex rfl (hb hby at_211) rfl (by decide) k)))))) ?_
              show Goes _ _ _ _ T19 (mkF m 212 #[.val (.long i0), .second, .val (.long i1), .second, .val (.long i2), .second, .val (.long i3), .second, .val (.int i4), .val (.long x), .second, .val (.long y), .second, .val (.long z), .second, s15, s16, .val (.int (2 : Int32)), .val (.ref b17), .val (.int sel), .unset, .unset, .val (.int (sel / (3 : Int32))), .val (.long z), .second] [(.int (sel - (sel / (3 : Int32)) * (3 : Int32))), (.long z)])
              refine Goes.go (fun _ k => XS.iconst X19.here X19.ex rfl (hb hby at_212) (XS.isub X19.here X19.ex rfl (hb hby at_213) rfl (XS.i2l X19.here X19.ex rfl (hb hby at_214) rfl (XS.ladd X19.here X19.ex rfl (hb hby at_215) rfl (XS.lstore X19.here X19.ex rfl (hb hby at_216) rfl (l' := #[.val (.long i0), .second, .val (.long i1), .second, .val (.long i2), .second, .val (.long i3), .second, .val (.int i4), .val (.long x), .second, .val (.long y), .second, .val (.long z), .second, s15, s16, .val (.int (2 : Int32)), .val (.ref b17), .val (.int sel), .val (.long (z + (((sel - (sel / (3 : Int32)) * (3 : Int32)) - (1 : Int32)).toInt64))), .second, .val (.int (sel / (3 : Int32))), .val (.long z), .second]) rfl (XS.iconst X19.here X19.ex rfl (hb hby at_218) k)))))) ?_
              show Goes _ _ _ _ T19 (mkF m 219 #[.val (.long i0), .second, .val (.long i1), .second, .val (.long i2), .second, .val (.long i3), .second, .val (.int i4), .val (.long x), .second, .val (.long y), .second, .val (.long z), .second, s15, s16, .val (.int (2 : Int32)), .val (.ref b17), .val (.int sel), .val (.long (z + (((sel - (sel / (3 : Int32)) * (3 : Int32)) - (1 : Int32)).toInt64))), .second, .val (.int (sel / (3 : Int32))), .val (.long z), .second] [(.int (0 : Int32))])
              refine Goes.go (fun _ k => XS.istore X19.here X19.ex rfl (hb hby at_219) rfl (l' := #[.val (.long i0), .second, .val (.long i1), .second, .val (.long i2), .second, .val (.long i3), .second, .val (.int i4), .val (.long x), .second, .val (.long y), .second, .val (.long z), .second, s15, s16, .val (.int (2 : Int32)), .val (.ref b17), .val (.int sel), .val (.long (z + (((sel - (sel / (3 : Int32)) * (3 : Int32)) - (1 : Int32)).toInt64))), .second, .val (.int (0 : Int32)), .val (.long z), .second]) rfl k) ?_
              show Goes _ _ _ _ T19 (mkF m 221 #[.val (.long i0), .second, .val (.long i1), .second, .val (.long i2), .second, .val (.long i3), .second, .val (.int i4), .val (.long x), .second, .val (.long y), .second, .val (.long z), .second, s15, s16, .val (.int (2 : Int32)), .val (.ref b17), .val (.int sel), .val (.long (z + (((sel - (sel / (3 : Int32)) * (3 : Int32)) - (1 : Int32)).toInt64))), .second, .val (.int (0 : Int32)), .val (.long z), .second] [])
              exact J221 T19 h19 (z + (((sel - (sel / (3 : Int32)) * (3 : Int32)) - (1 : Int32)).toInt64)) (.val (.long z)) (.second) (X19.mark.mono (by decide) (by decide)) (Or.inr ⟨_, rfl, rfl⟩) V_b17
            · have hc194 : (sel / (3 : Int32)) = (1 : Int32) := Classical.not_not.mp hc194
              show Goes _ _ _ _ T19 (mkF m 197 #[.val (.long i0), .second, .val (.long i1), .second, .val (.long i2), .second, .val (.long i3), .second, .val (.int i4), .val (.long x), .second, .val (.long y), .second, .val (.long z), .second, s15, s16, .val (.int (2 : Int32)), .val (.ref b17), .val (.int sel), .unset, .unset, .val (.int (sel / (3 : Int32))), .unset, .unset] [])
              refine Goes.go (fun _ k => XS.lload X19.here X19.ex rfl (hb hby at_197) rfl (XS.goto X19.here X19.ex rfl (pc0 := 199) (pc' := 204) rfl (hb hby at_199) (by decide) (by decide) (XS.lstore X19.here X19.ex rfl (hb hby at_204) rfl (l' := #[.val (.long i0), .second, .val (.long i1), .second, .val (.long i2), .second, .val (.long i3), .second, .val (.int i4), .val (.long x), .second, .val (.long y), .second, .val (.long z), .second, s15, s16, .val (.int (2 : Int32)), .val (.ref b17), .val (.int sel), .unset, .unset, .val (.int (sel / (3 : Int32))), .val (.long y), .second]) rfl (XS.lload X19.here X19.ex rfl (hb hby at_206) rfl (XS.iload X19.here X19.ex rfl (hb hby at_208) rfl (XS.iconst X19.here X19.ex rfl (hb hby at_210) k)))))) ?_
              show Goes _ _ _ _ T19 (mkF m 211 #[.val (.long i0), .second, .val (.long i1), .second, .val (.long i2), .second, .val (.long i3), .second, .val (.int i4), .val (.long x), .second, .val (.long y), .second, .val (.long z), .second, s15, s16, .val (.int (2 : Int32)), .val (.ref b17), .val (.int sel), .unset, .unset, .val (.int (sel / (3 : Int32))), .val (.long y), .second] [(.int (3 : Int32)), (.int sel), (.long y)])
              refine Goes.go (fun _ k => XS.irem X19.here X19.ex rfl (hb hby at_211) rfl (by decide) (XS.iconst X19.here X19.ex rfl (hb hby at_212) (XS.isub X19.here X19.ex rfl (hb hby at_213) rfl (XS.i2l X19.here X19.ex rfl (hb hby at_214) rfl (XS.ladd X19.here X19.ex rfl (hb hby at_215) rfl (XS.lstore X19.here X19.ex rfl (hb hby at_216) rfl (l' := #[.val (.long i0), .second, .val (.long i1), .second, .val (.long i2), .second, .val (.long i3), .second, .val (.int i4), .val (.long x), .second, .val (.long y), .second, .val (.long z), .second, s15, s16, .val (.int (2 : Int32)), .val (.ref b17), .val (.int sel), .val (.long (y + (((sel - (sel / (3 : Int32)) * (3 : Int32)) - (1 : Int32)).toInt64))), .second, .val (.int (sel / (3 : Int32))), .val (.long y), .second]) rfl k)))))) ?_
              show Goes _ _ _ _ T19 (mkF m 218 #[.val (.long i0), .second, .val (.long i1), .second, .val (.long i2), .second, .val (.long i3), .second, .val (.int i4), .val (.long x), .second, .val (.long y), .second, .val (.long z), .second, s15, s16, .val (.int (2 : Int32)), .val (.ref b17), .val (.int sel), .val (.long (y + (((sel - (sel / (3 : Int32)) * (3 : Int32)) - (1 : Int32)).toInt64))), .second, .val (.int (sel / (3 : Int32))), .val (.long y), .second] [])
              refine Goes.go (fun _ k => XS.iconst X19.here X19.ex rfl (hb hby at_218) (XS.istore X19.here X19.ex rfl (hb hby at_219) rfl (l' := #[.val (.long i0), .second, .val (.long i1), .second, .val (.long i2), .second, .val (.long i3), .second, .val (.int i4), .val (.long x), .second, .val (.long y), .second, .val (.long z), .second, s15, s16, .val (.int (2 : Int32)), .val (.ref b17), .val (.int sel), .val (.long (y + (((sel - (sel / (3 : Int32)) * (3 : Int32)) - (1 : Int32)).toInt64))), .second, .val (.int (0 : Int32)), .val (.long y), .second]) rfl k)) ?_
              show Goes _ _ _ _ T19 (mkF m 221 #[.val (.long i0), .second, .val (.long i1), .second, .val (.long i2), .second, .val (.long i3), .second, .val (.int i4), .val (.long x), .second, .val (.long y), .second, .val (.long z), .second, s15, s16, .val (.int (2 : Int32)), .val (.ref b17), .val (.int sel), .val (.long (y + (((sel - (sel / (3 : Int32)) * (3 : Int32)) - (1 : Int32)).toInt64))), .second, .val (.int (0 : Int32)), .val (.long y), .second] [])
              exact J221 T19 h19 (y + (((sel - (sel / (3 : Int32)) * (3 : Int32)) - (1 : Int32)).toInt64)) (.val (.long y)) (.second) (X19.mark.mono (by decide) (by decide)) (Or.inr ⟨_, rfl, rfl⟩) V_b17
          · have hc183 : (sel / (3 : Int32)) = (0 : Int32) := Classical.not_not.mp hc183
            show Goes _ _ _ _ T19 (mkF m 186 #[.val (.long i0), .second, .val (.long i1), .second, .val (.long i2), .second, .val (.long i3), .second, .val (.int i4), .val (.long x), .second, .val (.long y), .second, .val (.long z), .second, s15, s16, .val (.int (2 : Int32)), .val (.ref b17), .val (.int sel), .unset, .unset, .val (.int (sel / (3 : Int32))), .unset, .unset] [])
            refine Goes.go (fun _ k => XS.lload X19.here X19.ex rfl (hb hby at_186) rfl (XS.goto X19.here X19.ex rfl (pc0 := 188) (pc' := 204) rfl (hb hby at_188) (by decide) (by decide) (XS.lstore X19.here X19.ex rfl (hb hby at_204) rfl (l' := #[.val (.long i0), .second, .val (.long i1), .second, .val (.long i2), .second, .val (.long i3), .second, .val (.int i4), .val (.long x), .second, .val (.long y), .second, .val (.long z), .second, s15, s16, .val (.int (2 : Int32)), .val (.ref b17), .val (.int sel), .unset, .unset, .val (.int (sel / (3 : Int32))), .val (.long x), .second]) rfl (XS.lload X19.here X19.ex rfl (hb hby at_206) rfl (XS.iload X19.here X19.ex rfl (hb hby at_208) rfl (XS.iconst X19.here X19.ex rfl (hb hby at_210) k)))))) ?_
            show Goes _ _ _ _ T19 (mkF m 211 #[.val (.long i0), .second, .val (.long i1), .second, .val (.long i2), .second, .val (.long i3), .second, .val (.int i4), .val (.long x), .second, .val (.long y), .second, .val (.long z), .second, s15, s16, .val (.int (2 : Int32)), .val (.ref b17), .val (.int sel), .unset, .unset, .val (.int (sel / (3 : Int32))), .val (.long x), .second] [(.int (3 : Int32)), (.int sel), (.long x)])
            refine Goes.go (fun _ k => XS.irem X19.here X19.ex rfl (hb hby at_211) rfl (by decide) (XS.iconst X19.here X19.ex rfl (hb hby at_212) (XS.isub X19.here X19.ex rfl (hb hby at_213) rfl (XS.i2l X19.here X19.ex rfl (hb hby at_214) rfl (XS.ladd X19.here X19.ex rfl (hb hby at_215) rfl (XS.lstore X19.here X19.ex rfl (hb hby at_216) rfl (l' := #[.val (.long i0), .second, .val (.long i1), .second, .val (.long i2), .second, .val (.long i3), .second, .val (.int i4), .val (.long x), .second, .val (.long y), .second, .val (.long z), .second, s15, s16, .val (.int (2 : Int32)), .val (.ref b17), .val (.int sel), .val (.long (x + (((sel - (sel / (3 : Int32)) * (3 : Int32)) - (1 : Int32)).toInt64))), .second, .val (.int (sel / (3 : Int32))), .val (.long x), .second]) rfl k)))))) ?_
            show Goes _ _ _ _ T19 (mkF m 218 #[.val (.long i0), .second, .val (.long i1), .second, .val (.long i2), .second, .val (.long i3), .second, .val (.int i4), .val (.long x), .second, .val (.long y), .second, .val (.long z), .second, s15, s16, .val (.int (2 : Int32)), .val (.ref b17), .val (.int sel), .val (.long (x + (((sel - (sel / (3 : Int32)) * (3 : Int32)) - (1 : Int32)).toInt64))), .second, .val (.int (sel / (3 : Int32))), .val (.long x), .second] [])
            refine Goes.go (fun _ k => XS.iconst X19.here X19.ex rfl (hb hby at_218) (XS.istore X19.here X19.ex rfl (hb hby at_219) rfl (l' := #[.val (.long i0), .second, .val (.long i1), .second, .val (.long i2), .second, .val (.long i3), .second, .val (.int i4), .val (.long x), .second, .val (.long y), .second, .val (.long z), .second, s15, s16, .val (.int (2 : Int32)), .val (.ref b17), .val (.int sel), .val (.long (x + (((sel - (sel / (3 : Int32)) * (3 : Int32)) - (1 : Int32)).toInt64))), .second, .val (.int (0 : Int32)), .val (.long x), .second]) rfl k)) ?_
            show Goes _ _ _ _ T19 (mkF m 221 #[.val (.long i0), .second, .val (.long i1), .second, .val (.long i2), .second, .val (.long i3), .second, .val (.int i4), .val (.long x), .second, .val (.long y), .second, .val (.long z), .second, s15, s16, .val (.int (2 : Int32)), .val (.ref b17), .val (.int sel), .val (.long (x + (((sel - (sel / (3 : Int32)) * (3 : Int32)) - (1 : Int32)).toInt64))), .second, .val (.int (0 : Int32)), .val (.long x), .second] [])
            exact J221 T19 h19 (x + (((sel - (sel / (3 : Int32)) * (3 : Int32)) - (1 : Int32)).toInt64)) (.val (.long x)) (.second) (X19.mark.mono (by decide) (by decide)) (Or.inr ⟨_, rfl, rfl⟩) V_b17
        · have hc165 : sel = (9 : Int32) := Classical.not_not.mp hc165
          show Goes _ _ _ _ T19 (mkF m 168 #[.val (.long i0), .second, .val (.long i1), .second, .val (.long i2), .second, .val (.long i3), .second, .val (.int i4), .val (.long x), .second, .val (.long y), .second, .val (.long z), .second, s15, s16, .val (.int (2 : Int32)), .val (.ref b17), .val (.int sel), .unset, .unset, .unset, .unset, .unset] [])
          refine Goes.go (fun _ k => XS.lload X19.here X19.ex rfl (hb hby at_168) rfl (XS.lstore X19.here X19.ex rfl (hb hby at_170) rfl (l' := #[.val (.long i0), .second, .val (.long i1), .second, .val (.long i2), .second, .val (.long i3), .second, .val (.int i4), .val (.long x), .second, .val (.long y), .second, .val (.long z), .second, s15, s16, .val (.int (2 : Int32)), .val (.ref b17), .val (.int sel), .val (.long i3), .second, .unset, .unset, .unset]) rfl (XS.goto X19.here X19.ex rfl (pc0 := 172) (pc' := 218) rfl (hb hby at_172) (by decide) (by decide) (XS.iconst X19.here X19.ex rfl (hb hby at_218) (XS.istore X19.here X19.ex rfl (hb hby at_219) rfl (l' := #[.val (.long i0), .second, .val (.long i1), .second, .val (.long i2), .second, .val (.long i3), .second, .val (.int i4), .val (.long x), .second, .val (.long y), .second, .val (.long z), .second, s15, s16, .val (.int (2 : Int32)), .val (.ref b17), .val (.int sel), .val (.long i3), .second, .val (.int (0 : Int32)), .unset, .unset]) rfl k))))) ?_
          show Goes _ _ _ _ T19 (mkF m 221 #[.val (.long i0), .second, .val (.long i1), .second, .val (.long i2), .second, .val (.long i3), .second, .val (.int i4), .val (.long x), .second, .val (.long y), .second, .val (.long z), .second, s15, s16, .val (.int (2 : Int32)), .val (.ref b17), .val (.int sel), .val (.long i3), .second, .val (.int (0 : Int32)), .unset, .unset] [])
          exact J221 T19 h19 i3 (.unset) (.unset) (X19.mark.mono (by decide) (by decide)) (Or.inl ⟨rfl, rfl⟩) V_b17
      · have he1 : (lcmpW x y) = (0 : Int32) := Classical.not_not.mp he1
        show Goes _ _ _ _ Tj9 (mkF m 90 #[.val (.long i0), .second, .val (.long i1), .second, .val (.long i2), .second, .val (.long i3), .second, .val (.int i4), .val (.long x), .second, .val (.long y), .second, .val (.long z), .second, s15, s16, .val (.int (2 : Int32)), .unset, .unset, .unset, .unset, .unset, .unset, .unset] [])
        refine Goes.go (fun _ k => XS.iconst Xj9.here Xj9.ex rfl (hb hby at_90) k) ?_
        show Goes _ _ _ _ Tj9 (mkF m 91 #[.val (.long i0), .second, .val (.long i1), .second, .val (.long i2), .second, .val (.long i3), .second, .val (.int i4), .val (.long x), .second, .val (.long y), .second, .val (.long z), .second, s15, s16, .val (.int (2 : Int32)), .unset, .unset, .unset, .unset, .unset, .unset, .unset] [(.int (1 : Int32))])
        refine Goes.outN Xj9 (fun q => by rw [hret] at q; cases q) hlk (Xj9.rB hret (by simp) (hb hby at_91)) ?_ (by decide) (by decide)
        exact rfl
    · show Goes _ _ _ _ Tj9 (mkF m 76 #[.val (.long i0), .second, .val (.long i1), .second, .val (.long i2), .second, .val (.long i3), .second, .val (.int i4), .val (.long x), .second, .val (.long y), .second, .val (.long z), .second, s15, s16, .val (.int (3 : Int32)), .unset, .unset, .unset, .unset, .unset, .unset, .unset] [])
      refine Goes.go (fun _ k => XS.iload Xj9.here Xj9.ex rfl (hb hby at_76) rfl (XS.iconst Xj9.here Xj9.ex rfl (hb hby at_78) (XS.icmpNo Xj9.here Xj9.ex rfl (hb hby at_79) rfl (cd_f (cd := .lt) (x := (3 : Int32)) (y := (2 : Int32)) (by decide)) (XS.lload Xj9.here Xj9.ex rfl (hb hby at_82) rfl (XS.lload Xj9.here Xj9.ex rfl (hb hby at_84) rfl (XS.lcmp Xj9.here Xj9.ex rfl (hb hby at_86) rfl k)))))) ?_
      show Goes _ _ _ _ Tj9 (mkF m 87 #[.val (.long i0), .second, .val (.long i1), .second, .val (.long i2), .second, .val (.long i3), .second, .val (.int i4), .val (.long x), .second, .val (.long y), .second, .val (.long z), .second, s15, s16, .val (.int (3 : Int32)), .unset, .unset, .unset, .unset, .unset, .unset, .unset] [(.int (lcmpW x y))])
      refine Goes.ifc (pc' := 92) Xj9.here Xj9.ex (hb hby at_87) (by decide) (by decide) (fun he1 => ?_) (fun he1 => ?_)
      · have he1 : ¬ ((lcmpW x y) = (0 : Int32)) := he1
        show Goes _ _ _ _ Tj9 (mkF m 92 #[.val (.long i0), .second, .val (.long i1), .second, .val (.long i2), .second, .val (.long i3), .second, .val (.int i4), .val (.long x), .second, .val (.long y), .second, .val (.long z), .second, s15, s16, .val (.int (3 : Int32)), .unset, .unset, .unset, .unset, .unset, .unset, .unset] [])
        rw [lw_eq] at he1
        refine Goes.go (fun _ k => XS.iload Xj9.here Xj9.ex rfl (hb hby at_92) rfl (XS.iconst Xj9.here Xj9.ex rfl (hb hby at_94) (XS.icmpNo Xj9.here Xj9.ex rfl (hb hby at_95) rfl (cd_f (cd := .lt) (x := (3 : Int32)) (y := (3 : Int32)) (by decide)) (XS.lload Xj9.here Xj9.ex rfl (hb hby at_98) rfl (XS.lload Xj9.here Xj9.ex rfl (hb hby at_100) rfl (XS.lcmp Xj9.here Xj9.ex rfl (hb hby at_102) rfl k)))))) ?_
        show Goes _ _ _ _ Tj9 (mkF m 103 #[.val (.long i0), .second, .val (.long i1), .second, .val (.long i2), .second, .val (.long i3), .second, .val (.int i4), .val (.long x), .second, .val (.long y), .second, .val (.long z), .second, s15, s16, .val (.int (3 : Int32)), .unset, .unset, .unset, .unset, .unset, .unset, .unset] [(.int (lcmpW y z))])
        refine Goes.ifc (pc' := 108) Xj9.here Xj9.ex (hb hby at_103) (by decide) (by decide) (fun he2 => ?_) (fun he2 => ?_)
        · have he2 : ¬ ((lcmpW y z) = (0 : Int32)) := he2
          show Goes _ _ _ _ Tj9 (mkF m 108 #[.val (.long i0), .second, .val (.long i1), .second, .val (.long i2), .second, .val (.long i3), .second, .val (.int i4), .val (.long x), .second, .val (.long y), .second, .val (.long z), .second, s15, s16, .val (.int (3 : Int32)), .unset, .unset, .unset, .unset, .unset, .unset, .unset] [])
          rw [lw_eq] at he2
          have s1 : x < y := own_lt hxy he1
          have s2 : y < z := own_lt hyz he2
          refine Goes.go (fun _ k => XS.iload Xj9.here Xj9.ex rfl (hb hby at_108) rfl k) ?_
          show Goes _ _ _ _ Tj9 (mkF m 110 #[.val (.long i0), .second, .val (.long i1), .second, .val (.long i2), .second, .val (.long i3), .second, .val (.int i4), .val (.long x), .second, .val (.long y), .second, .val (.long z), .second, s15, s16, .val (.int (3 : Int32)), .unset, .unset, .unset, .unset, .unset, .unset, .unset] [(.int (3 : Int32))])
          refine Wk.newA (aty := .long) Xj9 (w_0 hw) rfl (hb hby at_110) rfl (by decide) (cap := 3) (by decide) (by decide) (by decide) (by decide) ?_
          intro T22 h22 b22 k22 g22 X22 E22 A22 B_b22
          have V_b22 : Arv Z h22 b22 k22 .long (3 : Int32) [(.long (0 : Int64)), (.long (0 : Int64)), (.long (0 : Int64))] (.long (0 : Int64)) := A22.pad (pad_rep [] (.long (0 : Int64)) 3)
          have gz_b22 : Z.heap.size ≤ b22 := g22 ▸ Xj9.old.1
          have gm_b22 : hj9.size ≤ b22 := g22 ▸ Xj9.ext.1
          show Goes _ _ _ _ T22 (mkF m 112 #[.val (.long i0), .second, .val (.long i1), .second, .val (.long i2), .second, .val (.long i3), .second, .val (.int i4), .val (.long x), .second, .val (.long y), .second, .val (.long z), .second, s15, s16, .val (.int (3 : Int32)), .unset, .unset, .unset, .unset, .unset, .unset, .unset] [(.ref b22)])
          refine Goes.go (fun _ k => XS.astore X22.here X22.ex rfl (hb hby at_112) rfl rfl (l' := #[.val (.long i0), .second, .val (.long i1), .second, .val (.long i2), .second, .val (.long i3), .second, .val (.int i4), .val (.long x), .second, .val (.long y), .second, .val (.long z), .second, s15, s16, .val (.int (3 : Int32)), .val (.ref b22), .unset, .unset, .unset, .unset, .unset, .unset]) rfl (XS.iload X22.here X22.ex rfl (hb hby at_114) rfl (XS.ifNo X22.here X22.ex rfl (hb hby at_116) rfl ((if0 _ _).trans (cd_f (cd := .le) (x := (3 : Int32)) (y := (0 : Int32)) (by decide))) (XS.aload X22.here X22.ex rfl (hb hby at_119) rfl rfl (XS.iconst X22.here X22.ex rfl (hb hby at_121) (XS.lload X22.here X22.ex rfl (hb hby at_122) rfl k)))))) ?_
          show Goes _ _ _ _ T22 (mkF m 124 #[.val (.long i0), .second, .val (.long i1), .second, .val (.long i2), .second, .val (.long i3), .second, .val (.int i4), .val (.long x), .second, .val (.long y), .second, .val (.long z), .second, s15, s16, .val (.int (3 : Int32)), .val (.ref b22), .unset, .unset, .unset, .unset, .unset, .unset] [(.long x), (.int (0 : Int32)), (.ref b22)])
          refine Wk.lastore (hm' := fun _ => hj9) X22 V_b22 ⟨by decide, by decide⟩ (i := 0) rfl (Nat.le_of_ble_eq_true rfl) gz_b22 (fun _ => Mark.stay (allS gm_b22 all0)) rfl rfl (hb hby at_124) ?_
          intro T23 h23 X23 W23 V23
          clear V_b22; have V_b22 : Arv Z h23 b22 _ .long (3 : Int32) [(.long x), (.long (0 : Int64)), (.long (0 : Int64))] (.long (0 : Int64)) := V23
          show Goes _ _ _ _ T23 (mkF m 125 #[.val (.long i0), .second, .val (.long i1), .second, .val (.long i2), .second, .val (.long i3), .second, .val (.int i4), .val (.long x), .second, .val (.long y), .second, .val (.long z), .second, s15, s16, .val (.int (3 : Int32)), .val (.ref b22), .unset, .unset, .unset, .unset, .unset, .unset] [])
          refine Goes.go (fun _ k => XS.iload X23.here X23.ex rfl (hb hby at_125) rfl (XS.iconst X23.here X23.ex rfl (hb hby at_127) (XS.icmpNo X23.here X23.ex rfl (hb hby at_128) rfl (cd_f (cd := .le) (x := (3 : Int32)) (y := (1 : Int32)) (by decide)) (XS.aload X23.here X23.ex rfl (hb hby at_131) rfl rfl (XS.iconst X23.here X23.ex rfl (hb hby at_133) (XS.lload X23.here X23.ex rfl (hb hby at_134) rfl k)))))) ?_
          show Goes _ _ _ _ T23 (mkF m 136 #[.val (.long i0), .second, .val (.long i1), .second, .val (.long i2), .second, .val (.long i3), .second, .val (.int i4), .val (.long x), .second, .val (.long y), .second, .val (.long z), .second, s15, s16, .val (.int (3 : Int32)), .val (.ref b22), .unset, .unset, .unset, .unset, .unset, .unset] [(.long y), (.int (1 : Int32)), (.ref b22)])
          refine Wk.lastore (hm' := fun _ => hj9) X23 V_b22 ⟨by decide, by decide⟩ (i := 1) rfl (Nat.le_of_ble_eq_true rfl) gz_b22 (fun _ => Mark.stay (allS gm_b22 all0)) rfl rfl (hb hby at_136) ?_
          intro T24 h24 X24 W24 V24
          clear V_b22; have V_b22 : Arv Z h24 b22 _ .long (3 : Int32) [(.long x), (.long y), (.long (0 : Int64))] (.long (0 : Int64)) := V24
          show Goes _ _ _ _ T24 (mkF m 137 #[.val (.long i0), .second, .val (.long i1), .second, .val (.long i2), .second, .val (.long i3), .second, .val (.int i4), .val (.long x), .second, .val (.long y), .second, .val (.long z), .second, s15, s16, .val (.int (3 : Int32)), .val (.ref b22), .unset, .unset, .unset, .unset, .unset, .unset] [])
          refine Goes.go (fun _ k => XS.iload X24.here X24.ex rfl (hb hby at_137) rfl (XS.iconst X24.here X24.ex rfl (hb hby at_139) (XS.icmpNo X24.here X24.ex rfl (hb hby at_140) rfl (cd_f (cd := .le) (x := (3 : Int32)) (y := (2 : Int32)) (by decide)) (XS.aload X24.here X24.ex rfl (hb hby at_143) rfl rfl (XS.iconst X24.here X24.ex rfl (hb hby at_145) (XS.lload X24.here X24.ex rfl (hb hby at_146) rfl k)))))) ?_
          show Goes _ _ _ _ T24 (mkF m 148 #[.val (.long i0), .second, .val (.long i1), .second, .val (.long i2), .second, .val (.long i3), .second, .val (.int i4), .val (.long x), .second, .val (.long y), .second, .val (.long z), .second, s15, s16, .val (.int (3 : Int32)), .val (.ref b22), .unset, .unset, .unset, .unset, .unset, .unset] [(.long z), (.int (2 : Int32)), (.ref b22)])
          refine Wk.lastore (hm' := fun _ => hj9) X24 V_b22 ⟨by decide, by decide⟩ (i := 2) rfl (Nat.le_of_ble_eq_true rfl) gz_b22 (fun _ => Mark.stay (allS gm_b22 all0)) rfl rfl (hb hby at_148) ?_
          intro T25 h25 X25 W25 V25
          clear V_b22; have V_b22 : Arv Z h25 b22 _ .long (3 : Int32) [(.long x), (.long y), (.long z)] (.long (0 : Int64)) := V25
          show Goes _ _ _ _ T25 (mkF m 149 #[.val (.long i0), .second, .val (.long i1), .second, .val (.long i2), .second, .val (.long i3), .second, .val (.int i4), .val (.long x), .second, .val (.long y), .second, .val (.long z), .second, s15, s16, .val (.int (3 : Int32)), .val (.ref b22), .unset, .unset, .unset, .unset, .unset, .unset] [])
          refine Goes.go (fun _ k => XS.iload X25.here X25.ex rfl (hb hby at_149) rfl (XS.iconst X25.here X25.ex rfl (hb hby at_151) (XS.iushr X25.here X25.ex rfl (hb hby at_152) rfl k))) ?_
          show Goes _ _ _ _ T25 (mkF m 153 #[.val (.long i0), .second, .val (.long i1), .second, .val (.long i2), .second, .val (.long i3), .second, .val (.int i4), .val (.long x), .second, .val (.long y), .second, .val (.long z), .second, s15, s16, .val (.int (3 : Int32)), .val (.ref b22), .unset, .unset, .unset, .unset, .unset, .unset] [(.int ((i4.toUInt32 >>> ((2 : Int32) &&& 31).toUInt32).toInt32))])
          refine Goes.go (X25.ldcI (w_1 hw) rfl (hb hby at_153)) ?_
          show Goes _ _ _ _ T25 (mkF m 155 #[.val (.long i0), .second, .val (.long i1), .second, .val (.long i2), .second, .val (.long i3), .second, .val (.int i4), .val (.long x), .second, .val (.long y), .second, .val (.long z), .second, s15, s16, .val (.int (3 : Int32)), .val (.ref b22), .unset, .unset, .unset, .unset, .unset, .unset] [(.int (65535 : Int32)), (.int ((i4.toUInt32 >>> ((2 : Int32) &&& 31).toUInt32).toInt32))])
          refine Goes.go (fun _ k => XS.iand X25.here X25.ex rfl (hb hby at_155) rfl (XS.bipush X25.here X25.ex rfl (hb hby at_156) (XS.irem X25.here X25.ex rfl (hb hby at_158) rfl (by decide) (XS.istore X25.here X25.ex rfl (hb hby at_159) rfl (l' := #[.val (.long i0), .second, .val (.long i1), .second, .val (.long i2), .second, .val (.long i3), .second, .val (.int i4), .val (.long x), .second, .val (.long y), .second, .val (.long z), .second, s15, s16, .val (.int (3 : Int32)), .val (.ref b22), .val (.int ((((i4.toUInt32 >>> ((2 : Int32) &&& 31).toUInt32).toInt32) &&& (65535 : Int32)) - ((((i4.toUInt32 >>> ((2 : Int32) &&& 31).toUInt32).toInt32) &&& (65535 : Int32)) / (10 : Int32)) * (10 : Int32))), .unset, .unset, .unset, .unset, .unset]) rfl k)))) ?_
          show Goes _ _ _ _ T25 (mkF m 161 #[.val (.long i0), .second, .val (.long i1), .second, .val (.long i2), .second, .val (.long i3), .second, .val (.int i4), .val (.long x), .second, .val (.long y), .second, .val (.long z), .second, s15, s16, .val (.int (3 : Int32)), .val (.ref b22), .val (.int ((((i4.toUInt32 >>> ((2 : Int32) &&& 31).toUInt32).toInt32) &&& (65535 : Int32)) - ((((i4.toUInt32 >>> ((2 : Int32) &&& 31).toUInt32).toInt32) &&& (65535 : Int32)) / (10 : Int32)) * (10 : Int32))), .unset, .unset, .unset, .unset, .unset] [])
          obtain ⟨sel, hsel⟩ : ∃ z : Int32, z = ((((i4.toUInt32 >>> ((2 : Int32) &&& 31).toUInt32).toInt32) &&& (65535 : Int32)) - ((((i4.toUInt32 >>> ((2 : Int32) &&& 31).toUInt32).toInt32) &&& (65535 : Int32)) / (10 : Int32)) * (10 : Int32)) := ⟨_, rfl⟩
          refine Goes.cast (show (mkF m 161 #[.val (.long i0), .second, .val (.long i1), .second, .val (.long i2), .second, .val (.long i3), .second, .val (.int i4), .val (.long x), .second, .val (.long y), .second, .val (.long z), .second, s15, s16, .val (.int (3 : Int32)), .val (.ref b22), .val (.int ((((i4.toUInt32 >>> ((2 : Int32) &&& 31).toUInt32).toInt32) &&& (65535 : Int32)) - ((((i4.toUInt32 >>> ((2 : Int32) &&& 31).toUInt32).toInt32) &&& (65535 : Int32)) / (10 : Int32)) * (10 : Int32))), .unset, .unset, .unset, .unset, .unset] []) = (mkF m 161 #[.val (.long i0), .second, .val (.long i1), .second, .val (.long i2), .second, .val (.long i3), .second, .val (.int i4), .val (.long x), .second, .val (.long y), .second, .val (.long z), .second, s15, s16, .val (.int (3 : Int32)), .val (.ref b22), .val (.int sel), .unset, .unset, .unset, .unset, .unset] []) from by rw [hsel]) ?_
          show Goes _ _ _ _ T25 (mkF m 161 #[.val (.long i0), .second, .val (.long i1), .second, .val (.long i2), .second, .val (.long i3), .second, .val (.int i4), .val (.long x), .second, .val (.long y), .second, .val (.long z), .second, s15, s16, .val (.int (3 : Int32)), .val (.ref b22), .val (.int sel), .unset, .unset, .unset, .unset, .unset] [])
          have J221 : ∀ (Tj26 : State) (hj26 : Heap) (nb : Int64) (s23 : Slot) (s24 : Slot), Wk True p l e room_1 s m #[(.long i0), (.long i1), (.long i2), (.long i3), (.int i4)] below meth c Z "com/example/assent/assent/log/CrashSetInsertionPointPinLaw" [] hj26 Tj26 hj26 1 3 → ((s23 = .unset ∧ s24 = .unset) ∨ ∃ bb : Int64, s23 = .val (.long bb) ∧ s24 = .second) → (Arv Z hj26 b22 k22 .long (3 : Int32) [(.long x), (.long y), (.long z)] (.long (0 : Int64))) → Goes p.tables e below (EndN Z s room_1.cells room_1.slots (fun v h' => v = some (.int (1 : Int32)))) Tj26 (mkF m 221 #[.val (.long i0), .second, .val (.long i1), .second, .val (.long i2), .second, .val (.long i3), .second, .val (.int i4), .val (.long x), .second, .val (.long y), .second, .val (.long z), .second, s15, s16, .val (.int (3 : Int32)), .val (.ref b22), .val (.int sel), .val (.long nb), .second, .val (.int (0 : Int32)), s23, s24] []) := by
            intro Tj26 hj26 nb s23 s24 Xj26 hs V
            suffices hJ221 : Goes p.tables e below (EndN Z s room_1.cells room_1.slots (fun v h' => v = some (.int (1 : Int32)))) Tj26 (mkF m 271 #[.val (.long i0), .second, .val (.long i1), .second, .val (.long i2), .second, .val (.long i3), .second, .val (.int i4), .val (.long x), .second, .val (.long y), .second, .val (.long z), .second, s15, s16, .val (.int (3 : Int32)), .val (.ref b22), .val (.int sel), .val (.long nb), .second, .val (.int (if (lcmpW x nb) < (0 : Int32) then (if (lcmpW y nb) < (0 : Int32) then (if (lcmpW z nb) < (0 : Int32) then (3 : Int32) else (2 : Int32)) else (if (lcmpW z nb) < (0 : Int32) then (2 : Int32) else (1 : Int32))) else (if (lcmpW y nb) < (0 : Int32) then (if (lcmpW z nb) < (0 : Int32) then (2 : Int32) else (1 : Int32)) else (if (lcmpW z nb) < (0 : Int32) then (1 : Int32) else (0 : Int32))))), s23, s24] []) by
              refine Goes.go (fun _ k => XS.iload Xj26.here Xj26.ex rfl (hb hby at_221) rfl (XS.ifNo Xj26.here Xj26.ex rfl (hb hby at_223) rfl ((if0 _ _).trans (cd_f (cd := .le) (x := (3 : Int32)) (y := (0 : Int32)) (by decide))) (XS.lload Xj26.here Xj26.ex rfl (hb hby at_226) rfl (XS.lload Xj26.here Xj26.ex rfl (hb hby at_228) rfl (XS.lcmp Xj26.here Xj26.ex rfl (hb hby at_230) rfl k))))) ?_
              show Goes _ _ _ _ Tj26 (mkF m 231 #[.val (.long i0), .second, .val (.long i1), .second, .val (.long i2), .second, .val (.long i3), .second, .val (.int i4), .val (.long x), .second, .val (.long y), .second, .val (.long z), .second, s15, s16, .val (.int (3 : Int32)), .val (.ref b22), .val (.int sel), .val (.long nb), .second, .val (.int (0 : Int32)), s23, s24] [(.int (lcmpW x nb))])
              refine Goes.ifc (pc' := 237) Xj26.here Xj26.ex (hb hby at_231) (by decide) (by decide) (fun hr1 => ?_) (fun hr1 => ?_)
              · have hr1 : ¬ ((lcmpW x nb) < (0 : Int32)) := hr1
                show Goes _ _ _ _ Tj26 (mkF m 237 #[.val (.long i0), .second, .val (.long i1), .second, .val (.long i2), .second, .val (.long i3), .second, .val (.int i4), .val (.long x), .second, .val (.long y), .second, .val (.long z), .second, s15, s16, .val (.int (3 : Int32)), .val (.ref b22), .val (.int sel), .val (.long nb), .second, .val (.int (0 : Int32)), s23, s24] [])
                refine Goes.go (fun _ k => XS.iload Xj26.here Xj26.ex rfl (hb hby at_237) rfl (XS.iconst Xj26.here Xj26.ex rfl (hb hby at_239) (XS.icmpNo Xj26.here Xj26.ex rfl (hb hby at_240) rfl (cd_f (cd := .le) (x := (3 : Int32)) (y := (1 : Int32)) (by decide)) (XS.lload Xj26.here Xj26.ex rfl (hb hby at_243) rfl (XS.lload Xj26.here Xj26.ex rfl (hb hby at_245) rfl (XS.lcmp Xj26.here Xj26.ex rfl (hb hby at_247) rfl k)))))) ?_
                show Goes _ _ _ _ Tj26 (mkF m 248 #[.val (.long i0), .second, .val (.long i1), .second, .val (.long i2), .second, .val (.long i3), .second, .val (.int i4), .val (.long x), .second, .val (.long y), .second, .val (.long z), .second, s15, s16, .val (.int (3 : Int32)), .val (.ref b22), .val (.int sel), .val (.long nb), .second, .val (.int (0 : Int32)), s23, s24] [(.int (lcmpW y nb))])
                refine Goes.ifc (pc' := 254) Xj26.here Xj26.ex (hb hby at_248) (by decide) (by decide) (fun hr2 => ?_) (fun hr2 => ?_)
                · have hr2 : ¬ ((lcmpW y nb) < (0 : Int32)) := hr2
                  show Goes _ _ _ _ Tj26 (mkF m 254 #[.val (.long i0), .second, .val (.long i1), .second, .val (.long i2), .second, .val (.long i3), .second, .val (.int i4), .val (.long x), .second, .val (.long y), .second, .val (.long z), .second, s15, s16, .val (.int (3 : Int32)), .val (.ref b22), .val (.int sel), .val (.long nb), .second, .val (.int (0 : Int32)), s23, s24] [])
                  refine Goes.go (fun _ k => XS.iload Xj26.here Xj26.ex rfl (hb hby at_254) rfl (XS.iconst Xj26.here Xj26.ex rfl (hb hby at_256) (XS.icmpNo Xj26.here Xj26.ex rfl (hb hby at_257) rfl (cd_f (cd := .le) (x := (3 : Int32)) (y := (2 : Int32)) (by decide)) (XS.lload Xj26.here Xj26.ex rfl (hb hby at_260) rfl (XS.lload Xj26.here Xj26.ex rfl (hb hby at_262) rfl (XS.lcmp Xj26.here Xj26.ex rfl (hb hby at_264) rfl k)))))) ?_
                  show Goes _ _ _ _ Tj26 (mkF m 265 #[.val (.long i0), .second, .val (.long i1), .second, .val (.long i2), .second, .val (.long i3), .second, .val (.int i4), .val (.long x), .second, .val (.long y), .second, .val (.long z), .second, s15, s16, .val (.int (3 : Int32)), .val (.ref b22), .val (.int sel), .val (.long nb), .second, .val (.int (0 : Int32)), s23, s24] [(.int (lcmpW z nb))])
                  refine Goes.ifc (pc' := 271) Xj26.here Xj26.ex (hb hby at_265) (by decide) (by decide) (fun hr3 => ?_) (fun hr3 => ?_)
                  · have hr3 : ¬ ((lcmpW z nb) < (0 : Int32)) := hr3
                    show Goes _ _ _ _ Tj26 (mkF m 271 #[.val (.long i0), .second, .val (.long i1), .second, .val (.long i2), .second, .val (.long i3), .second, .val (.int i4), .val (.long x), .second, .val (.long y), .second, .val (.long z), .second, s15, s16, .val (.int (3 : Int32)), .val (.ref b22), .val (.int sel), .val (.long nb), .second, .val (.int (0 : Int32)), s23, s24] [])
                    (try simp only [if_neg hr1, if_neg hr2, if_neg hr3] at hJ221 ⊢)
                    exact hJ221
                  · have hr3 : (lcmpW z nb) < (0 : Int32) := Classical.not_not.mp hr3
                    show Goes _ _ _ _ Tj26 (mkF m 268 #[.val (.long i0), .second, .val (.long i1), .second, .val (.long i2), .second, .val (.long i3), .second, .val (.int i4), .val (.long x), .second, .val (.long y), .second, .val (.long z), .second, s15, s16, .val (.int (3 : Int32)), .val (.ref b22), .val (.int sel), .val (.long nb), .second, .val (.int (0 : Int32)), s23, s24] [])
                    refine Goes.go (fun _ k => XS.iinc Xj26.here Xj26.ex rfl (hb hby at_268) rfl (l' := #[.val (.long i0), .second, .val (.long i1), .second, .val (.long i2), .second, .val (.long i3), .second, .val (.int i4), .val (.long x), .second, .val (.long y), .second, .val (.long z), .second, s15, s16, .val (.int (3 : Int32)), .val (.ref b22), .val (.int sel), .val (.long nb), .second, .val (.int ((0 : Int32) + (1 : Int32))), s23, s24]) rfl k) ?_
                    show Goes _ _ _ _ Tj26 (mkF m 271 #[.val (.long i0), .second, .val (.long i1), .second, .val (.long i2), .second, .val (.long i3), .second, .val (.int i4), .val (.long x), .second, .val (.long y), .second, .val (.long z), .second, s15, s16, .val (.int (3 : Int32)), .val (.ref b22), .val (.int sel), .val (.long nb), .second, .val (.int ((0 : Int32) + (1 : Int32))), s23, s24] [])
                    refine Goes.cast (congrArg (fun zq_ => (mkF m 271 #[.val (.long i0), .second, .val (.long i1), .second, .val (.long i2), .second, .val (.long i3), .second, .val (.int i4), .val (.long x), .second, .val (.long y), .second, .val (.long z), .second, s15, s16, .val (.int (3 : Int32)), .val (.ref b22), .val (.int sel), .val (.long nb), .second, .val (.int zq_), s23, s24] [])) (show (((0 : Int32) + (1 : Int32)) : Int32) = (1 : Int32) from by decide)) ?_
                    show Goes _ _ _ _ Tj26 (mkF m 271 #[.val (.long i0), .second, .val (.long i1), .second, .val (.long i2), .second, .val (.long i3), .second, .val (.int i4), .val (.long x), .second, .val (.long y), .second, .val (.long z), .second, s15, s16, .val (.int (3 : Int32)), .val (.ref b22), .val (.int sel), .val (.long nb), .second, .val (.int (1 : Int32)), s23, s24] [])
                    (try simp only [if_neg hr1, if_neg hr2, if_pos hr3] at hJ221 ⊢)
                    exact hJ221
                · have hr2 : (lcmpW y nb) < (0 : Int32) := Classical.not_not.mp hr2
                  show Goes _ _ _ _ Tj26 (mkF m 251 #[.val (.long i0), .second, .val (.long i1), .second, .val (.long i2), .second, .val (.long i3), .second, .val (.int i4), .val (.long x), .second, .val (.long y), .second, .val (.long z), .second, s15, s16, .val (.int (3 : Int32)), .val (.ref b22), .val (.int sel), .val (.long nb), .second, .val (.int (0 : Int32)), s23, s24] [])
                  refine Goes.go (fun _ k => XS.iinc Xj26.here Xj26.ex rfl (hb hby at_251) rfl (l' := #[.val (.long i0), .second, .val (.long i1), .second, .val (.long i2), .second, .val (.long i3), .second, .val (.int i4), .val (.long x), .second, .val (.long y), .second, .val (.long z), .second, s15, s16, .val (.int (3 : Int32)), .val (.ref b22), .val (.int sel), .val (.long nb), .second, .val (.int ((0 : Int32) + (1 : Int32))), s23, s24]) rfl k) ?_
                  show Goes _ _ _ _ Tj26 (mkF m 254 #[.val (.long i0), .second, .val (.long i1), .second, .val (.long i2), .second, .val (.long i3), .second, .val (.int i4), .val (.long x), .second, .val (.long y), .second, .val (.long z), .second, s15, s16, .val (.int (3 : Int32)), .val (.ref b22), .val (.int sel), .val (.long nb), .second, .val (.int ((0 : Int32) + (1 : Int32))), s23, s24] [])
                  refine Goes.cast (congrArg (fun zq_ => (mkF m 254 #[.val (.long i0), .second, .val (.long i1), .second, .val (.long i2), .second, .val (.long i3), .second, .val (.int i4), .val (.long x), .second, .val (.long y), .second, .val (.long z), .second, s15, s16, .val (.int (3 : Int32)), .val (.ref b22), .val (.int sel), .val (.long nb), .second, .val (.int zq_), s23, s24] [])) (show (((0 : Int32) + (1 : Int32)) : Int32) = (1 : Int32) from by decide)) ?_
                  show Goes _ _ _ _ Tj26 (mkF m 254 #[.val (.long i0), .second, .val (.long i1), .second, .val (.long i2), .second, .val (.long i3), .second, .val (.int i4), .val (.long x), .second, .val (.long y), .second, .val (.long z), .second, s15, s16, .val (.int (3 : Int32)), .val (.ref b22), .val (.int sel), .val (.long nb), .second, .val (.int (1 : Int32)), s23, s24] [])
                  refine Goes.go (fun _ k => XS.iload Xj26.here Xj26.ex rfl (hb hby at_254) rfl (XS.iconst Xj26.here Xj26.ex rfl (hb hby at_256) (XS.icmpNo Xj26.here Xj26.ex rfl (hb hby at_257) rfl (cd_f (cd := .le) (x := (3 : Int32)) (y := (2 : Int32)) (by decide)) (XS.lload Xj26.here Xj26.ex rfl (hb hby at_260) rfl (XS.lload Xj26.here Xj26.ex rfl (hb hby at_262) rfl (XS.lcmp Xj26.here Xj26.ex rfl (hb hby at_264) rfl k)))))) ?_
                  show Goes _ _ _ _ Tj26 (mkF m 265 #[.val (.long i0), .second, .val (.long i1), .second, .val (.long i2), .second, .val (.long i3), .second, .val (.int i4), .val (.long x), .second, .val (.long y), .second, .val (.long z), .second, s15, s16, .val (.int (3 : Int32)), .val (.ref b22), .val (.int sel), .val (.long nb), .second, .val (.int (1 : Int32)), s23, s24] [(.int (lcmpW z nb))])
                  refine Goes.ifc (pc' := 271) Xj26.here Xj26.ex (hb hby at_265) (by decide) (by decide) (fun hr4 => ?_) (fun hr4 => ?_)
                  · have hr4 : ¬ ((lcmpW z nb) < (0 : Int32)) := hr4
                    show Goes _ _ _ _ Tj26 (mkF m 271 #[.val (.long i0), .second, .val (.long i1), .second, .val (.long i2), .second, .val (.long i3), .second, .val (.int i4), .val (.long x), .second, .val (.long y), .second, .val (.long z), .second, s15, s16, .val (.int (3 : Int32)), .val (.ref b22), .val (.int sel), .val (.long nb), .second, .val (.int (1 : Int32)), s23, s24] [])
                    (try simp only [if_neg hr1, if_pos hr2, if_neg hr4] at hJ221 ⊢)
                    exact hJ221
                  · have hr4 : (lcmpW z nb) < (0 : Int32) := Classical.not_not.mp hr4
                    show Goes _ _ _ _ Tj26 (mkF m 268 #[.val (.long i0), .second, .val (.long i1), .second, .val (.long i2), .second, .val (.long i3), .second, .val (.int i4), .val (.long x), .second, .val (.long y), .second, .val (.long z), .second, s15, s16, .val (.int (3 : Int32)), .val (.ref b22), .val (.int sel), .val (.long nb), .second, .val (.int (1 : Int32)), s23, s24] [])
                    refine Goes.go (fun _ k => XS.iinc Xj26.here Xj26.ex rfl (hb hby at_268) rfl (l' := #[.val (.long i0), .second, .val (.long i1), .second, .val (.long i2), .second, .val (.long i3), .second, .val (.int i4), .val (.long x), .second, .val (.long y), .second, .val (.long z), .second, s15, s16, .val (.int (3 : Int32)), .val (.ref b22), .val (.int sel), .val (.long nb), .second, .val (.int ((1 : Int32) + (1 : Int32))), s23, s24]) rfl k) ?_
                    show Goes _ _ _ _ Tj26 (mkF m 271 #[.val (.long i0), .second, .val (.long i1), .second, .val (.long i2), .second, .val (.long i3), .second, .val (.int i4), .val (.long x), .second, .val (.long y), .second, .val (.long z), .second, s15, s16, .val (.int (3 : Int32)), .val (.ref b22), .val (.int sel), .val (.long nb), .second, .val (.int ((1 : Int32) + (1 : Int32))), s23, s24] [])
                    refine Goes.cast (congrArg (fun zq_ => (mkF m 271 #[.val (.long i0), .second, .val (.long i1), .second, .val (.long i2), .second, .val (.long i3), .second, .val (.int i4), .val (.long x), .second, .val (.long y), .second, .val (.long z), .second, s15, s16, .val (.int (3 : Int32)), .val (.ref b22), .val (.int sel), .val (.long nb), .second, .val (.int zq_), s23, s24] [])) (show (((1 : Int32) + (1 : Int32)) : Int32) = (2 : Int32) from by decide)) ?_
                    show Goes _ _ _ _ Tj26 (mkF m 271 #[.val (.long i0), .second, .val (.long i1), .second, .val (.long i2), .second, .val (.long i3), .second, .val (.int i4), .val (.long x), .second, .val (.long y), .second, .val (.long z), .second, s15, s16, .val (.int (3 : Int32)), .val (.ref b22), .val (.int sel), .val (.long nb), .second, .val (.int (2 : Int32)), s23, s24] [])
                    (try simp only [if_neg hr1, if_pos hr2, if_pos hr4] at hJ221 ⊢)
                    exact hJ221
              · have hr1 : (lcmpW x nb) < (0 : Int32) := Classical.not_not.mp hr1
                show Goes _ _ _ _ Tj26 (mkF m 234 #[.val (.long i0), .second, .val (.long i1), .second, .val (.long i2), .second, .val (.long i3), .second, .val (.int i4), .val (.long x), .second, .val (.long y), .second, .val (.long z), .second, s15, s16, .val (.int (3 : Int32)), .val (.ref b22), .val (.int sel), .val (.long nb), .second, .val (.int (0 : Int32)), s23, s24] [])
                refine Goes.go (fun _ k => XS.iinc Xj26.here Xj26.ex rfl (hb hby at_234) rfl (l' := #[.val (.long i0), .second, .val (.long i1), .second, .val (.long i2), .second, .val (.long i3), .second, .val (.int i4), .val (.long x), .second, .val (.long y), .second, .val (.long z), .second, s15, s16, .val (.int (3 : Int32)), .val (.ref b22), .val (.int sel), .val (.long nb), .second, .val (.int ((0 : Int32) + (1 : Int32))), s23, s24]) rfl k) ?_
                show Goes _ _ _ _ Tj26 (mkF m 237 #[.val (.long i0), .second, .val (.long i1), .second, .val (.long i2), .second, .val (.long i3), .second, .val (.int i4), .val (.long x), .second, .val (.long y), .second, .val (.long z), .second, s15, s16, .val (.int (3 : Int32)), .val (.ref b22), .val (.int sel), .val (.long nb), .second, .val (.int ((0 : Int32) + (1 : Int32))), s23, s24] [])
                refine Goes.cast (congrArg (fun zq_ => (mkF m 237 #[.val (.long i0), .second, .val (.long i1), .second, .val (.long i2), .second, .val (.long i3), .second, .val (.int i4), .val (.long x), .second, .val (.long y), .second, .val (.long z), .second, s15, s16, .val (.int (3 : Int32)), .val (.ref b22), .val (.int sel), .val (.long nb), .second, .val (.int zq_), s23, s24] [])) (show (((0 : Int32) + (1 : Int32)) : Int32) = (1 : Int32) from by decide)) ?_
                show Goes _ _ _ _ Tj26 (mkF m 237 #[.val (.long i0), .second, .val (.long i1), .second, .val (.long i2), .second, .val (.long i3), .second, .val (.int i4), .val (.long x), .second, .val (.long y), .second, .val (.long z), .second, s15, s16, .val (.int (3 : Int32)), .val (.ref b22), .val (.int sel), .val (.long nb), .second, .val (.int (1 : Int32)), s23, s24] [])
                refine Goes.go (fun _ k => XS.iload Xj26.here Xj26.ex rfl (hb hby at_237) rfl (XS.iconst Xj26.here Xj26.ex rfl (hb hby at_239) (XS.icmpNo Xj26.here Xj26.ex rfl (hb hby at_240) rfl (cd_f (cd := .le) (x := (3 : Int32)) (y := (1 : Int32)) (by decide)) (XS.lload Xj26.here Xj26.ex rfl (hb hby at_243) rfl (XS.lload Xj26.here Xj26.ex rfl (hb hby at_245) rfl (XS.lcmp Xj26.here Xj26.ex rfl (hb hby at_247) rfl k)))))) ?_
                show Goes _ _ _ _ Tj26 (mkF m 248 #[.val (.long i0), .second, .val (.long i1), .second, .val (.long i2), .second, .val (.long i3), .second, .val (.int i4), .val (.long x), .second, .val (.long y), .second, .val (.long z), .second, s15, s16, .val (.int (3 : Int32)), .val (.ref b22), .val (.int sel), .val (.long nb), .second, .val (.int (1 : Int32)), s23, s24] [(.int (lcmpW y nb))])
                refine Goes.ifc (pc' := 254) Xj26.here Xj26.ex (hb hby at_248) (by decide) (by decide) (fun hr5 => ?_) (fun hr5 => ?_)
                · have hr5 : ¬ ((lcmpW y nb) < (0 : Int32)) := hr5
                  show Goes _ _ _ _ Tj26 (mkF m 254 #[.val (.long i0), .second, .val (.long i1), .second, .val (.long i2), .second, .val (.long i3), .second, .val (.int i4), .val (.long x), .second, .val (.long y), .second, .val (.long z), .second, s15, s16, .val (.int (3 : Int32)), .val (.ref b22), .val (.int sel), .val (.long nb), .second, .val (.int (1 : Int32)), s23, s24] [])
                  refine Goes.go (fun _ k => XS.iload Xj26.here Xj26.ex rfl (hb hby at_254) rfl (XS.iconst Xj26.here Xj26.ex rfl (hb hby at_256) (XS.icmpNo Xj26.here Xj26.ex rfl (hb hby at_257) rfl (cd_f (cd := .le) (x := (3 : Int32)) (y := (2 : Int32)) (by decide)) (XS.lload Xj26.here Xj26.ex rfl (hb hby at_260) rfl (XS.lload Xj26.here Xj26.ex rfl (hb hby at_262) rfl (XS.lcmp Xj26.here Xj26.ex rfl (hb hby at_264) rfl k)))))) ?_
                  show Goes _ _ _ _ Tj26 (mkF m 265 #[.val (.long i0), .second, .val (.long i1), .second, .val (.long i2), .second, .val (.long i3), .second, .val (.int i4), .val (.long x), .second, .val (.long y), .second, .val (.long z), .second, s15, s16, .val (.int (3 : Int32)), .val (.ref b22), .val (.int sel), .val (.long nb), .second, .val (.int (1 : Int32)), s23, s24] [(.int (lcmpW z nb))])
                  refine Goes.ifc (pc' := 271) Xj26.here Xj26.ex (hb hby at_265) (by decide) (by decide) (fun hr6 => ?_) (fun hr6 => ?_)
                  · have hr6 : ¬ ((lcmpW z nb) < (0 : Int32)) := hr6
                    show Goes _ _ _ _ Tj26 (mkF m 271 #[.val (.long i0), .second, .val (.long i1), .second, .val (.long i2), .second, .val (.long i3), .second, .val (.int i4), .val (.long x), .second, .val (.long y), .second, .val (.long z), .second, s15, s16, .val (.int (3 : Int32)), .val (.ref b22), .val (.int sel), .val (.long nb), .second, .val (.int (1 : Int32)), s23, s24] [])
                    (try simp only [if_pos hr1, if_neg hr5, if_neg hr6] at hJ221 ⊢)
                    exact hJ221
                  · have hr6 : (lcmpW z nb) < (0 : Int32) := Classical.not_not.mp hr6
                    show Goes _ _ _ _ Tj26 (mkF m 268 #[.val (.long i0), .second, .val (.long i1), .second, .val (.long i2), .second, .val (.long i3), .second, .val (.int i4), .val (.long x), .second, .val (.long y), .second, .val (.long z), .second, s15, s16, .val (.int (3 : Int32)), .val (.ref b22), .val (.int sel), .val (.long nb), .second, .val (.int (1 : Int32)), s23, s24] [])
                    refine Goes.go (fun _ k => XS.iinc Xj26.here Xj26.ex rfl (hb hby at_268) rfl (l' := #[.val (.long i0), .second, .val (.long i1), .second, .val (.long i2), .second, .val (.long i3), .second, .val (.int i4), .val (.long x), .second, .val (.long y), .second, .val (.long z), .second, s15, s16, .val (.int (3 : Int32)), .val (.ref b22), .val (.int sel), .val (.long nb), .second, .val (.int ((1 : Int32) + (1 : Int32))), s23, s24]) rfl k) ?_
                    show Goes _ _ _ _ Tj26 (mkF m 271 #[.val (.long i0), .second, .val (.long i1), .second, .val (.long i2), .second, .val (.long i3), .second, .val (.int i4), .val (.long x), .second, .val (.long y), .second, .val (.long z), .second, s15, s16, .val (.int (3 : Int32)), .val (.ref b22), .val (.int sel), .val (.long nb), .second, .val (.int ((1 : Int32) + (1 : Int32))), s23, s24] [])
                    refine Goes.cast (congrArg (fun zq_ => (mkF m 271 #[.val (.long i0), .second, .val (.long i1), .second, .val (.long i2), .second, .val (.long i3), .second, .val (.int i4), .val (.long x), .second, .val (.long y), .second, .val (.long z), .second, s15, s16, .val (.int (3 : Int32)), .val (.ref b22), .val (.int sel), .val (.long nb), .second, .val (.int zq_), s23, s24] [])) (show (((1 : Int32) + (1 : Int32)) : Int32) = (2 : Int32) from by decide)) ?_
                    show Goes _ _ _ _ Tj26 (mkF m 271 #[.val (.long i0), .second, .val (.long i1), .second, .val (.long i2), .second, .val (.long i3), .second, .val (.int i4), .val (.long x), .second, .val (.long y), .second, .val (.long z), .second, s15, s16, .val (.int (3 : Int32)), .val (.ref b22), .val (.int sel), .val (.long nb), .second, .val (.int (2 : Int32)), s23, s24] [])
                    (try simp only [if_pos hr1, if_neg hr5, if_pos hr6] at hJ221 ⊢)
                    exact hJ221
                · have hr5 : (lcmpW y nb) < (0 : Int32) := Classical.not_not.mp hr5
                  show Goes _ _ _ _ Tj26 (mkF m 251 #[.val (.long i0), .second, .val (.long i1), .second, .val (.long i2), .second, .val (.long i3), .second, .val (.int i4), .val (.long x), .second, .val (.long y), .second, .val (.long z), .second, s15, s16, .val (.int (3 : Int32)), .val (.ref b22), .val (.int sel), .val (.long nb), .second, .val (.int (1 : Int32)), s23, s24] [])
                  refine Goes.go (fun _ k => XS.iinc Xj26.here Xj26.ex rfl (hb hby at_251) rfl (l' := #[.val (.long i0), .second, .val (.long i1), .second, .val (.long i2), .second, .val (.long i3), .second, .val (.int i4), .val (.long x), .second, .val (.long y), .second, .val (.long z), .second, s15, s16, .val (.int (3 : Int32)), .val (.ref b22), .val (.int sel), .val (.long nb), .second, .val (.int ((1 : Int32) + (1 : Int32))), s23, s24]) rfl k) ?_
                  show Goes _ _ _ _ Tj26 (mkF m 254 #[.val (.long i0), .second, .val (.long i1), .second, .val (.long i2), .second, .val (.long i3), .second, .val (.int i4), .val (.long x), .second, .val (.long y), .second, .val (.long z), .second, s15, s16, .val (.int (3 : Int32)), .val (.ref b22), .val (.int sel), .val (.long nb), .second, .val (.int ((1 : Int32) + (1 : Int32))), s23, s24] [])
                  refine Goes.cast (congrArg (fun zq_ => (mkF m 254 #[.val (.long i0), .second, .val (.long i1), .second, .val (.long i2), .second, .val (.long i3), .second, .val (.int i4), .val (.long x), .second, .val (.long y), .second, .val (.long z), .second, s15, s16, .val (.int (3 : Int32)), .val (.ref b22), .val (.int sel), .val (.long nb), .second, .val (.int zq_), s23, s24] [])) (show (((1 : Int32) + (1 : Int32)) : Int32) = (2 : Int32) from by decide)) ?_
                  show Goes _ _ _ _ Tj26 (mkF m 254 #[.val (.long i0), .second, .val (.long i1), .second, .val (.long i2), .second, .val (.long i3), .second, .val (.int i4), .val (.long x), .second, .val (.long y), .second, .val (.long z), .second, s15, s16, .val (.int (3 : Int32)), .val (.ref b22), .val (.int sel), .val (.long nb), .second, .val (.int (2 : Int32)), s23, s24] [])
                  refine Goes.go (fun _ k => XS.iload Xj26.here Xj26.ex rfl (hb hby at_254) rfl (XS.iconst Xj26.here Xj26.ex rfl (hb hby at_256) (XS.icmpNo Xj26.here Xj26.ex rfl (hb hby at_257) rfl (cd_f (cd := .le) (x := (3 : Int32)) (y := (2 : Int32)) (by decide)) (XS.lload Xj26.here Xj26.ex rfl (hb hby at_260) rfl (XS.lload Xj26.here Xj26.ex rfl (hb hby at_262) rfl (XS.lcmp Xj26.here Xj26.ex rfl (hb hby at_264) rfl k)))))) ?_
                  show Goes _ _ _ _ Tj26 (mkF m 265 #[.val (.long i0), .second, .val (.long i1), .second, .val (.long i2), .second, .val (.long i3), .second, .val (.int i4), .val (.long x), .second, .val (.long y), .second, .val (.long z), .second, s15, s16, .val (.int (3 : Int32)), .val (.ref b22), .val (.int sel), .val (.long nb), .second, .val (.int (2 : Int32)), s23, s24] [(.int (lcmpW z nb))])
                  refine Goes.ifc (pc' := 271) Xj26.here Xj26.ex (hb hby at_265) (by decide) (by decide) (fun hr7 => ?_) (fun hr7 => ?_)
                  · have hr7 : ¬ ((lcmpW z nb) < (0 : Int32)) := hr7
                    show Goes _ _ _ _ Tj26 (mkF m 271 #[.val (.long i0), .second, .val (.long i1), .second, .val (.long i2), .second, .val (.long i3), .second, .val (.int i4), .val (.long x), .second, .val (.long y), .second, .val (.long z), .second, s15, s16, .val (.int (3 : Int32)), .val (.ref b22), .val (.int sel), .val (.long nb), .second, .val (.int (2 : Int32)), s23, s24] [])
                    (try simp only [if_pos hr1, if_pos hr5, if_neg hr7] at hJ221 ⊢)
                    exact hJ221
                  · have hr7 : (lcmpW z nb) < (0 : Int32) := Classical.not_not.mp hr7
                    show Goes _ _ _ _ Tj26 (mkF m 268 #[.val (.long i0), .second, .val (.long i1), .second, .val (.long i2), .second, .val (.long i3), .second, .val (.int i4), .val (.long x), .second, .val (.long y), .second, .val (.long z), .second, s15, s16, .val (.int (3 : Int32)), .val (.ref b22), .val (.int sel), .val (.long nb), .second, .val (.int (2 : Int32)), s23, s24] [])
                    refine Goes.go (fun _ k => XS.iinc Xj26.here Xj26.ex rfl (hb hby at_268) rfl (l' := #[.val (.long i0), .second, .val (.long i1), .second, .val (.long i2), .second, .val (.long i3), .second, .val (.int i4), .val (.long x), .second, .val (.long y), .second, .val (.long z), .second, s15, s16, .val (.int (3 : Int32)), .val (.ref b22), .val (.int sel), .val (.long nb), .second, .val (.int ((2 : Int32) + (1 : Int32))), s23, s24]) rfl k) ?_
                    show Goes _ _ _ _ Tj26 (mkF m 271 #[.val (.long i0), .second, .val (.long i1), .second, .val (.long i2), .second, .val (.long i3), .second, .val (.int i4), .val (.long x), .second, .val (.long y), .second, .val (.long z), .second, s15, s16, .val (.int (3 : Int32)), .val (.ref b22), .val (.int sel), .val (.long nb), .second, .val (.int ((2 : Int32) + (1 : Int32))), s23, s24] [])
                    refine Goes.cast (congrArg (fun zq_ => (mkF m 271 #[.val (.long i0), .second, .val (.long i1), .second, .val (.long i2), .second, .val (.long i3), .second, .val (.int i4), .val (.long x), .second, .val (.long y), .second, .val (.long z), .second, s15, s16, .val (.int (3 : Int32)), .val (.ref b22), .val (.int sel), .val (.long nb), .second, .val (.int zq_), s23, s24] [])) (show (((2 : Int32) + (1 : Int32)) : Int32) = (3 : Int32) from by decide)) ?_
                    show Goes _ _ _ _ Tj26 (mkF m 271 #[.val (.long i0), .second, .val (.long i1), .second, .val (.long i2), .second, .val (.long i3), .second, .val (.int i4), .val (.long x), .second, .val (.long y), .second, .val (.long z), .second, s15, s16, .val (.int (3 : Int32)), .val (.ref b22), .val (.int sel), .val (.long nb), .second, .val (.int (3 : Int32)), s23, s24] [])
                    (try simp only [if_pos hr1, if_pos hr5, if_pos hr7] at hJ221 ⊢)
                    exact hJ221
            refine Goes.go (fun _ k => XS.aload Xj26.here Xj26.ex rfl (hb hby at_271) rfl rfl (XS.lload Xj26.here Xj26.ex rfl (hb hby at_273) rfl k)) ?_
            show Goes _ _ _ _ Tj26 (mkF m 275 #[.val (.long i0), .second, .val (.long i1), .second, .val (.long i2), .second, .val (.long i3), .second, .val (.int i4), .val (.long x), .second, .val (.long y), .second, .val (.long z), .second, s15, s16, .val (.int (3 : Int32)), .val (.ref b22), .val (.int sel), .val (.long nb), .second, .val (.int (if (lcmpW x nb) < (0 : Int32) then (if (lcmpW y nb) < (0 : Int32) then (if (lcmpW z nb) < (0 : Int32) then (3 : Int32) else (2 : Int32)) else (if (lcmpW z nb) < (0 : Int32) then (2 : Int32) else (1 : Int32))) else (if (lcmpW y nb) < (0 : Int32) then (if (lcmpW z nb) < (0 : Int32) then (2 : Int32) else (1 : Int32)) else (if (lcmpW z nb) < (0 : Int32) then (1 : Int32) else (0 : Int32))))), s23, s24] [(.long nb), (.ref b22)])
            refine Wk.static (hm' := fun _ => hj26) (y := (⟨"com/example/assent/assent/log/CrashSet", "insertionPoint", "([JJ)I"⟩ : MethodName)) (W := 0) (kc := 0) (ks := 0) (argsL := [(.ref b22), (.long nb)]) (rest := []) (as' := #[(.ref b22), (.long nb)]) (ws := []) Xj26 (w_2 hw) (w_3 hw) (w_4 hw) (w_5 hw) (by decide) (CtrN.pays (own_ip_3 l Z a0 hw hj26 Xj26.old b22 k22 nb x y z V s1 s2) (w_5 hw) (w_4 hw) (by decide) (by decide)) (fun v h' L q => ⟨q.2, q.1.1⟩) all0 (fun _ => Mark.stay all0) rfl (by rw [hml]; rfl) (lenOf pd_1 rfl) rfl rfl (by show 2 * 0 + _ ≤ _; exact Nat.le_of_eq rfl) (hb hby at_275) (by decide) (by decide) ?_
            intro T27 h27 v27 L27 X27 q27 K27
            obtain ⟨⟨-, rfl⟩, -⟩ := q27
            show Goes _ _ _ _ T27 (mkF m 278 #[.val (.long i0), .second, .val (.long i1), .second, .val (.long i2), .second, .val (.long i3), .second, .val (.int i4), .val (.long x), .second, .val (.long y), .second, .val (.long z), .second, s15, s16, .val (.int (3 : Int32)), .val (.ref b22), .val (.int sel), .val (.long nb), .second, .val (.int (if (lcmpW x nb) < (0 : Int32) then (if (lcmpW y nb) < (0 : Int32) then (if (lcmpW z nb) < (0 : Int32) then (3 : Int32) else (2 : Int32)) else (if (lcmpW z nb) < (0 : Int32) then (2 : Int32) else (1 : Int32))) else (if (lcmpW y nb) < (0 : Int32) then (if (lcmpW z nb) < (0 : Int32) then (2 : Int32) else (1 : Int32)) else (if (lcmpW z nb) < (0 : Int32) then (1 : Int32) else (0 : Int32))))), s23, s24] [(.int (own_cnt [x, y, z] nb))])
            rcases hs with ⟨rfl, rfl⟩ | ⟨bb, rfl, rfl⟩
            · show Goes _ _ _ _ T27 (mkF m 278 #[.val (.long i0), .second, .val (.long i1), .second, .val (.long i2), .second, .val (.long i3), .second, .val (.int i4), .val (.long x), .second, .val (.long y), .second, .val (.long z), .second, s15, s16, .val (.int (3 : Int32)), .val (.ref b22), .val (.int sel), .val (.long nb), .second, .val (.int (if (lcmpW x nb) < (0 : Int32) then (if (lcmpW y nb) < (0 : Int32) then (if (lcmpW z nb) < (0 : Int32) then (3 : Int32) else (2 : Int32)) else (if (lcmpW z nb) < (0 : Int32) then (2 : Int32) else (1 : Int32))) else (if (lcmpW y nb) < (0 : Int32) then (if (lcmpW z nb) < (0 : Int32) then (2 : Int32) else (1 : Int32)) else (if (lcmpW z nb) < (0 : Int32) then (1 : Int32) else (0 : Int32))))), .unset, .unset] [(.int (own_cnt [x, y, z] nb))])
              refine Goes.go (fun _ k => XS.istore X27.here X27.ex rfl (hb hby at_278) rfl (l' := #[.val (.long i0), .second, .val (.long i1), .second, .val (.long i2), .second, .val (.long i3), .second, .val (.int i4), .val (.long x), .second, .val (.long y), .second, .val (.long z), .second, s15, s16, .val (.int (3 : Int32)), .val (.ref b22), .val (.int sel), .val (.long nb), .second, .val (.int (if (lcmpW x nb) < (0 : Int32) then (if (lcmpW y nb) < (0 : Int32) then (if (lcmpW z nb) < (0 : Int32) then (3 : Int32) else (2 : Int32)) else (if (lcmpW z nb) < (0 : Int32) then (2 : Int32) else (1 : Int32))) else (if (lcmpW y nb) < (0 : Int32) then (if (lcmpW z nb) < (0 : Int32) then (2 : Int32) else (1 : Int32)) else (if (lcmpW z nb) < (0 : Int32) then (1 : Int32) else (0 : Int32))))), .val (.int (own_cnt [x, y, z] nb)), .unset]) rfl (XS.iload X27.here X27.ex rfl (hb hby at_280) rfl (XS.iload X27.here X27.ex rfl (hb hby at_282) rfl k))) ?_
              show Goes _ _ _ _ T27 (mkF m 284 #[.val (.long i0), .second, .val (.long i1), .second, .val (.long i2), .second, .val (.long i3), .second, .val (.int i4), .val (.long x), .second, .val (.long y), .second, .val (.long z), .second, s15, s16, .val (.int (3 : Int32)), .val (.ref b22), .val (.int sel), .val (.long nb), .second, .val (.int (if (lcmpW x nb) < (0 : Int32) then (if (lcmpW y nb) < (0 : Int32) then (if (lcmpW z nb) < (0 : Int32) then (3 : Int32) else (2 : Int32)) else (if (lcmpW z nb) < (0 : Int32) then (2 : Int32) else (1 : Int32))) else (if (lcmpW y nb) < (0 : Int32) then (if (lcmpW z nb) < (0 : Int32) then (2 : Int32) else (1 : Int32)) else (if (lcmpW z nb) < (0 : Int32) then (1 : Int32) else (0 : Int32))))), .val (.int (own_cnt [x, y, z] nb)), .unset] [(.int (if (lcmpW x nb) < (0 : Int32) then (if (lcmpW y nb) < (0 : Int32) then (if (lcmpW z nb) < (0 : Int32) then (3 : Int32) else (2 : Int32)) else (if (lcmpW z nb) < (0 : Int32) then (2 : Int32) else (1 : Int32))) else (if (lcmpW y nb) < (0 : Int32) then (if (lcmpW z nb) < (0 : Int32) then (2 : Int32) else (1 : Int32)) else (if (lcmpW z nb) < (0 : Int32) then (1 : Int32) else (0 : Int32))))), (.int (own_cnt [x, y, z] nb))])
              refine Goes.go (fun _ k => XS.icmpNo X27.here X27.ex rfl (hb hby at_284) rfl (cd_f (cd := .ne) (x := (own_cnt [x, y, z] nb)) (y := (if (lcmpW x nb) < (0 : Int32) then (if (lcmpW y nb) < (0 : Int32) then (if (lcmpW z nb) < (0 : Int32) then (3 : Int32) else (2 : Int32)) else (if (lcmpW z nb) < (0 : Int32) then (2 : Int32) else (1 : Int32))) else (if (lcmpW y nb) < (0 : Int32) then (if (lcmpW z nb) < (0 : Int32) then (2 : Int32) else (1 : Int32)) else (if (lcmpW z nb) < (0 : Int32) then (1 : Int32) else (0 : Int32))))) ((fun q => absurd (own_plain3 nb x y z) q))) k) ?_
              show Goes _ _ _ _ T27 (mkF m 287 #[.val (.long i0), .second, .val (.long i1), .second, .val (.long i2), .second, .val (.long i3), .second, .val (.int i4), .val (.long x), .second, .val (.long y), .second, .val (.long z), .second, s15, s16, .val (.int (3 : Int32)), .val (.ref b22), .val (.int sel), .val (.long nb), .second, .val (.int (if (lcmpW x nb) < (0 : Int32) then (if (lcmpW y nb) < (0 : Int32) then (if (lcmpW z nb) < (0 : Int32) then (3 : Int32) else (2 : Int32)) else (if (lcmpW z nb) < (0 : Int32) then (2 : Int32) else (1 : Int32))) else (if (lcmpW y nb) < (0 : Int32) then (if (lcmpW z nb) < (0 : Int32) then (2 : Int32) else (1 : Int32)) else (if (lcmpW z nb) < (0 : Int32) then (1 : Int32) else (0 : Int32))))), .val (.int (own_cnt [x, y, z] nb)), .unset] [])
              refine Goes.go (fun _ k => XS.iconst X27.here X27.ex rfl (hb hby at_287) (XS.goto X27.here X27.ex rfl (pc0 := 288) (pc' := 292) rfl (hb hby at_288) (by decide) (by decide) k)) ?_
              show Goes _ _ _ _ T27 (mkF m 292 #[.val (.long i0), .second, .val (.long i1), .second, .val (.long i2), .second, .val (.long i3), .second, .val (.int i4), .val (.long x), .second, .val (.long y), .second, .val (.long z), .second, s15, s16, .val (.int (3 : Int32)), .val (.ref b22), .val (.int sel), .val (.long nb), .second, .val (.int (if (lcmpW x nb) < (0 : Int32) then (if (lcmpW y nb) < (0 : Int32) then (if (lcmpW z nb) < (0 : Int32) then (3 : Int32) else (2 : Int32)) else (if (lcmpW z nb) < (0 : Int32) then (2 : Int32) else (1 : Int32))) else (if (lcmpW y nb) < (0 : Int32) then (if (lcmpW z nb) < (0 : Int32) then (2 : Int32) else (1 : Int32)) else (if (lcmpW z nb) < (0 : Int32) then (1 : Int32) else (0 : Int32))))), .val (.int (own_cnt [x, y, z] nb)), .unset] [(.int (1 : Int32))])
              refine Goes.outN X27 (fun q => by rw [hret] at q; cases q) hlk (X27.rB hret (by simp) (hb hby at_292)) ?_ (by decide) (by decide)
              exact rfl
            · show Goes _ _ _ _ T27 (mkF m 278 #[.val (.long i0), .second, .val (.long i1), .second, .val (.long i2), .second, .val (.long i3), .second, .val (.int i4), .val (.long x), .second, .val (.long y), .second, .val (.long z), .second, s15, s16, .val (.int (3 : Int32)), .val (.ref b22), .val (.int sel), .val (.long nb), .second, .val (.int (if (lcmpW x nb) < (0 : Int32) then (if (lcmpW y nb) < (0 : Int32) then (if (lcmpW z nb) < (0 : Int32) then (3 : Int32) else (2 : Int32)) else (if (lcmpW z nb) < (0 : Int32) then (2 : Int32) else (1 : Int32))) else (if (lcmpW y nb) < (0 : Int32) then (if (lcmpW z nb) < (0 : Int32) then (2 : Int32) else (1 : Int32)) else (if (lcmpW z nb) < (0 : Int32) then (1 : Int32) else (0 : Int32))))), .val (.long bb), .second] [(.int (own_cnt [x, y, z] nb))])
              refine Goes.go (fun _ k => XS.istore X27.here X27.ex rfl (hb hby at_278) rfl (l' := #[.val (.long i0), .second, .val (.long i1), .second, .val (.long i2), .second, .val (.long i3), .second, .val (.int i4), .val (.long x), .second, .val (.long y), .second, .val (.long z), .second, s15, s16, .val (.int (3 : Int32)), .val (.ref b22), .val (.int sel), .val (.long nb), .second, .val (.int (if (lcmpW x nb) < (0 : Int32) then (if (lcmpW y nb) < (0 : Int32) then (if (lcmpW z nb) < (0 : Int32) then (3 : Int32) else (2 : Int32)) else (if (lcmpW z nb) < (0 : Int32) then (2 : Int32) else (1 : Int32))) else (if (lcmpW y nb) < (0 : Int32) then (if (lcmpW z nb) < (0 : Int32) then (2 : Int32) else (1 : Int32)) else (if (lcmpW z nb) < (0 : Int32) then (1 : Int32) else (0 : Int32))))), .val (.int (own_cnt [x, y, z] nb)), .unset]) rfl (XS.iload X27.here X27.ex rfl (hb hby at_280) rfl (XS.iload X27.here X27.ex rfl (hb hby at_282) rfl k))) ?_
              show Goes _ _ _ _ T27 (mkF m 284 #[.val (.long i0), .second, .val (.long i1), .second, .val (.long i2), .second, .val (.long i3), .second, .val (.int i4), .val (.long x), .second, .val (.long y), .second, .val (.long z), .second, s15, s16, .val (.int (3 : Int32)), .val (.ref b22), .val (.int sel), .val (.long nb), .second, .val (.int (if (lcmpW x nb) < (0 : Int32) then (if (lcmpW y nb) < (0 : Int32) then (if (lcmpW z nb) < (0 : Int32) then (3 : Int32) else (2 : Int32)) else (if (lcmpW z nb) < (0 : Int32) then (2 : Int32) else (1 : Int32))) else (if (lcmpW y nb) < (0 : Int32) then (if (lcmpW z nb) < (0 : Int32) then (2 : Int32) else (1 : Int32)) else (if (lcmpW z nb) < (0 : Int32) then (1 : Int32) else (0 : Int32))))), .val (.int (own_cnt [x, y, z] nb)), .unset] [(.int (if (lcmpW x nb) < (0 : Int32) then (if (lcmpW y nb) < (0 : Int32) then (if (lcmpW z nb) < (0 : Int32) then (3 : Int32) else (2 : Int32)) else (if (lcmpW z nb) < (0 : Int32) then (2 : Int32) else (1 : Int32))) else (if (lcmpW y nb) < (0 : Int32) then (if (lcmpW z nb) < (0 : Int32) then (2 : Int32) else (1 : Int32)) else (if (lcmpW z nb) < (0 : Int32) then (1 : Int32) else (0 : Int32))))), (.int (own_cnt [x, y, z] nb))])
              refine Goes.go (fun _ k => XS.icmpNo X27.here X27.ex rfl (hb hby at_284) rfl (cd_f (cd := .ne) (x := (own_cnt [x, y, z] nb)) (y := (if (lcmpW x nb) < (0 : Int32) then (if (lcmpW y nb) < (0 : Int32) then (if (lcmpW z nb) < (0 : Int32) then (3 : Int32) else (2 : Int32)) else (if (lcmpW z nb) < (0 : Int32) then (2 : Int32) else (1 : Int32))) else (if (lcmpW y nb) < (0 : Int32) then (if (lcmpW z nb) < (0 : Int32) then (2 : Int32) else (1 : Int32)) else (if (lcmpW z nb) < (0 : Int32) then (1 : Int32) else (0 : Int32))))) ((fun q => absurd (own_plain3 nb x y z) q))) k) ?_
              show Goes _ _ _ _ T27 (mkF m 287 #[.val (.long i0), .second, .val (.long i1), .second, .val (.long i2), .second, .val (.long i3), .second, .val (.int i4), .val (.long x), .second, .val (.long y), .second, .val (.long z), .second, s15, s16, .val (.int (3 : Int32)), .val (.ref b22), .val (.int sel), .val (.long nb), .second, .val (.int (if (lcmpW x nb) < (0 : Int32) then (if (lcmpW y nb) < (0 : Int32) then (if (lcmpW z nb) < (0 : Int32) then (3 : Int32) else (2 : Int32)) else (if (lcmpW z nb) < (0 : Int32) then (2 : Int32) else (1 : Int32))) else (if (lcmpW y nb) < (0 : Int32) then (if (lcmpW z nb) < (0 : Int32) then (2 : Int32) else (1 : Int32)) else (if (lcmpW z nb) < (0 : Int32) then (1 : Int32) else (0 : Int32))))), .val (.int (own_cnt [x, y, z] nb)), .unset] [])
              refine Goes.go (fun _ k => XS.iconst X27.here X27.ex rfl (hb hby at_287) (XS.goto X27.here X27.ex rfl (pc0 := 288) (pc' := 292) rfl (hb hby at_288) (by decide) (by decide) k)) ?_
              show Goes _ _ _ _ T27 (mkF m 292 #[.val (.long i0), .second, .val (.long i1), .second, .val (.long i2), .second, .val (.long i3), .second, .val (.int i4), .val (.long x), .second, .val (.long y), .second, .val (.long z), .second, s15, s16, .val (.int (3 : Int32)), .val (.ref b22), .val (.int sel), .val (.long nb), .second, .val (.int (if (lcmpW x nb) < (0 : Int32) then (if (lcmpW y nb) < (0 : Int32) then (if (lcmpW z nb) < (0 : Int32) then (3 : Int32) else (2 : Int32)) else (if (lcmpW z nb) < (0 : Int32) then (2 : Int32) else (1 : Int32))) else (if (lcmpW y nb) < (0 : Int32) then (if (lcmpW z nb) < (0 : Int32) then (2 : Int32) else (1 : Int32)) else (if (lcmpW z nb) < (0 : Int32) then (1 : Int32) else (0 : Int32))))), .val (.int (own_cnt [x, y, z] nb)), .unset] [(.int (1 : Int32))])
              refine Goes.outN X27 (fun q => by rw [hret] at q; cases q) hlk (X27.rB hret (by simp) (hb hby at_292)) ?_ (by decide) (by decide)
              exact rfl
          refine Goes.go (fun _ k => XS.iload X25.here X25.ex rfl (hb hby at_161) rfl (XS.bipush X25.here X25.ex rfl (hb hby at_163) k)) ?_
          show Goes _ _ _ _ T25 (mkF m 165 #[.val (.long i0), .second, .val (.long i1), .second, .val (.long i2), .second, .val (.long i3), .second, .val (.int i4), .val (.long x), .second, .val (.long y), .second, .val (.long z), .second, s15, s16, .val (.int (3 : Int32)), .val (.ref b22), .val (.int sel), .unset, .unset, .unset, .unset, .unset] [(.int (9 : Int32)), (.int sel)])
          refine Goes.icmp (pc' := 175) X25.here X25.ex (hb hby at_165) (by decide) (by decide) (fun hc165 => ?_) (fun hc165 => ?_)
          · have hc165 : ¬ (sel = (9 : Int32)) := hc165
            show Goes _ _ _ _ T25 (mkF m 175 #[.val (.long i0), .second, .val (.long i1), .second, .val (.long i2), .second, .val (.long i3), .second, .val (.int i4), .val (.long x), .second, .val (.long y), .second, .val (.long z), .second, s15, s16, .val (.int (3 : Int32)), .val (.ref b22), .val (.int sel), .unset, .unset, .unset, .unset, .unset] [])
            refine Goes.go (fun _ k => XS.iload X25.here X25.ex rfl (hb hby at_175) rfl (XS.iconst X25.here X25.ex rfl (hb hby at_177) (XS.idiv X25.here X25.ex rfl (hb hby at_178) rfl (by decide) (XS.istore X25.here X25.ex rfl (hb hby at_179) rfl (l' := #[.val (.long i0), .second, .val (.long i1), .second, .val (.long i2), .second, .val (.long i3), .second, .val (.int i4), .val (.long x), .second, .val (.long y), .second, .val (.long z), .second, s15, s16, .val (.int (3 : Int32)), .val (.ref b22), .val (.int sel), .unset, .unset, .val (.int (sel / (3 : Int32))), .unset, .unset]) rfl (XS.iload X25.here X25.ex rfl (hb hby at_181) rfl k))))) ?_
            show Goes _ _ _ _ T25 (mkF m 183 #[.val (.long i0), .second, .val (.long i1), .second, .val (.long i2), .second, .val (.long i3), .second, .val (.int i4), .val (.long x), .second, .val (.long y), .second, .val (.long z), .second, s15, s16, .val (.int (3 : Int32)), .val (.ref b22), .val (.int sel), .unset, .unset, .val (.int (sel / (3 : Int32))), .unset, .unset] [(.int (sel / (3 : Int32)))])
            refine Goes.ifc (pc' := 191) X25.here X25.ex (hb hby at_183) (by decide) (by decide) (fun hc183 => ?_) (fun hc183 => ?_)
            · have hc183 : ¬ ((sel / (3 : Int32)) = (0 : Int32)) := hc183
              show Goes _ _ _ _ T25 (mkF m 191 #[.val (.long i0), .second, .val (.long i1), .second, .val (.long i2), .second, .val (.long i3), .second, .val (.int i4), .val (.long x), .second, .val (.long y), .second, .val (.long z), .second, s15, s16, .val (.int (3 : Int32)), .val (.ref b22), .val (.int sel), .unset, .unset, .val (.int (sel / (3 : Int32))), .unset, .unset] [])
              refine Goes.go (fun _ k => XS.iload X25.here X25.ex rfl (hb hby at_191) rfl (XS.iconst X25.here X25.ex rfl (hb hby at_193) k)) ?_
              show Goes _ _ _ _ T25 (mkF m 194 #[.val (.long i0), .second, .val (.long i1), .second, .val (.long i2), .second, .val (.long i3), .second, .val (.int i4), .val (.long x), .second, .val (.long y), .second, .val (.long z), .second, s15, s16, .val (.int (3 : Int32)), .val (.ref b22), .val (.int sel), .unset, .unset, .val (.int (sel / (3 : Int32))), .unset, .unset] [(.int (1 : Int32)), (.int (sel / (3 : Int32)))])
              refine Goes.icmp (pc' := 202) X25.here X25.ex (hb hby at_194) (by decide) (by decide) (fun hc194 => ?_) (fun hc194 => ?_)
              · have hc194 : ¬ ((sel / (3 : Int32)) = (1 : Int32)) := hc194
                show Goes _ _ _ _ T25 (mkF m 202 #[.val (.long i0), .second, .val (.long i1), .second, .val (.long i2), .second, .val (.long i3), .second, .val (.int i4), .val (.long x), .second, .val (.long y), .second, .val (.long z), .second, s15, s16, .val (.int (3 : Int32)), .val (.ref b22), .val (.int sel), .unset, .unset, .val (.int (sel / (3 : Int32))), .unset, .unset] [])
                refine Goes.go (fun _ k => XS.lload X25.here X25.ex rfl (hb hby at_202) rfl (XS.lstore X25.here X25.ex rfl (hb hby at_204) rfl (l' := #[.val (.long i0), .second, .val (.long i1), .second, .val (.long i2), .second, .val (.long i3), .second, .val (.int i4), .val (.long x), .second, .val (.long y), .second, .val (.long z), .second, s15, s16, .val (.int (3 : Int32)), .val (.ref b22), .val (.int sel), .unset, .unset, .val (.int (sel / (3 : Int32))), .val (.long z), .second]) rfl (XS.lload X25.here X25.ex rfl (hb hby at_206) rfl (XS.iload X25.here X25.ex rfl (hb hby at_208) rfl (XS.iconst X25.here X25.ex rfl (hb hby at_210) (XS.irem X25.here X25.ex rfl (hb hby at_211) rfl (by decide) k)))))) ?_
                show Goes _ _ _ _ T25 (mkF m 212 #[.val (.long i0), .second, .val (.long i1), .second, .val (.long i2), .second, .val (.long i3), .second, .val (.int i4), .val (.long x), .second, .val (.long y), .second, .val (.long z), .second, s15, s16, .val (.int (3 : Int32)), .val (.ref b22), .val (.int sel), .unset, .unset, .val (.int (sel / (3 : Int32))), .val (.long z), .second] [(.int (sel - (sel / (3 : Int32)) * (3 : Int32))), (.long z)])
                refine Goes.go (fun _ k => XS.iconst X25.here X25.ex rfl (hb hby at_212) (XS.isub X25.here X25.ex rfl (hb hby at_213) rfl (XS.i2l X25.here X25.ex rfl (hb hby at_214) rfl (XS.ladd X25.here X25.ex rfl (hb hby at_215) rfl (XS.lstore X25.here X25.ex rfl (hb hby at_216) rfl (l' := #[.val (.long i0), .second, .val (.long i1), .second, .val (.long i2), .second, .val (.long i3), .second, .val (.int i4), .val (.long x), .second, .val (.long y), .second, .val (.long z), .second, s15, s16, .val (.int (3 : Int32)), .val (.ref b22), .val (.int sel), .val (.long (z + (((sel - (sel / (3 : Int32)) * (3 : Int32)) - (1 : Int32)).toInt64))), .second, .val (.int (sel / (3 : Int32))), .val (.long z), .second]) rfl (XS.iconst X25.here X25.ex rfl (hb hby at_218) k)))))) ?_
                show Goes _ _ _ _ T25 (mkF m 219 #[.val (.long i0), .second, .val (.long i1), .second, .val (.long i2), .second, .val (.long i3), .second, .val (.int i4), .val (.long x), .second, .val (.long y), .second, .val (.long z), .second, s15, s16, .val (.int (3 : Int32)), .val (.ref b22), .val (.int sel), .val (.long (z + (((sel - (sel / (3 : Int32)) * (3 : Int32)) - (1 : Int32)).toInt64))), .second, .val (.int (sel / (3 : Int32))), .val (.long z), .second] [(.int (0 : Int32))])
                refine Goes.go (fun _ k => XS.istore X25.here X25.ex rfl (hb hby at_219) rfl (l' := #[.val (.long i0), .second, .val (.long i1), .second, .val (.long i2), .second, .val (.long i3), .second, .val (.int i4), .val (.long x), .second, .val (.long y), .second, .val (.long z), .second, s15, s16, .val (.int (3 : Int32)), .val (.ref b22), .val (.int sel), .val (.long (z + (((sel - (sel / (3 : Int32)) * (3 : Int32)) - (1 : Int32)).toInt64))), .second, .val (.int (0 : Int32)), .val (.long z), .second]) rfl k) ?_
                show Goes _ _ _ _ T25 (mkF m 221 #[.val (.long i0), .second, .val (.long i1), .second, .val (.long i2), .second, .val (.long i3), .second, .val (.int i4), .val (.long x), .second, .val (.long y), .second, .val (.long z), .second, s15, s16, .val (.int (3 : Int32)), .val (.ref b22), .val (.int sel), .val (.long (z + (((sel - (sel / (3 : Int32)) * (3 : Int32)) - (1 : Int32)).toInt64))), .second, .val (.int (0 : Int32)), .val (.long z), .second] [])
                exact J221 T25 h25 (z + (((sel - (sel / (3 : Int32)) * (3 : Int32)) - (1 : Int32)).toInt64)) (.val (.long z)) (.second) (X25.mark.mono (by decide) (by decide)) (Or.inr ⟨_, rfl, rfl⟩) V_b22
              · have hc194 : (sel / (3 : Int32)) = (1 : Int32) := Classical.not_not.mp hc194
                show Goes _ _ _ _ T25 (mkF m 197 #[.val (.long i0), .second, .val (.long i1), .second, .val (.long i2), .second, .val (.long i3), .second, .val (.int i4), .val (.long x), .second, .val (.long y), .second, .val (.long z), .second, s15, s16, .val (.int (3 : Int32)), .val (.ref b22), .val (.int sel), .unset, .unset, .val (.int (sel / (3 : Int32))), .unset, .unset] [])
                refine Goes.go (fun _ k => XS.lload X25.here X25.ex rfl (hb hby at_197) rfl (XS.goto X25.here X25.ex rfl (pc0 := 199) (pc' := 204) rfl (hb hby at_199) (by decide) (by decide) (XS.lstore X25.here X25.ex rfl (hb hby at_204) rfl (l' := #[.val (.long i0), .second, .val (.long i1), .second, .val (.long i2), .second, .val (.long i3), .second, .val (.int i4), .val (.long x), .second, .val (.long y), .second, .val (.long z), .second, s15, s16, .val (.int (3 : Int32)), .val (.ref b22), .val (.int sel), .unset, .unset, .val (.int (sel / (3 : Int32))), .val (.long y), .second]) rfl (XS.lload X25.here X25.ex rfl (hb hby at_206) rfl (XS.iload X25.here X25.ex rfl (hb hby at_208) rfl (XS.iconst X25.here X25.ex rfl (hb hby at_210) k)))))) ?_
                show Goes _ _ _ _ T25 (mkF m 211 #[.val (.long i0), .second, .val (.long i1), .second, .val (.long i2), .second, .val (.long i3), .second, .val (.int i4), .val (.long x), .second, .val (.long y), .second, .val (.long z), .second, s15, s16, .val (.int (3 : Int32)), .val (.ref b22), .val (.int sel), .unset, .unset, .val (.int (sel / (3 : Int32))), .val (.long y), .second] [(.int (3 : Int32)), (.int sel), (.long y)])
                refine Goes.go (fun _ k => XS.irem X25.here X25.ex rfl (hb hby at_211) rfl (by decide) (XS.iconst X25.here X25.ex rfl (hb hby at_212) (XS.isub X25.here X25.ex rfl (hb hby at_213) rfl (XS.i2l X25.here X25.ex rfl (hb hby at_214) rfl (XS.ladd X25.here X25.ex rfl (hb hby at_215) rfl (XS.lstore X25.here X25.ex rfl (hb hby at_216) rfl (l' := #[.val (.long i0), .second, .val (.long i1), .second, .val (.long i2), .second, .val (.long i3), .second, .val (.int i4), .val (.long x), .second, .val (.long y), .second, .val (.long z), .second, s15, s16, .val (.int (3 : Int32)), .val (.ref b22), .val (.int sel), .val (.long (y + (((sel - (sel / (3 : Int32)) * (3 : Int32)) - (1 : Int32)).toInt64))), .second, .val (.int (sel / (3 : Int32))), .val (.long y), .second]) rfl k)))))) ?_
                show Goes _ _ _ _ T25 (mkF m 218 #[.val (.long i0), .second, .val (.long i1), .second, .val (.long i2), .second, .val (.long i3), .second, .val (.int i4), .val (.long x), .second, .val (.long y), .second, .val (.long z), .second, s15, s16, .val (.int (3 : Int32)), .val (.ref b22), .val (.int sel), .val (.long (y + (((sel - (sel / (3 : Int32)) * (3 : Int32)) - (1 : Int32)).toInt64))), .second, .val (.int (sel / (3 : Int32))), .val (.long y), .second] [])
                refine Goes.go (fun _ k => XS.iconst X25.here X25.ex rfl (hb hby at_218) (XS.istore X25.here X25.ex rfl (hb hby at_219) rfl (l' := #[.val (.long i0), .second, .val (.long i1), .second, .val (.long i2), .second, .val (.long i3), .second, .val (.int i4), .val (.long x), .second, .val (.long y), .second, .val (.long z), .second, s15, s16, .val (.int (3 : Int32)), .val (.ref b22), .val (.int sel), .val (.long (y + (((sel - (sel / (3 : Int32)) * (3 : Int32)) - (1 : Int32)).toInt64))), .second, .val (.int (0 : Int32)), .val (.long y), .second]) rfl k)) ?_
                show Goes _ _ _ _ T25 (mkF m 221 #[.val (.long i0), .second, .val (.long i1), .second, .val (.long i2), .second, .val (.long i3), .second, .val (.int i4), .val (.long x), .second, .val (.long y), .second, .val (.long z), .second, s15, s16, .val (.int (3 : Int32)), .val (.ref b22), .val (.int sel), .val (.long (y + (((sel - (sel / (3 : Int32)) * (3 : Int32)) - (1 : Int32)).toInt64))), .second, .val (.int (0 : Int32)), .val (.long y), .second] [])
                exact J221 T25 h25 (y + (((sel - (sel / (3 : Int32)) * (3 : Int32)) - (1 : Int32)).toInt64)) (.val (.long y)) (.second) (X25.mark.mono (by decide) (by decide)) (Or.inr ⟨_, rfl, rfl⟩) V_b22
            · have hc183 : (sel / (3 : Int32)) = (0 : Int32) := Classical.not_not.mp hc183
              show Goes _ _ _ _ T25 (mkF m 186 #[.val (.long i0), .second, .val (.long i1), .second, .val (.long i2), .second, .val (.long i3), .second, .val (.int i4), .val (.long x), .second, .val (.long y), .second, .val (.long z), .second, s15, s16, .val (.int (3 : Int32)), .val (.ref b22), .val (.int sel), .unset, .unset, .val (.int (sel / (3 : Int32))), .unset, .unset] [])
              refine Goes.go (fun _ k => XS.lload X25.here X25.ex rfl (hb hby at_186) rfl (XS.goto X25.here X25.ex rfl (pc0 := 188) (pc' := 204) rfl (hb hby at_188) (by decide) (by decide) (XS.lstore X25.here X25.ex rfl (hb hby at_204) rfl (l' := #[.val (.long i0), .second, .val (.long i1), .second, .val (.long i2), .second, .val (.long i3), .second, .val (.int i4), .val (.long x), .second, .val (.long y), .second, .val (.long z), .second, s15, s16, .val (.int (3 : Int32)), .val (.ref b22), .val (.int sel), .unset, .unset, .val (.int (sel / (3 : Int32))), .val (.long x), .second]) rfl (XS.lload X25.here X25.ex rfl (hb hby at_206) rfl (XS.iload X25.here X25.ex rfl (hb hby at_208) rfl (XS.iconst X25.here X25.ex rfl (hb hby at_210) k)))))) ?_
              show Goes _ _ _ _ T25 (mkF m 211 #[.val (.long i0), .second, .val (.long i1), .second, .val (.long i2), .second, .val (.long i3), .second, .val (.int i4), .val (.long x), .second, .val (.long y), .second, .val (.long z), .second, s15, s16, .val (.int (3 : Int32)), .val (.ref b22), .val (.int sel), .unset, .unset, .val (.int (sel / (3 : Int32))), .val (.long x), .second] [(.int (3 : Int32)), (.int sel), (.long x)])
              refine Goes.go (fun _ k => XS.irem X25.here X25.ex rfl (hb hby at_211) rfl (by decide) (XS.iconst X25.here X25.ex rfl (hb hby at_212) (XS.isub X25.here X25.ex rfl (hb hby at_213) rfl (XS.i2l X25.here X25.ex rfl (hb hby at_214) rfl (XS.ladd X25.here X25.ex rfl (hb hby at_215) rfl (XS.lstore X25.here X25.ex rfl (hb hby at_216) rfl (l' := #[.val (.long i0), .second, .val (.long i1), .second, .val (.long i2), .second, .val (.long i3), .second, .val (.int i4), .val (.long x), .second, .val (.long y), .second, .val (.long z), .second, s15, s16, .val (.int (3 : Int32)), .val (.ref b22), .val (.int sel), .val (.long (x + (((sel - (sel / (3 : Int32)) * (3 : Int32)) - (1 : Int32)).toInt64))), .second, .val (.int (sel / (3 : Int32))), .val (.long x), .second]) rfl k)))))) ?_
              show Goes _ _ _ _ T25 (mkF m 218 #[.val (.long i0), .second, .val (.long i1), .second, .val (.long i2), .second, .val (.long i3), .second, .val (.int i4), .val (.long x), .second, .val (.long y), .second, .val (.long z), .second, s15, s16, .val (.int (3 : Int32)), .val (.ref b22), .val (.int sel), .val (.long (x + (((sel - (sel / (3 : Int32)) * (3 : Int32)) - (1 : Int32)).toInt64))), .second, .val (.int (sel / (3 : Int32))), .val (.long x), .second] [])
              refine Goes.go (fun _ k => XS.iconst X25.here X25.ex rfl (hb hby at_218) (XS.istore X25.here X25.ex rfl (hb hby at_219) rfl (l' := #[.val (.long i0), .second, .val (.long i1), .second, .val (.long i2), .second, .val (.long i3), .second, .val (.int i4), .val (.long x), .second, .val (.long y), .second, .val (.long z), .second, s15, s16, .val (.int (3 : Int32)), .val (.ref b22), .val (.int sel), .val (.long (x + (((sel - (sel / (3 : Int32)) * (3 : Int32)) - (1 : Int32)).toInt64))), .second, .val (.int (0 : Int32)), .val (.long x), .second]) rfl k)) ?_
              show Goes _ _ _ _ T25 (mkF m 221 #[.val (.long i0), .second, .val (.long i1), .second, .val (.long i2), .second, .val (.long i3), .second, .val (.int i4), .val (.long x), .second, .val (.long y), .second, .val (.long z), .second, s15, s16, .val (.int (3 : Int32)), .val (.ref b22), .val (.int sel), .val (.long (x + (((sel - (sel / (3 : Int32)) * (3 : Int32)) - (1 : Int32)).toInt64))), .second, .val (.int (0 : Int32)), .val (.long x), .second] [])
              exact J221 T25 h25 (x + (((sel - (sel / (3 : Int32)) * (3 : Int32)) - (1 : Int32)).toInt64)) (.val (.long x)) (.second) (X25.mark.mono (by decide) (by decide)) (Or.inr ⟨_, rfl, rfl⟩) V_b22
          · have hc165 : sel = (9 : Int32) := Classical.not_not.mp hc165
            show Goes _ _ _ _ T25 (mkF m 168 #[.val (.long i0), .second, .val (.long i1), .second, .val (.long i2), .second, .val (.long i3), .second, .val (.int i4), .val (.long x), .second, .val (.long y), .second, .val (.long z), .second, s15, s16, .val (.int (3 : Int32)), .val (.ref b22), .val (.int sel), .unset, .unset, .unset, .unset, .unset] [])
            refine Goes.go (fun _ k => XS.lload X25.here X25.ex rfl (hb hby at_168) rfl (XS.lstore X25.here X25.ex rfl (hb hby at_170) rfl (l' := #[.val (.long i0), .second, .val (.long i1), .second, .val (.long i2), .second, .val (.long i3), .second, .val (.int i4), .val (.long x), .second, .val (.long y), .second, .val (.long z), .second, s15, s16, .val (.int (3 : Int32)), .val (.ref b22), .val (.int sel), .val (.long i3), .second, .unset, .unset, .unset]) rfl (XS.goto X25.here X25.ex rfl (pc0 := 172) (pc' := 218) rfl (hb hby at_172) (by decide) (by decide) (XS.iconst X25.here X25.ex rfl (hb hby at_218) (XS.istore X25.here X25.ex rfl (hb hby at_219) rfl (l' := #[.val (.long i0), .second, .val (.long i1), .second, .val (.long i2), .second, .val (.long i3), .second, .val (.int i4), .val (.long x), .second, .val (.long y), .second, .val (.long z), .second, s15, s16, .val (.int (3 : Int32)), .val (.ref b22), .val (.int sel), .val (.long i3), .second, .val (.int (0 : Int32)), .unset, .unset]) rfl k))))) ?_
            show Goes _ _ _ _ T25 (mkF m 221 #[.val (.long i0), .second, .val (.long i1), .second, .val (.long i2), .second, .val (.long i3), .second, .val (.int i4), .val (.long x), .second, .val (.long y), .second, .val (.long z), .second, s15, s16, .val (.int (3 : Int32)), .val (.ref b22), .val (.int sel), .val (.long i3), .second, .val (.int (0 : Int32)), .unset, .unset] [])
            exact J221 T25 h25 i3 (.unset) (.unset) (X25.mark.mono (by decide) (by decide)) (Or.inl ⟨rfl, rfl⟩) V_b22
        · have he2 : (lcmpW y z) = (0 : Int32) := Classical.not_not.mp he2
          show Goes _ _ _ _ Tj9 (mkF m 106 #[.val (.long i0), .second, .val (.long i1), .second, .val (.long i2), .second, .val (.long i3), .second, .val (.int i4), .val (.long x), .second, .val (.long y), .second, .val (.long z), .second, s15, s16, .val (.int (3 : Int32)), .unset, .unset, .unset, .unset, .unset, .unset, .unset] [])
          refine Goes.go (fun _ k => XS.iconst Xj9.here Xj9.ex rfl (hb hby at_106) k) ?_
          show Goes _ _ _ _ Tj9 (mkF m 107 #[.val (.long i0), .second, .val (.long i1), .second, .val (.long i2), .second, .val (.long i3), .second, .val (.int i4), .val (.long x), .second, .val (.long y), .second, .val (.long z), .second, s15, s16, .val (.int (3 : Int32)), .unset, .unset, .unset, .unset, .unset, .unset, .unset] [(.int (1 : Int32))])
          refine Goes.outN Xj9 (fun q => by rw [hret] at q; cases q) hlk (Xj9.rB hret (by simp) (hb hby at_107)) ?_ (by decide) (by decide)
          exact rfl
      · have he1 : (lcmpW x y) = (0 : Int32) := Classical.not_not.mp he1
        show Goes _ _ _ _ Tj9 (mkF m 90 #[.val (.long i0), .second, .val (.long i1), .second, .val (.long i2), .second, .val (.long i3), .second, .val (.int i4), .val (.long x), .second, .val (.long y), .second, .val (.long z), .second, s15, s16, .val (.int (3 : Int32)), .unset, .unset, .unset, .unset, .unset, .unset, .unset] [])
        refine Goes.go (fun _ k => XS.iconst Xj9.here Xj9.ex rfl (hb hby at_90) k) ?_
        show Goes _ _ _ _ Tj9 (mkF m 91 #[.val (.long i0), .second, .val (.long i1), .second, .val (.long i2), .second, .val (.long i3), .second, .val (.int i4), .val (.long x), .second, .val (.long y), .second, .val (.long z), .second, s15, s16, .val (.int (3 : Int32)), .unset, .unset, .unset, .unset, .unset, .unset, .unset] [(.int (1 : Int32))])
        refine Goes.outN Xj9 (fun q => by rw [hret] at q; cases q) hlk (Xj9.rB hret (by simp) (hb hby at_91)) ?_ (by decide) (by decide)
        exact rfl
  refine Goes.go (fun _ k => XS.lload X0.here X0.ex rfl (hb hby at_10) rfl (XS.lload X0.here X0.ex rfl (hb hby at_12) rfl (XS.lcmp X0.here X0.ex rfl (hb hby at_14) rfl k))) ?_
  show Goes _ _ _ _ T0 (mkF m 15 #[.val (.long i0), .second, .val (.long i1), .second, .val (.long i2), .second, .val (.long i3), .second, .val (.int i4), .val (.long i0), .second, .val (.long i1), .second, .val (.long i2), .second, .unset, .unset, .unset, .unset, .unset, .unset, .unset, .unset, .unset, .unset] [(.int (lcmpW i0 i1))])
  refine Goes.ifc (pc' := 30) X0.here X0.ex (hb hby at_15) (by decide) (by decide) (fun ho1 => ?_) (fun ho1 => ?_)
  · have ho1 : ¬ ((0 : Int32) < (lcmpW i0 i1)) := ho1
    show Goes _ _ _ _ T0 (mkF m 30 #[.val (.long i0), .second, .val (.long i1), .second, .val (.long i2), .second, .val (.long i3), .second, .val (.int i4), .val (.long i0), .second, .val (.long i1), .second, .val (.long i2), .second, .unset, .unset, .unset, .unset, .unset, .unset, .unset, .unset, .unset, .unset] [])
    rw [lw_gt] at ho1
    refine Goes.go (fun _ k => XS.lload X0.here X0.ex rfl (hb hby at_30) rfl (XS.lload X0.here X0.ex rfl (hb hby at_32) rfl (XS.lcmp X0.here X0.ex rfl (hb hby at_34) rfl k))) ?_
    show Goes _ _ _ _ T0 (mkF m 35 #[.val (.long i0), .second, .val (.long i1), .second, .val (.long i2), .second, .val (.long i3), .second, .val (.int i4), .val (.long i0), .second, .val (.long i1), .second, .val (.long i2), .second, .unset, .unset, .unset, .unset, .unset, .unset, .unset, .unset, .unset, .unset] [(.int (lcmpW i1 i2))])
    refine Goes.ifc (pc' := 50) X0.here X0.ex (hb hby at_35) (by decide) (by decide) (fun ho2 => ?_) (fun ho2 => ?_)
    · have ho2 : ¬ ((0 : Int32) < (lcmpW i1 i2)) := ho2
      show Goes _ _ _ _ T0 (mkF m 50 #[.val (.long i0), .second, .val (.long i1), .second, .val (.long i2), .second, .val (.long i3), .second, .val (.int i4), .val (.long i0), .second, .val (.long i1), .second, .val (.long i2), .second, .unset, .unset, .unset, .unset, .unset, .unset, .unset, .unset, .unset, .unset] [])
      rw [lw_gt] at ho2
      refine Goes.go (fun _ k => XS.lload X0.here X0.ex rfl (hb hby at_50) rfl (XS.lload X0.here X0.ex rfl (hb hby at_52) rfl (XS.lcmp X0.here X0.ex rfl (hb hby at_54) rfl k))) ?_
      show Goes _ _ _ _ T0 (mkF m 55 #[.val (.long i0), .second, .val (.long i1), .second, .val (.long i2), .second, .val (.long i3), .second, .val (.int i4), .val (.long i0), .second, .val (.long i1), .second, .val (.long i2), .second, .unset, .unset, .unset, .unset, .unset, .unset, .unset, .unset, .unset, .unset] [(.int (lcmpW i0 i1))])
      refine Goes.ifc (pc' := 70) X0.here X0.ex (hb hby at_55) (by decide) (by decide) (fun ho3 => ?_) (fun ho3 => ?_)
      · have ho3 : ¬ ((0 : Int32) < (lcmpW i0 i1)) := ho3
        show Goes _ _ _ _ T0 (mkF m 70 #[.val (.long i0), .second, .val (.long i1), .second, .val (.long i2), .second, .val (.long i3), .second, .val (.int i4), .val (.long i0), .second, .val (.long i1), .second, .val (.long i2), .second, .unset, .unset, .unset, .unset, .unset, .unset, .unset, .unset, .unset, .unset] [])
        rw [lw_gt] at ho3
        exact J70 T0 h0 i0 i1 i2 (.unset) (.unset) (X0.mark.mono (by decide) (by decide)) (by simp only [Int64.lt_iff_toInt_lt] at *; omega) (by simp only [Int64.lt_iff_toInt_lt] at *; omega)
      · have ho3 : (0 : Int32) < (lcmpW i0 i1) := Classical.not_not.mp ho3
        show Goes _ _ _ _ T0 (mkF m 58 #[.val (.long i0), .second, .val (.long i1), .second, .val (.long i2), .second, .val (.long i3), .second, .val (.int i4), .val (.long i0), .second, .val (.long i1), .second, .val (.long i2), .second, .unset, .unset, .unset, .unset, .unset, .unset, .unset, .unset, .unset, .unset] [])
        rw [lw_gt] at ho3
        refine Goes.go (fun _ k => XS.lload X0.here X0.ex rfl (hb hby at_58) rfl (XS.lstore X0.here X0.ex rfl (hb hby at_60) rfl (l' := #[.val (.long i0), .second, .val (.long i1), .second, .val (.long i2), .second, .val (.long i3), .second, .val (.int i4), .val (.long i0), .second, .val (.long i1), .second, .val (.long i2), .second, .val (.long i0), .second, .unset, .unset, .unset, .unset, .unset, .unset, .unset, .unset]) rfl (XS.lload X0.here X0.ex rfl (hb hby at_62) rfl (XS.lstore X0.here X0.ex rfl (hb hby at_64) rfl (l' := #[.val (.long i0), .second, .val (.long i1), .second, .val (.long i2), .second, .val (.long i3), .second, .val (.int i4), .val (.long i1), .second, .val (.long i1), .second, .val (.long i2), .second, .val (.long i0), .second, .unset, .unset, .unset, .unset, .unset, .unset, .unset, .unset]) rfl (XS.lload X0.here X0.ex rfl (hb hby at_66) rfl (XS.lstore X0.here X0.ex rfl (hb hby at_68) rfl (l' := #[.val (.long i0), .second, .val (.long i1), .second, .val (.long i2), .second, .val (.long i3), .second, .val (.int i4), .val (.long i1), .second, .val (.long i0), .second, .val (.long i2), .second, .val (.long i0), .second, .unset, .unset, .unset, .unset, .unset, .unset, .unset, .unset]) rfl k)))))) ?_
        show Goes _ _ _ _ T0 (mkF m 70 #[.val (.long i0), .second, .val (.long i1), .second, .val (.long i2), .second, .val (.long i3), .second, .val (.int i4), .val (.long i1), .second, .val (.long i0), .second, .val (.long i2), .second, .val (.long i0), .second, .unset, .unset, .unset, .unset, .unset, .unset, .unset, .unset] [])
        exact J70 T0 h0 i1 i0 i2 (.val (.long i0)) (.second) (X0.mark.mono (by decide) (by decide)) (by simp only [Int64.lt_iff_toInt_lt] at *; omega) (by simp only [Int64.lt_iff_toInt_lt] at *; omega)
    · have ho2 : (0 : Int32) < (lcmpW i1 i2) := Classical.not_not.mp ho2
      show Goes _ _ _ _ T0 (mkF m 38 #[.val (.long i0), .second, .val (.long i1), .second, .val (.long i2), .second, .val (.long i3), .second, .val (.int i4), .val (.long i0), .second, .val (.long i1), .second, .val (.long i2), .second, .unset, .unset, .unset, .unset, .unset, .unset, .unset, .unset, .unset, .unset] [])
      rw [lw_gt] at ho2
      refine Goes.go (fun _ k => XS.lload X0.here X0.ex rfl (hb hby at_38) rfl (XS.lstore X0.here X0.ex rfl (hb hby at_40) rfl (l' := #[.val (.long i0), .second, .val (.long i1), .second, .val (.long i2), .second, .val (.long i3), .second, .val (.int i4), .val (.long i0), .second, .val (.long i1), .second, .val (.long i2), .second, .val (.long i1), .second, .unset, .unset, .unset, .unset, .unset, .unset, .unset, .unset]) rfl (XS.lload X0.here X0.ex rfl (hb hby at_42) rfl (XS.lstore X0.here X0.ex rfl (hb hby at_44) rfl (l' := #[.val (.long i0), .second, .val (.long i1), .second, .val (.long i2), .second, .val (.long i3), .second, .val (.int i4), .val (.long i0), .second, .val (.long i2), .second, .val (.long i2), .second, .val (.long i1), .second, .unset, .unset, .unset, .unset, .unset, .unset, .unset, .unset]) rfl (XS.lload X0.here X0.ex rfl (hb hby at_46) rfl (XS.lstore X0.here X0.ex rfl (hb hby at_48) rfl (l' := #[.val (.long i0), .second, .val (.long i1), .second, .val (.long i2), .second, .val (.long i3), .second, .val (.int i4), .val (.long i0), .second, .val (.long i2), .second, .val (.long i1), .second, .val (.long i1), .second, .unset, .unset, .unset, .unset, .unset, .unset, .unset, .unset]) rfl k)))))) ?_
      show Goes _ _ _ _ T0 (mkF m 50 #[.val (.long i0), .second, .val (.long i1), .second, .val (.long i2), .second, .val (.long i3), .second, .val (.int i4), .val (.long i0), .second, .val (.long i2), .second, .val (.long i1), .second, .val (.long i1), .second, .unset, .unset, .unset, .unset, .unset, .unset, .unset, .unset] [])
      refine Goes.go (fun _ k => XS.lload X0.here X0.ex rfl (hb hby at_50) rfl (XS.lload X0.here X0.ex rfl (hb hby at_52) rfl (XS.lcmp X0.here X0.ex rfl (hb hby at_54) rfl k))) ?_
      show Goes _ _ _ _ T0 (mkF m 55 #[.val (.long i0), .second, .val (.long i1), .second, .val (.long i2), .second, .val (.long i3), .second, .val (.int i4), .val (.long i0), .second, .val (.long i2), .second, .val (.long i1), .second, .val (.long i1), .second, .unset, .unset, .unset, .unset, .unset, .unset, .unset, .unset] [(.int (lcmpW i0 i2))])
      refine Goes.ifc (pc' := 70) X0.here X0.ex (hb hby at_55) (by decide) (by decide) (fun ho3 => ?_) (fun ho3 => ?_)
      · have ho3 : ¬ ((0 : Int32) < (lcmpW i0 i2)) := ho3
        show Goes _ _ _ _ T0 (mkF m 70 #[.val (.long i0), .second, .val (.long i1), .second, .val (.long i2), .second, .val (.long i3), .second, .val (.int i4), .val (.long i0), .second, .val (.long i2), .second, .val (.long i1), .second, .val (.long i1), .second, .unset, .unset, .unset, .unset, .unset, .unset, .unset, .unset] [])
        rw [lw_gt] at ho3
        exact J70 T0 h0 i0 i2 i1 (.val (.long i1)) (.second) (X0.mark.mono (by decide) (by decide)) (by simp only [Int64.lt_iff_toInt_lt] at *; omega) (by simp only [Int64.lt_iff_toInt_lt] at *; omega)
      · have ho3 : (0 : Int32) < (lcmpW i0 i2) := Classical.not_not.mp ho3
        show Goes _ _ _ _ T0 (mkF m 58 #[.val (.long i0), .second, .val (.long i1), .second, .val (.long i2), .second, .val (.long i3), .second, .val (.int i4), .val (.long i0), .second, .val (.long i2), .second, .val (.long i1), .second, .val (.long i1), .second, .unset, .unset, .unset, .unset, .unset, .unset, .unset, .unset] [])
        rw [lw_gt] at ho3
        refine Goes.go (fun _ k => XS.lload X0.here X0.ex rfl (hb hby at_58) rfl (XS.lstore X0.here X0.ex rfl (hb hby at_60) rfl (l' := #[.val (.long i0), .second, .val (.long i1), .second, .val (.long i2), .second, .val (.long i3), .second, .val (.int i4), .val (.long i0), .second, .val (.long i2), .second, .val (.long i1), .second, .val (.long i0), .second, .unset, .unset, .unset, .unset, .unset, .unset, .unset, .unset]) rfl (XS.lload X0.here X0.ex rfl (hb hby at_62) rfl (XS.lstore X0.here X0.ex rfl (hb hby at_64) rfl (l' := #[.val (.long i0), .second, .val (.long i1), .second, .val (.long i2), .second, .val (.long i3), .second, .val (.int i4), .val (.long i2), .second, .val (.long i2), .second, .val (.long i1), .second, .val (.long i0), .second, .unset, .unset, .unset, .unset, .unset, .unset, .unset, .unset]) rfl (XS.lload X0.here X0.ex rfl (hb hby at_66) rfl (XS.lstore X0.here X0.ex rfl (hb hby at_68) rfl (l' := #[.val (.long i0), .second, .val (.long i1), .second, .val (.long i2), .second, .val (.long i3), .second, .val (.int i4), .val (.long i2), .second, .val (.long i0), .second, .val (.long i1), .second, .val (.long i0), .second, .unset, .unset, .unset, .unset, .unset, .unset, .unset, .unset]) rfl k)))))) ?_
        show Goes _ _ _ _ T0 (mkF m 70 #[.val (.long i0), .second, .val (.long i1), .second, .val (.long i2), .second, .val (.long i3), .second, .val (.int i4), .val (.long i2), .second, .val (.long i0), .second, .val (.long i1), .second, .val (.long i0), .second, .unset, .unset, .unset, .unset, .unset, .unset, .unset, .unset] [])
        exact J70 T0 h0 i2 i0 i1 (.val (.long i0)) (.second) (X0.mark.mono (by decide) (by decide)) (by simp only [Int64.lt_iff_toInt_lt] at *; omega) (by simp only [Int64.lt_iff_toInt_lt] at *; omega)
  · have ho1 : (0 : Int32) < (lcmpW i0 i1) := Classical.not_not.mp ho1
    show Goes _ _ _ _ T0 (mkF m 18 #[.val (.long i0), .second, .val (.long i1), .second, .val (.long i2), .second, .val (.long i3), .second, .val (.int i4), .val (.long i0), .second, .val (.long i1), .second, .val (.long i2), .second, .unset, .unset, .unset, .unset, .unset, .unset, .unset, .unset, .unset, .unset] [])
    rw [lw_gt] at ho1
    refine Goes.go (fun _ k => XS.lload X0.here X0.ex rfl (hb hby at_18) rfl (XS.lstore X0.here X0.ex rfl (hb hby at_20) rfl (l' := #[.val (.long i0), .second, .val (.long i1), .second, .val (.long i2), .second, .val (.long i3), .second, .val (.int i4), .val (.long i0), .second, .val (.long i1), .second, .val (.long i2), .second, .val (.long i0), .second, .unset, .unset, .unset, .unset, .unset, .unset, .unset, .unset]) rfl (XS.lload X0.here X0.ex rfl (hb hby at_22) rfl (XS.lstore X0.here X0.ex rfl (hb hby at_24) rfl (l' := #[.val (.long i0), .second, .val (.long i1), .second, .val (.long i2), .second, .val (.long i3), .second, .val (.int i4), .val (.long i1), .second, .val (.long i1), .second, .val (.long i2), .second, .val (.long i0), .second, .unset, .unset, .unset, .unset, .unset, .unset, .unset, .unset]) rfl (XS.lload X0.here X0.ex rfl (hb hby at_26) rfl (XS.lstore X0.here X0.ex rfl (hb hby at_28) rfl (l' := #[.val (.long i0), .second, .val (.long i1), .second, .val (.long i2), .second, .val (.long i3), .second, .val (.int i4), .val (.long i1), .second, .val (.long i0), .second, .val (.long i2), .second, .val (.long i0), .second, .unset, .unset, .unset, .unset, .unset, .unset, .unset, .unset]) rfl k)))))) ?_
    show Goes _ _ _ _ T0 (mkF m 30 #[.val (.long i0), .second, .val (.long i1), .second, .val (.long i2), .second, .val (.long i3), .second, .val (.int i4), .val (.long i1), .second, .val (.long i0), .second, .val (.long i2), .second, .val (.long i0), .second, .unset, .unset, .unset, .unset, .unset, .unset, .unset, .unset] [])
    refine Goes.go (fun _ k => XS.lload X0.here X0.ex rfl (hb hby at_30) rfl (XS.lload X0.here X0.ex rfl (hb hby at_32) rfl (XS.lcmp X0.here X0.ex rfl (hb hby at_34) rfl k))) ?_
    show Goes _ _ _ _ T0 (mkF m 35 #[.val (.long i0), .second, .val (.long i1), .second, .val (.long i2), .second, .val (.long i3), .second, .val (.int i4), .val (.long i1), .second, .val (.long i0), .second, .val (.long i2), .second, .val (.long i0), .second, .unset, .unset, .unset, .unset, .unset, .unset, .unset, .unset] [(.int (lcmpW i0 i2))])
    refine Goes.ifc (pc' := 50) X0.here X0.ex (hb hby at_35) (by decide) (by decide) (fun ho2 => ?_) (fun ho2 => ?_)
    · have ho2 : ¬ ((0 : Int32) < (lcmpW i0 i2)) := ho2
      show Goes _ _ _ _ T0 (mkF m 50 #[.val (.long i0), .second, .val (.long i1), .second, .val (.long i2), .second, .val (.long i3), .second, .val (.int i4), .val (.long i1), .second, .val (.long i0), .second, .val (.long i2), .second, .val (.long i0), .second, .unset, .unset, .unset, .unset, .unset, .unset, .unset, .unset] [])
      rw [lw_gt] at ho2
      refine Goes.go (fun _ k => XS.lload X0.here X0.ex rfl (hb hby at_50) rfl (XS.lload X0.here X0.ex rfl (hb hby at_52) rfl (XS.lcmp X0.here X0.ex rfl (hb hby at_54) rfl k))) ?_
      show Goes _ _ _ _ T0 (mkF m 55 #[.val (.long i0), .second, .val (.long i1), .second, .val (.long i2), .second, .val (.long i3), .second, .val (.int i4), .val (.long i1), .second, .val (.long i0), .second, .val (.long i2), .second, .val (.long i0), .second, .unset, .unset, .unset, .unset, .unset, .unset, .unset, .unset] [(.int (lcmpW i1 i0))])
      refine Goes.ifc (pc' := 70) X0.here X0.ex (hb hby at_55) (by decide) (by decide) (fun ho3 => ?_) (fun ho3 => ?_)
      · have ho3 : ¬ ((0 : Int32) < (lcmpW i1 i0)) := ho3
        show Goes _ _ _ _ T0 (mkF m 70 #[.val (.long i0), .second, .val (.long i1), .second, .val (.long i2), .second, .val (.long i3), .second, .val (.int i4), .val (.long i1), .second, .val (.long i0), .second, .val (.long i2), .second, .val (.long i0), .second, .unset, .unset, .unset, .unset, .unset, .unset, .unset, .unset] [])
        rw [lw_gt] at ho3
        exact J70 T0 h0 i1 i0 i2 (.val (.long i0)) (.second) (X0.mark.mono (by decide) (by decide)) (by simp only [Int64.lt_iff_toInt_lt] at *; omega) (by simp only [Int64.lt_iff_toInt_lt] at *; omega)
      · have ho3 : (0 : Int32) < (lcmpW i1 i0) := Classical.not_not.mp ho3
        show Goes _ _ _ _ T0 (mkF m 58 #[.val (.long i0), .second, .val (.long i1), .second, .val (.long i2), .second, .val (.long i3), .second, .val (.int i4), .val (.long i1), .second, .val (.long i0), .second, .val (.long i2), .second, .val (.long i0), .second, .unset, .unset, .unset, .unset, .unset, .unset, .unset, .unset] [])
        rw [lw_gt] at ho3
        refine Goes.go (fun _ k => XS.lload X0.here X0.ex rfl (hb hby at_58) rfl (XS.lstore X0.here X0.ex rfl (hb hby at_60) rfl (l' := #[.val (.long i0), .second, .val (.long i1), .second, .val (.long i2), .second, .val (.long i3), .second, .val (.int i4), .val (.long i1), .second, .val (.long i0), .second, .val (.long i2), .second, .val (.long i1), .second, .unset, .unset, .unset, .unset, .unset, .unset, .unset, .unset]) rfl (XS.lload X0.here X0.ex rfl (hb hby at_62) rfl (XS.lstore X0.here X0.ex rfl (hb hby at_64) rfl (l' := #[.val (.long i0), .second, .val (.long i1), .second, .val (.long i2), .second, .val (.long i3), .second, .val (.int i4), .val (.long i0), .second, .val (.long i0), .second, .val (.long i2), .second, .val (.long i1), .second, .unset, .unset, .unset, .unset, .unset, .unset, .unset, .unset]) rfl (XS.lload X0.here X0.ex rfl (hb hby at_66) rfl (XS.lstore X0.here X0.ex rfl (hb hby at_68) rfl (l' := #[.val (.long i0), .second, .val (.long i1), .second, .val (.long i2), .second, .val (.long i3), .second, .val (.int i4), .val (.long i0), .second, .val (.long i1), .second, .val (.long i2), .second, .val (.long i1), .second, .unset, .unset, .unset, .unset, .unset, .unset, .unset, .unset]) rfl k)))))) ?_
        show Goes _ _ _ _ T0 (mkF m 70 #[.val (.long i0), .second, .val (.long i1), .second, .val (.long i2), .second, .val (.long i3), .second, .val (.int i4), .val (.long i0), .second, .val (.long i1), .second, .val (.long i2), .second, .val (.long i1), .second, .unset, .unset, .unset, .unset, .unset, .unset, .unset, .unset] [])
        exact J70 T0 h0 i0 i1 i2 (.val (.long i1)) (.second) (X0.mark.mono (by decide) (by decide)) (by simp only [Int64.lt_iff_toInt_lt] at *; omega) (by simp only [Int64.lt_iff_toInt_lt] at *; omega)
    · have ho2 : (0 : Int32) < (lcmpW i0 i2) := Classical.not_not.mp ho2
      show Goes _ _ _ _ T0 (mkF m 38 #[.val (.long i0), .second, .val (.long i1), .second, .val (.long i2), .second, .val (.long i3), .second, .val (.int i4), .val (.long i1), .second, .val (.long i0), .second, .val (.long i2), .second, .val (.long i0), .second, .unset, .unset, .unset, .unset, .unset, .unset, .unset, .unset] [])
      rw [lw_gt] at ho2
      refine Goes.go (fun _ k => XS.lload X0.here X0.ex rfl (hb hby at_38) rfl (XS.lstore X0.here X0.ex rfl (hb hby at_40) rfl (l' := #[.val (.long i0), .second, .val (.long i1), .second, .val (.long i2), .second, .val (.long i3), .second, .val (.int i4), .val (.long i1), .second, .val (.long i0), .second, .val (.long i2), .second, .val (.long i0), .second, .unset, .unset, .unset, .unset, .unset, .unset, .unset, .unset]) rfl (XS.lload X0.here X0.ex rfl (hb hby at_42) rfl (XS.lstore X0.here X0.ex rfl (hb hby at_44) rfl (l' := #[.val (.long i0), .second, .val (.long i1), .second, .val (.long i2), .second, .val (.long i3), .second, .val (.int i4), .val (.long i1), .second, .val (.long i2), .second, .val (.long i2), .second, .val (.long i0), .second, .unset, .unset, .unset, .unset, .unset, .unset, .unset, .unset]) rfl (XS.lload X0.here X0.ex rfl (hb hby at_46) rfl (XS.lstore X0.here X0.ex rfl (hb hby at_48) rfl (l' := #[.val (.long i0), .second, .val (.long i1), .second, .val (.long i2), .second, .val (.long i3), .second, .val (.int i4), .val (.long i1), .second, .val (.long i2), .second, .val (.long i0), .second, .val (.long i0), .second, .unset, .unset, .unset, .unset, .unset, .unset, .unset, .unset]) rfl k)))))) ?_
      show Goes _ _ _ _ T0 (mkF m 50 #[.val (.long i0), .second, .val (.long i1), .second, .val (.long i2), .second, .val (.long i3), .second, .val (.int i4), .val (.long i1), .second, .val (.long i2), .second, .val (.long i0), .second, .val (.long i0), .second, .unset, .unset, .unset, .unset, .unset, .unset, .unset, .unset] [])
      refine Goes.go (fun _ k => XS.lload X0.here X0.ex rfl (hb hby at_50) rfl (XS.lload X0.here X0.ex rfl (hb hby at_52) rfl (XS.lcmp X0.here X0.ex rfl (hb hby at_54) rfl k))) ?_
      show Goes _ _ _ _ T0 (mkF m 55 #[.val (.long i0), .second, .val (.long i1), .second, .val (.long i2), .second, .val (.long i3), .second, .val (.int i4), .val (.long i1), .second, .val (.long i2), .second, .val (.long i0), .second, .val (.long i0), .second, .unset, .unset, .unset, .unset, .unset, .unset, .unset, .unset] [(.int (lcmpW i1 i2))])
      refine Goes.ifc (pc' := 70) X0.here X0.ex (hb hby at_55) (by decide) (by decide) (fun ho3 => ?_) (fun ho3 => ?_)
      · have ho3 : ¬ ((0 : Int32) < (lcmpW i1 i2)) := ho3
        show Goes _ _ _ _ T0 (mkF m 70 #[.val (.long i0), .second, .val (.long i1), .second, .val (.long i2), .second, .val (.long i3), .second, .val (.int i4), .val (.long i1), .second, .val (.long i2), .second, .val (.long i0), .second, .val (.long i0), .second, .unset, .unset, .unset, .unset, .unset, .unset, .unset, .unset] [])
        rw [lw_gt] at ho3
        exact J70 T0 h0 i1 i2 i0 (.val (.long i0)) (.second) (X0.mark.mono (by decide) (by decide)) (by simp only [Int64.lt_iff_toInt_lt] at *; omega) (by simp only [Int64.lt_iff_toInt_lt] at *; omega)
      · have ho3 : (0 : Int32) < (lcmpW i1 i2) := Classical.not_not.mp ho3
        show Goes _ _ _ _ T0 (mkF m 58 #[.val (.long i0), .second, .val (.long i1), .second, .val (.long i2), .second, .val (.long i3), .second, .val (.int i4), .val (.long i1), .second, .val (.long i2), .second, .val (.long i0), .second, .val (.long i0), .second, .unset, .unset, .unset, .unset, .unset, .unset, .unset, .unset] [])
        rw [lw_gt] at ho3
        refine Goes.go (fun _ k => XS.lload X0.here X0.ex rfl (hb hby at_58) rfl (XS.lstore X0.here X0.ex rfl (hb hby at_60) rfl (l' := #[.val (.long i0), .second, .val (.long i1), .second, .val (.long i2), .second, .val (.long i3), .second, .val (.int i4), .val (.long i1), .second, .val (.long i2), .second, .val (.long i0), .second, .val (.long i1), .second, .unset, .unset, .unset, .unset, .unset, .unset, .unset, .unset]) rfl (XS.lload X0.here X0.ex rfl (hb hby at_62) rfl (XS.lstore X0.here X0.ex rfl (hb hby at_64) rfl (l' := #[.val (.long i0), .second, .val (.long i1), .second, .val (.long i2), .second, .val (.long i3), .second, .val (.int i4), .val (.long i2), .second, .val (.long i2), .second, .val (.long i0), .second, .val (.long i1), .second, .unset, .unset, .unset, .unset, .unset, .unset, .unset, .unset]) rfl (XS.lload X0.here X0.ex rfl (hb hby at_66) rfl (XS.lstore X0.here X0.ex rfl (hb hby at_68) rfl (l' := #[.val (.long i0), .second, .val (.long i1), .second, .val (.long i2), .second, .val (.long i3), .second, .val (.int i4), .val (.long i2), .second, .val (.long i1), .second, .val (.long i0), .second, .val (.long i1), .second, .unset, .unset, .unset, .unset, .unset, .unset, .unset, .unset]) rfl k)))))) ?_
        show Goes _ _ _ _ T0 (mkF m 70 #[.val (.long i0), .second, .val (.long i1), .second, .val (.long i2), .second, .val (.long i3), .second, .val (.int i4), .val (.long i2), .second, .val (.long i1), .second, .val (.long i0), .second, .val (.long i1), .second, .unset, .unset, .unset, .unset, .unset, .unset, .unset, .unset] [])
        exact J70 T0 h0 i2 i1 i0 (.val (.long i1)) (.second) (X0.mark.mono (by decide) (by decide)) (by simp only [Int64.lt_iff_toInt_lt] at *; omega) (by simp only [Int64.lt_iff_toInt_lt] at *; omega)
set_option maxRecDepth 65536 in
set_option maxHeartbeats 40000000 in
theorem comes_1 {Post : Tables → Env → Array Value → State → Outcome → State → Prop} (hpost : ∀ tb e args s v u, (limb_1_1.after args s (.returned v) u = true ∧ limb_1_2.after args s (.returned v) u = true ∧ True) → Framed s (.returned v) u (Jvm.fieldLocs frame_1_writes args s ++ Jvm.arrayLocs frame_1_arrays args s ++ Jvm.staticLocs frame_1_statics s) 16 128 → Post tb e args s (.returned v) u) :
    ArmFor flags0 classFile x code maxLocals ret World_1 tables_1 room_1 Calls_1 rest_1 Pre_1 Post := by
  intro l hfl _ _ p e ha hc hk s m args below hf hA hF happ hP
  obtain ⟨hcalls, hrest, hpre⟩ := hP
  obtain ⟨-, -, -, hnamed, -, -, -, hat⟩ := (Spec.applies_iff hf).mp happ
  obtain ⟨hg, hn⟩ := and_e (Cond.before_iff.mp (show (Jvm.Cond.and given_1 narrow_1).before args s = true from hpre))
  obtain ⟨h1, r0⟩ := and_e hg
  obtain ⟨w0, w1, w2, w3, w4, rfl⟩ : ∃ w0 w1 w2 w3 w4 : Value, args = #[w0, w1, w2, w3, w4] := by
    have hs : args.size = 5 := by simpa [Cond.value, given_1] using h1
    obtain ⟨L⟩ := args
    match L, hs with
    | [w0, w1, w2, w3, w4], _ => exact ⟨w0, w1, w2, w3, w4, rfl⟩
  have hw := fun d (hd : d ∈ tables_1) => atoms_spec (ws := Jvm.Cond.code x code maxLocals ret :: tables_1) hat d (List.mem_cons_of_mem _ hd)
  have hfit : Fit s := fun {y c} hc i hi => by
    obtain ⟨ha, rfl⟩ := Array.getElem?_eq_some_iff.mp hc
    have q := List.all_eq_true.mp ((Array.all_eq_true_iff_forall_mem.mp hF) _ (Array.getElem_mem ha)) i (List.mem_range.mpr hi)
    simpa [Array.getElem?_eq_getElem hi] using q
  obtain ⟨q0, r1⟩ := and_e r0
  obtain ⟨i0, e0⟩ := isL_v q0
  obtain rfl : w0 = (.long i0) := Option.some.inj e0
  obtain ⟨q1, r2⟩ := and_e r1
  obtain ⟨i1, e1⟩ := isL_v q1
  obtain rfl : w1 = (.long i1) := Option.some.inj e1
  obtain ⟨q2, r3⟩ := and_e r2
  obtain ⟨i2, e2⟩ := isL_v q2
  obtain rfl : w2 = (.long i2) := Option.some.inj e2
  obtain ⟨q3, r4⟩ := and_e r3
  obtain ⟨i3, e3⟩ := isL_v q3
  obtain rfl : w3 = (.long i3) := Option.some.inj e3
  obtain ⟨i4, e4⟩ := is_v r4
  obtain rfl : w4 = (.int i4) := Option.some.inj e4
  obtain ⟨n, o, h1, h2, h3, _, L, rfl, ⟨rfl, N⟩, hq⟩ := own_law l s _ hw s.heap (Ext.oRefl _) i0 i1 i2 i3 i4 tables_1 p e ha hc hk s m _ below hf ((Spec.applies_iff_loose hf).mp happ).1 ⟨rfl, State.Warmed39.refl s, rfl⟩ trivial
  exact ⟨n, _, h1, h2, h3, hpost _ _ _ _ _ _ ⟨Cond.after_iff.mpr rfl, Cond.after_iff.mpr (eq_i res_at (Term.int_eval (1)) rfl), trivial⟩ ⟨hq.1, hq.2.1, (hq.2.2.sift fun y hy => Or.inr (N y hy)).mono (by decide) (by decide)⟩⟩
theorem main_1_1 : Claimed_1_1 := comes_1 fun _ _ _ _ _ _ h hF => ⟨h.1, hF⟩
theorem main_1_2 : Claimed_1_2 := comes_1 fun _ _ _ _ _ _ h hF => ⟨h.2.1, hF⟩
end Jvm.Pilot.@@N@@
namespace Jvm.Pilot.@@N@@
open Jvm Jvm.ClassFile Sem Op Lib Jvm.Free Jvm.Stand Jvm.Pilot.@@N@@.Jvm.D
/-! MADE BY PROGRAM (witnessworld.py) out of the Statement's table words and the real class files: 12 classes; the members and pool entries that the words name. The judged class is class 1, her method 1. -/
namespace start1
open Jvm.ClassFile
def u (s : String) : CpInfo := .utf8 (stringToUtf16 s)
/-- a pool by its gaps: so many unusable entries, then the entry; so many at the end -/
def gap : Nat → List CpInfo → List CpInfo
  | 0, r => r
  | n + 1, r => .unusable :: gap n r
def poolList (es : List (Nat × CpInfo)) (last : Nat) : List CpInfo := es.foldr (fun e r => gap e.1 (e.2 :: r)) (gap last [])
def pool (es : List (Nat × CpInfo)) (last : Nat) : Array CpInfo := ⟨poolList es last⟩
def fileOf (pool : Array CpInfo) (this : Nat) (attrs : Array Attribute := #[]) (ms : Array MethodInfo := #[]) (fl : Nat := 33) (sup : Nat := 0) (ifs : Array Nat := #[]) (fds : Array FieldInfo := #[]) : ClassFile where
  minorVersion := 0
  majorVersion := 65
  constantPool := pool
  accessFlags := fl
  thisClass := this
  superClass := sup
  interfaces := ifs
  fields := fds
  methods := ms
  attributes := attrs
def plain (name : String) (sup : Option ClassId) : Class where
  name := name
  kind := .ordinary
  loader := none
  accessFlags := 33
  super := sup
  interfaces := #[]
  cf := none
  fields := #[]
  methods := #[]
  instanceTypes := #[]
  staticTypes := #[]
  resolved := #[]
  callSites := []
  init := .initialized
  statics := none
  mirror := none

def pool0 : Array CpInfo := pool [(5, u "<init>"), (0, u "()V"), (1, .class_ 10), (1, u "java/lang/Object")] 113

def k0m0 : Method := { name := "<init>", desc := "()V", sig := { parameters := [], returnType := none }, accessFlags := 1, code := none }
/-- java/lang/Object -/
def k0 : Class := { plain "java/lang/Object" none with
  accessFlags := 33
  interfaces := #[]
  cf := some (fileOf pool0 8 #[] #[{ accessFlags := 1, nameIndex := 5, descriptorIndex := 6, attributes := #[] }] 33 0 #[] #[])
  fields := #[]
  methods := #[k0m0]
  instanceTypes := #[]
  staticTypes := #[]
  resolved := Array.replicate 124 none
  statics := none }

def pool1 : Array CpInfo := pool [(2, .class_ 4), (1, u "java/lang/Object"), (0, u "<init>"), (0, u "()V"), (0, .integer 65535), (0, .methodref 9 10), (0, .class_ 11), (0, .nameAndType 12 13), (0, u "com/example/assent/assent/log/CrashSet"), (0, u "insertionPoint"), (0, u "([JJ)I"), (0, .class_ 15), (0, u "com/example/assent/assent/log/CrashSetInsertionPointPinLaw"), (2, u "law"), (0, u "(JJJJI)Z")] 5

def k1m0 : Method := { name := "<init>", desc := "()V", sig := { parameters := [], returnType := none }, accessFlags := 1, code := none }
def k1c1 : Code := { maxStack := 4, maxLocals := 25, code := code, exceptionTable := #[], attributes := #[] }
def k1m1 : Method := { name := "law", desc := "(JJJJI)Z", sig := { parameters := [.long, .long, .long, .long, .int], returnType := some .boolean }, accessFlags := 9, code := some k1c1 }
/-- com/example/assent/assent/log/CrashSetInsertionPointPinLaw -/
def k1 : Class := { plain "com/example/assent/assent/log/CrashSetInsertionPointPinLaw" (some 0) with
  accessFlags := 49
  interfaces := #[]
  cf := some (fileOf pool1 14 #[] #[{ accessFlags := 1, nameIndex := 5, descriptorIndex := 6, attributes := #[] }, { accessFlags := 9, nameIndex := 18, descriptorIndex := 19, attributes := #[] }] 49 2 #[] #[])
  fields := #[]
  methods := #[k1m0, k1m1]
  instanceTypes := #[]
  staticTypes := #[]
  resolved := Array.replicate 25 none
  statics := none }

def pool2 : Array CpInfo := pool [(2, .class_ 4), (1, u "java/lang/Object"), (12, .class_ 19), (1, u "java/util/Arrays"), (7, .class_ 29), (1, u "com/example/assent/assent/log/CrashSet"), (0, u "first"), (0, u "J"), (2, u "last"), (3, u "[J"), (4, u "committed"), (2, u "insertionPoint"), (0, u "([JJ)I"), (7, .methodref 17 56), (0, .nameAndType 57 47), (0, u "binarySearch")] 36

def k2c0 : Code := { maxStack := 3, maxLocals := 4, code := prog_16_method_3_code, exceptionTable := #[], attributes := #[] }
def k2m0 : Method := { name := "insertionPoint", desc := "([JJ)I", sig := { parameters := [(.array .long), .long], returnType := some .int }, accessFlags := 8, code := some k2c0 }
/-- com/example/assent/assent/log/CrashSet -/
def k2 : Class := { plain "com/example/assent/assent/log/CrashSet" (some 0) with
  accessFlags := 48
  interfaces := #[]
  cf := some (fileOf pool2 27 #[] #[{ accessFlags := 8, nameIndex := 46, descriptorIndex := 47, attributes := #[] }] 48 2 #[] #[{ accessFlags := 18, nameIndex := 30, descriptorIndex := 31, attributes := #[] }, { accessFlags := 18, nameIndex := 34, descriptorIndex := 31, attributes := #[] }, { accessFlags := 18, nameIndex := 43, descriptorIndex := 38, attributes := #[] }])
  fields := #[{ name := "first", type := .long, accessFlags := 18, slot := 0, constantValue := 0 }, { name := "last", type := .long, accessFlags := 18, slot := 1, constantValue := 0 }, { name := "committed", type := (.array .long), accessFlags := 18, slot := 2, constantValue := 0 }]
  methods := #[k2m0]
  instanceTypes := #[.long, .long, (.array .long)]
  staticTypes := #[]
  resolved := Array.replicate 94 none
  statics := none }

def pool3 : Array CpInfo := pool [(2, .class_ 4), (1, u "java/lang/Object"), (0, u "<init>"), (0, u "()V"), (7, .class_ 16), (1, u "java/util/Arrays"), (57, .class_ 76), (1, u "java/util/Arrays$NaturalOrder"), (36, .class_ 115), (1, u "java/util/Arrays$LegacyMergeSort"), (1, u "Z"), (87, .methodref 14 206), (0, .nameAndType 207 208), (0, u "binarySearch0"), (0, u "([JIIJ)I"), (166, .class_ 376), (0, u "java/util/Arrays$ArrayList"), (68, u "$assertionsDisabled"), (269, u "MIN_ARRAY_SORT_GRAN"), (0, u "I"), (2, u "INSERTIONSORT_THRESHOLD"), (74, u "binarySearch"), (0, u "([JJ)I"), (179, .class_ 976), (0, u "java/util/Arrays$ArrayItr")] 52

def k3m0 : Method := { name := "<init>", desc := "()V", sig := { parameters := [], returnType := none }, accessFlags := 2, code := none }
def k3c1 : Code := { maxStack := 5, maxLocals := 3, code := jdk_65_method_54_code, exceptionTable := #[], attributes := #[] }
def k3m1 : Method := { name := "binarySearch", desc := "([JJ)I", sig := { parameters := [(.array .long), .long], returnType := some .int }, accessFlags := 9, code := some k3c1 }
def k3c2 : Code := { maxStack := 4, maxLocals := 10, code := jdk_65_method_56_code, exceptionTable := #[], attributes := #[] }
def k3m2 : Method := { name := "binarySearch0", desc := "([JIIJ)I", sig := { parameters := [(.array .long), .int, .int, .long], returnType := some .int }, accessFlags := 10, code := some k3c2 }
/-- java/util/Arrays -/
def k3 : Class := { plain "java/util/Arrays" (some 0) with
  accessFlags := 49
  interfaces := #[]
  cf := some (fileOf pool3 14 #[.nestMembers #[975, 375, 113, 74]] #[{ accessFlags := 2, nameIndex := 5, descriptorIndex := 6, attributes := #[] }, { accessFlags := 9, nameIndex := 794, descriptorIndex := 795, attributes := #[] }, { accessFlags := 10, nameIndex := 207, descriptorIndex := 208, attributes := #[] }] 49 2 #[] #[{ accessFlags := 26, nameIndex := 715, descriptorIndex := 716, attributes := #[] }, { accessFlags := 26, nameIndex := 719, descriptorIndex := 716, attributes := #[] }, { accessFlags := 4120, nameIndex := 445, descriptorIndex := 117, attributes := #[] }])
  fields := #[{ name := "MIN_ARRAY_SORT_GRAN", type := .int, accessFlags := 26, slot := 0, constantValue := 0 }, { name := "INSERTIONSORT_THRESHOLD", type := .int, accessFlags := 26, slot := 1, constantValue := 0 }, { name := "$assertionsDisabled", type := .boolean, accessFlags := 4120, slot := 2, constantValue := 0 }]
  methods := #[k3m0, k3m1, k3m2]
  instanceTypes := #[]
  staticTypes := #[.int, .int, .boolean]
  resolved := Array.replicate 1029 none
  statics := none }

def pool4 : Array CpInfo := pool [(1, u "java/lang/Cloneable"), (0, .class_ 1), (0, u "java/lang/Object"), (0, .class_ 3)] 3

/-- java/lang/Cloneable -/
def k4 : Class := { plain "java/lang/Cloneable" (some 0) with
  accessFlags := 1537
  interfaces := #[]
  cf := some (fileOf pool4 2 #[] #[] 1537 4 #[] #[])
  fields := #[]
  methods := #[]
  instanceTypes := #[]
  staticTypes := #[]
  resolved := Array.replicate 8 none
  statics := none }

def pool5 : Array CpInfo := pool [(1, u "java/io/Serializable"), (0, .class_ 1), (0, u "java/lang/Object"), (0, .class_ 3)] 3

/-- java/io/Serializable -/
def k5 : Class := { plain "java/io/Serializable" (some 0) with
  accessFlags := 1537
  interfaces := #[]
  cf := some (fileOf pool5 2 #[] #[] 1537 4 #[] #[])
  fields := #[]
  methods := #[]
  instanceTypes := #[]
  staticTypes := #[]
  resolved := Array.replicate 8 none
  statics := none }

/-- the primitive byte -/
def k6 : Class := { plain "byte" none with kind := .primitive 'B', accessFlags := 0x411 }
/-- [B -/
def k7 : Class := { plain "[B" (some 0) with kind := .array 6 .byte, interfaces := #[4, 5], accessFlags := 1041 }

/-- the primitive int -/
def k8 : Class := { plain "int" none with kind := .primitive 'I', accessFlags := 0x411 }
/-- [I -/
def k9 : Class := { plain "[I" (some 0) with kind := .array 8 .int, interfaces := #[4, 5], accessFlags := 1041 }

/-- the primitive long -/
def k10 : Class := { plain "long" none with kind := .primitive 'J', accessFlags := 0x411 }
/-- [J -/
def k11 : Class := { plain "[J" (some 0) with kind := .array 10 .long, interfaces := #[4, 5], accessFlags := 1041 }

def heap : Heap := #[]
def classes : Array Class := #[k0, k1, k2, k3, k4, k5, k6, k7, k8, k9, k10, k11]
def interned : List (Array UInt16 × Addr) := []
def slotsUsed : Nat := 0
def theMethod : MethodId := ⟨1, 1⟩
def args0 : Array Value := #[.long 5, .long 7, .long 9, .long 3, .int 7]
def aboutOver (below : List Frame) : State where
  vm := { classes := classes, interned := interned.toArray }
  heap := heap
  slotsUsed := slotsUsed
  threads := #[{ frames := .invoking theMethod args0 :: below }]
def below0 : List Frame := [.native { method := ⟨0, 0⟩, args := #[] }]
def about1 : State := aboutOver below0
def p0 : Program := .bare "" "" ""
def e0 : Env := launch0.env 0 0 0
theorem w_frames : about1.frames = Frame.invoking theMethod args0 :: below0 := rfl
set_option maxRecDepth 65536 in
theorem w_args : argsFit about1.vm theMethod args0 = true := by decide +kernel
set_option maxRecDepth 65536 in
theorem w_heap : heapFits about1 = true := by decide +kernel
set_option maxRecDepth 65536 in
theorem w_runnable : about1.curStatus? = some .runnable := by decide +kernel
set_option maxRecDepth 65536 in
theorem w_alone : about1.alone = true := by decide +kernel
set_option maxRecDepth 65536 in
theorem w_named : about1.methodNamed? x = some theMethod := by decide +kernel
set_option maxRecDepth 65536 in
theorem w_hears : about1.hears theMethod below0 = true := by decide +kernel
set_option maxRecDepth 65536 in
theorem w_ripe : about1.ripe theMethod args0 below0 = true := by decide +kernel
theorem w_running : about1.status = .running := rfl
set_option maxRecDepth 65536 in
theorem w_room : about1.hasRoom e0.platform room_1 = true :=
  launch0.hasRoom_least _ room_1 (by decide +kernel) (by decide +kernel) (by decide +kernel) (by decide +kernel) (by decide +kernel) (by decide +kernel)
theorem allAtoms_all (ts : List Jvm.Cond) (a : Array Jvm.Value) (st : Jvm.State) : (allAtoms ts).before a st = ts.all (fun c => c.before a st) := by
  induction ts with
  | nil => rfl
  | cons c t ih =>
    show (Jvm.Cond.and c (allAtoms t)).before a st = _
    rw [Jvm.Cond.before_and, ih, List.all_cons]
def words1 : List Jvm.Cond := Jvm.Cond.code x code maxLocals ret :: tables_1
/-- a 'code' word, met by the world's own term for the bytes: nothing is compared byte by byte -/
theorem code_word {y : MethodName} {bytes : ByteArray} {mx : Nat} {rt : Option FieldType} {a : Array Value} {s : State} {m : MethodId} {meth : Method} {c : Code} (h1 : s.methodNamed? y = some m) (h2 : s.vm.method? m = some meth) (h3 : meth.code = some c) (h4 : c.code = bytes)
    (h5 : (c.maxLocals == mx && c.exceptionTable.isEmpty && decide (c.maxStack ≤ mostOperands) && decide (meth.sig.returnType = rt) && !meth.locks && decide (parseMethodDescriptor y.desc = some meth.sig)) = true) : (Jvm.Cond.code y bytes mx rt).before a s = true := by
  simp only [Bool.and_eq_true, beq_iff_eq, Bool.not_eq_true', decide_eq_true_eq] at h5
  obtain ⟨⟨⟨⟨⟨g1, g2⟩, g3⟩, g4⟩, g5⟩, g6⟩ := h5
  simp [Cond.before, Cond.holds, Cond.value, h1, h2, h3, h4, g1, g2, g3, g4, g5, g6]
def isCode : Jvm.Cond → Bool
  | .code _ _ _ _ => true
  | _ => false
theorem all_split {L : List Jvm.Cond} {P : Jvm.Cond → Bool} (h1 : L.all (fun c => isCode c || P c) = true) (h2 : ∀ c ∈ L.filter isCode, P c = true) : L.all P = true := by
  refine List.all_eq_true.mpr fun c hc => ?_
  have h := List.all_eq_true.mp h1 c hc
  rcases Bool.eq_false_or_eq_true (isCode c) with hi | hi
  · exact h2 c (List.mem_filter.mpr ⟨hc, hi⟩)
  · simpa [hi] using h
set_option maxRecDepth 65536 in
theorem w_c0 : (Jvm.Cond.code x code maxLocals ret).before args0 about1 = true := code_word (m := ⟨1, 1⟩) (meth := k1m1) (c := k1c1) (by decide +kernel) rfl rfl rfl (by decide +kernel)
set_option maxRecDepth 65536 in
theorem w_c1 : (Jvm.Cond.code ({ cls := "com/example/assent/assent/log/CrashSet", name := "insertionPoint", desc := "([JJ)I" } : Jvm.MethodName) prog_16_method_3_code (4 : Nat) (Option.some Jvm.ClassFile.FieldType.int)).before args0 about1 = true := code_word (m := ⟨2, 0⟩) (meth := k2m0) (c := k2c0) (by decide +kernel) rfl rfl rfl (by decide +kernel)
set_option maxRecDepth 65536 in
theorem w_c2 : (Jvm.Cond.code ({ cls := "java/util/Arrays", name := "binarySearch", desc := "([JJ)I" } : Jvm.MethodName) jdk_65_method_54_code (3 : Nat) (Option.some Jvm.ClassFile.FieldType.int)).before args0 about1 = true := code_word (m := ⟨3, 1⟩) (meth := k3m1) (c := k3c1) (by decide +kernel) rfl rfl rfl (by decide +kernel)
set_option maxRecDepth 65536 in
theorem w_c3 : (Jvm.Cond.code ({ cls := "java/util/Arrays", name := "binarySearch0", desc := "([JIIJ)I" } : Jvm.MethodName) jdk_65_method_56_code (10 : Nat) (Option.some Jvm.ClassFile.FieldType.int)).before args0 about1 = true := code_word (m := ⟨3, 2⟩) (meth := k3m2) (c := k3c2) (by decide +kernel) rfl rfl rfl (by decide +kernel)
def codes1 : List Jvm.Cond := [Jvm.Cond.code x code maxLocals ret, Jvm.Cond.code ({ cls := "com/example/assent/assent/log/CrashSet", name := "insertionPoint", desc := "([JJ)I" } : Jvm.MethodName) prog_16_method_3_code (4 : Nat) (Option.some Jvm.ClassFile.FieldType.int), Jvm.Cond.code ({ cls := "java/util/Arrays", name := "binarySearch", desc := "([JJ)I" } : Jvm.MethodName) jdk_65_method_54_code (3 : Nat) (Option.some Jvm.ClassFile.FieldType.int), Jvm.Cond.code ({ cls := "java/util/Arrays", name := "binarySearch0", desc := "([JIIJ)I" } : Jvm.MethodName) jdk_65_method_56_code (10 : Nat) (Option.some Jvm.ClassFile.FieldType.int)]
set_option maxRecDepth 65536 in
theorem codes_eq : words1.filter isCode = codes1 := rfl
theorem w_codes : ∀ c ∈ words1.filter isCode, c.before args0 about1 = true := by
  rw [codes_eq]
  intro c hc
  simp only [codes1, List.mem_cons, List.not_mem_nil, or_false] at hc
  rcases hc with rfl | rfl | rfl | rfl
  · exact w_c0
  · exact w_c1
  · exact w_c2
  · exact w_c3
set_option maxRecDepth 65536 in
theorem w_t1 : words1.all (fun c => isCode c || c.before args0 about1) = true := by decide +kernel
theorem w_tables : (allAtoms (Jvm.Cond.code x code maxLocals ret :: tables_1)).before args0 about1 = true := by
  rw [allAtoms_all]
  show words1.all (fun c => c.before args0 about1) = true
  refine all_split ?_ w_codes
  rw [w_t1]
set_option maxRecDepth 65536 in
theorem w_case : (Jvm.Cond.and given_1 narrow_1).before args0 about1 = true := by decide +kernel
theorem w_applies : (headSpec (Jvm.Cond.code x code maxLocals ret :: tables_1) room_1).applies x e0.platform about1 = true :=
  (Spec.applies_iff w_frames).mpr ⟨w_running, w_runnable, w_alone, w_named, w_hears, w_ripe, w_room, w_tables⟩
theorem atStart : AtStart classFile x code maxLocals ret World_1 tables_1 room_1 Calls_1 rest_1 Pre_1 launch0 p0 e0 about1 theMethod args0 below0 :=
  ⟨lists_1, trivial, launch0.admits_env _ _ _, launch0.least_env, fairChoices_fair.cas, fairChoices_fair.clock, w_frames, w_args, w_heap, w_applies, trivial, trivial, w_case⟩
end start1
theorem witness_1 : WitnessClaimed_1 := ⟨start1.p0, start1.e0, start1.about1, start1.theMethod, start1.args0, start1.below0, start1.atStart⟩
end Jvm.Pilot.@@N@@
