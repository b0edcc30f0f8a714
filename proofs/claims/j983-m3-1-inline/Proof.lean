import JvmDerived
import JvmDerived.Pilot.@@N@@Statement
import JvmDerived.Pilot.@@N@@Code
set_option linter.unusedVariables false
set_option linter.unusedSimpArgs false
namespace Jvm.Pilot.@@N@@
open Jvm Jvm.ClassFile Sem Op Lib Jvm.Free Jvm.Stand Jvm.LawKit Jvm.RoadKit Bundle Jvm.Pilot.@@N@@.Jvm.D
/-! THE LAYER: what a body does from a point on, as one sentence ('own_WP'); a contract is 'own_Met'. K: the launch, the start's state, the string constants that are held, 'nothing is interned'. M: the method, its bytes, its locals, what it returns, its room. -/
abbrev own_Cx : Type := Launch × State × List (String × Nat) × Bool
abbrev own_Cx.l (K : own_Cx) : Launch := K.1
abbrev own_Cx.Z (K : own_Cx) : State := K.2.1
abbrev own_Cx.E (K : own_Cx) : List (String × Nat) := K.2.2.1
abbrev own_Cx.nw (K : own_Cx) : Bool := K.2.2.2
abbrev own_Cx.n (K : own_Cx) : Nat := K.Z.heap.size
abbrev own_Mi : Type := MethodName × ByteArray × Nat × Option FieldType × Room
abbrev own_Mi.y (M : own_Mi) : MethodName := M.1
abbrev own_Mi.b (M : own_Mi) : ByteArray := M.2.1
abbrev own_Mi.mx (M : own_Mi) : Nat := M.2.2.1
abbrev own_Mi.ret (M : own_Mi) : Option FieldType := M.2.2.2.1
abbrev own_Mi.R (M : own_Mi) : Room := M.2.2.2.2
abbrev own_Q : Type := Option Value → Heap → List Addr → Prop
def own_ret (q : Value → Heap → List Addr → Prop) : own_Q := fun v h xs => ∃ w, v = some w ∧ q w h xs
def own_void (q : Heap → List Addr → Prop) : own_Q := fun v h xs => v = none ∧ q h xs
def own_Bdy (K : own_Cx) (M : own_Mi) (p : Program) (s : State) (m : MethodId) (meth : Method) (c : Code) : Prop :=
  p.tables.exec = Jvm.exec ∧ c.code = M.b ∧ c.maxLocals = M.mx ∧ s.vm.findClass M.y.cls = some m.cls ∧ meth.name = M.y.name ∧ meth.sig.returnType = M.ret ∧ meth.locks = false ∧ K.Z.Warmed39 s.vm ∧ ∃ a0, EW K.Z a0 K.E
def own_Sf (K : own_Cx) (vm : Vm) (h : Heap) (xs : List Addr) : Prop := ∀ x ∈ xs, K.n ≤ x ∧ x < h.size ∧ Safe K.Z K.E vm h x
def own_Inv (K : own_Cx) (s : State) (vm0 : Vm) (k0 : Nat) (h : Heap) (sf : List Addr) : Prop :=
  s.Since vm0 k0 ∧ k0 ≤ h.size ∧ (K.nw = true → s.WarmedH vm0) ∧ CHr K.Z K.E s.vm s.heap vm0 h ∧ own_Sf K vm0 h sf ∧ Ext K.Z.heap h
def own_End (K : own_Cx) (R : Room) (Q : own_Q) (s : State) (o : Outcome) (t : State) : Prop :=
  ∃ v L xs, o = .returned v ∧ Q v t.heap xs ∧ Fr K.n L ∧ CHr K.Z K.E s.vm s.heap t.vm t.heap ∧ own_Sf K t.vm t.heap xs ∧ Ext K.Z.heap t.heap ∧ ReturnedEndW s o t L R.cells R.slots ∧ (K.nw = true → s.WarmedH t.vm)
def own_Fin (K : own_Cx) (R : Room) (Q : own_Q) (p : Program) (e : Env) (below : List Frame) (s F : State) : Prop :=
  ∃ s₂ o, Steps p.tables e below F s₂ ∧ s₂.status = .running ∧ Ended s₂ below o ∧ own_End K R Q s o s₂
def own_WP (K : own_Cx) (M : own_Mi) (Q : own_Q) (pc : Nat) (Ls : List Slot) (St : List Value) (sf : List Addr) (h : Heap) (cs sl : Nat) : Prop :=
  ∀ (p : Program) (e : Env) (s : State) (vm0 : Vm) (k0 : Nat) (m : MethodId) (args : Array Value) (below : List Frame) (meth : Method) (c : Code) (T : State) (locs : List Loc) (cs' sl' : Nat),
    own_Bdy K M p (s.setVm vm0) m meth c → Stand p K.l e M.R (s.setVm vm0) m args below meth c T locs cs' sl' → cs' ≤ cs → sl' ≤ sl → T.heap = h → Fr K.n locs → own_Inv K s vm0 k0 h sf →
    own_Fin K M.R Q p e below s (T.setTop (mkF m pc Ls.toArray St))
def own_Met (K : own_Cx) (M : own_Mi) (as' : Array Value) (sf : List Addr) (h : Heap) (Q : own_Q) : Prop :=
  ∀ ws : List Jvm.Cond, MetFree K.l M.y (head1 (Jvm.Cond.code M.y M.b M.mx M.ret :: ws) M.R) (fun a U => a = as' ∧ K.Z.Warmed39 U.vm ∧ U.heap = h ∧ (∃ a0, EW K.Z a0 K.E) ∧ CHv K.Z K.E U.vm h ∧ own_Sf K U.vm h sf ∧ Ext K.Z.heap h) (fun _ _ _ _ _ => True) (fun _ U o U' => own_End K M.R Q U o U')
section Core
variable {K : own_Cx} {M : own_Mi} {Q : own_Q} {pc pc' : Nat} {Ls Ls' : List Slot} {St St' : List Value} {sf : List Addr} {h : Heap} {cs sl : Nat} {a0 : Array Value}
theorem own_ext_trans {h h' h2 : Heap} (E : Ext h h') (E' : Ext h' h2) : Ext h h2 := ⟨Nat.le_trans E.1 E'.1, fun x c q => E'.2 x c (E.2 x c q)⟩
theorem own_ext_refl (h : Heap) : Ext h h := ⟨Nat.le_refl _, fun _ _ q => q⟩
theorem own_met (hpn : plainFor M.y = true) {as' : Array Value} (ef : ∀ m : MethodId, entryFrame m as' M.mx = mkF m 0 Ls.toArray []) (k : own_WP K M Q 0 Ls [] sf h 0 0) : own_Met K M as' sf h Q := by
  intro ws
  refine MetFree.of_bodySF hpn hisR ?_
  intro p e s m args below meth c s₁ Bd hml0 hP hK
  obtain ⟨rfl, hZ, hh, hEW, hC, hsf, hE⟩ := hP
  have hown : s.vm.findClass M.y.cls = some m.cls := findClass_of_methodNamed Bd.named
  have hnm := (name_of_methodNamed Bd.named Bd.method).1
  have X0 : Stand p K.l e M.R s m args below meth c s₁ [] 0 0 := Stand.of_body Bd
  have e0 : s₁.heap = h := by rw [← hh, Bd.state]; rfl
  have hI : own_Inv K s s.vm 0 h sf := ⟨(State.WarmedH.refl s).since _, Nat.zero_le _, fun _ => State.WarmedH.refl s, by rw [← hh]; exact CHr.refl (by rw [hh]; exact hC), hsf, hE⟩
  obtain ⟨s₂, o, h1, h2, h3, h4⟩ := k p e s s.vm 0 m args below meth c s₁ [] 0 0 ⟨Bd.exec, Bd.bytes, hml0, hown, hnm, Bd.returns, BodyLoose.notSynchronized Bd, hZ, hEW⟩ X0 (Nat.le_refl _) (Nat.le_refl _) e0 (Fr.nil _) hI
  refine ⟨s₂, o, ?_, h2, h3, h4⟩
  rw [ef m]
  exact h1
theorem own_step (k : own_WP K M Q pc' Ls' St' sf h cs sl)
    (st : ∀ (p : Program) (e : Env) (s : State) (m : MethodId) (args : Array Value) (below : List Frame) (meth : Method) (c : Code) (T : State) (locs : List Loc) (cs' sl' : Nat), own_Bdy K M p s m meth c → Stand p K.l e M.R s m args below meth c T locs cs' sl' → T.heap = h →
      ∀ t, Steps p.tables e below (T.setTop (mkF m pc' Ls'.toArray St')) t → Steps p.tables e below (T.setTop (mkF m pc Ls.toArray St)) t) : own_WP K M Q pc Ls St sf h cs sl := by
  intro p e s vm0 k0 m args below meth c T locs cs' sl' B X hc hs eT N I
  obtain ⟨s₂, o, h1, r⟩ := k p e s vm0 k0 m args below meth c T locs cs' sl' B X hc hs eT N I
  exact ⟨s₂, o, st p e _ m args below meth c T locs cs' sl' B X eT _ h1, r⟩
theorem own_move (k : own_WP K M Q pc' Ls' St' sf h cs sl)
    (st : ∀ (p : Program) (e : Env) (s : State) (m : MethodId) (args : Array Value) (below : List Frame) (meth : Method) (c : Code) (T : State) (locs : List Loc) (cs' sl' : Nat), own_Bdy K M p s m meth c → Stand p K.l e M.R s m args below meth c T locs cs' sl' → T.heap = h → Ext K.Z.heap h →
      ∃ T', Stand p K.l e M.R s m args below meth c T' locs cs' sl' ∧ T'.heap = h ∧ ∀ t, Steps p.tables e below (T'.setTop (mkF m pc' Ls'.toArray St')) t → Steps p.tables e below (T.setTop (mkF m pc Ls.toArray St)) t) : own_WP K M Q pc Ls St sf h cs sl := by
  intro p e s vm0 k0 m args below meth c T locs cs' sl' B X hc hs eT N I
  obtain ⟨T', X', e', st'⟩ := st p e _ m args below meth c T locs cs' sl' B X eT I.2.2.2.2.2
  obtain ⟨s₂, o, h1, r⟩ := k p e s vm0 k0 m args below meth c T' locs cs' sl' B X' hc hs e' N I
  exact ⟨s₂, o, st' _ h1, r⟩
theorem own_Sf.new {vm : Vm} {h' : Heap} (E : Ext h h') (hH : CHv K.Z K.E vm h) (hE : Ext K.Z.heap h) (hlt : h.size < h'.size) (S : own_Sf K vm h sf) : own_Sf K vm h' (h.size :: sf) := by
  intro x hx
  rcases List.mem_cons.mp hx with rfl | hx
  · exact ⟨hE.1, hlt, Safe.ext E hH (Safe.new (Nat.le_refl _))⟩
  · obtain ⟨q1, q2, q3⟩ := S x hx
    exact ⟨q1, Nat.lt_of_lt_of_le q2 E.1, Safe.ext E hH q3⟩
theorem own_grow {dc ds : Nat} {P : Heap → Prop} (hc : cs + dc ≤ M.R.cells) (hs : sl + ds ≤ M.R.slots)
    (k : ∀ h', Ext h h' → P h' → own_WP K M Q pc' Ls' St' (h.size :: sf) h' (cs + dc) (sl + ds))
    (st : ∀ (p : Program) (e : Env) (s : State) (m : MethodId) (args : Array Value) (below : List Frame) (meth : Method) (c : Code) (T : State) (locs : List Loc) (cs' sl' : Nat), own_Bdy K M p s m meth c → Stand p K.l e M.R s m args below meth c T locs cs' sl' → cs' + dc ≤ M.R.cells → sl' + ds ≤ M.R.slots → T.heap = h →
      ∃ T' h', Stand p K.l e M.R s m args below meth c T' locs (cs' + dc) (sl' + ds) ∧ T'.heap = h' ∧ Ext h h' ∧ h.size < h'.size ∧ P h' ∧ ∀ t, Steps p.tables e below (T'.setTop (mkF m pc' Ls'.toArray St')) t → Steps p.tables e below (T.setTop (mkF m pc Ls.toArray St)) t) : own_WP K M Q pc Ls St sf h cs sl := by
  intro p e s vm0 k0 m args below meth c T locs cs' sl' B X hc' hs' eT N I
  obtain ⟨T', h', X', e', E, hlt, hP, st'⟩ := st p e _ m args below meth c T locs cs' sl' B X (by omega) (by omega) eT
  obtain ⟨i1, i2, i3, i4, i5, i6⟩ := I
  obtain ⟨s₂, o, h1, r⟩ := k h' E hP p e s vm0 k0 m args below meth c T' locs (cs' + dc) (sl' + ds) B X' (by omega) (by omega) e' N ⟨i1, Nat.le_trans i2 E.1, i3, i4.trans (CHr.ext E i4.1), own_Sf.new E i4.1 i6 hlt i5, own_ext_trans i6 E⟩
  exact ⟨s₂, o, st' _ h1, r⟩
theorem own_Sf.wr {vm : Vm} {h' : Heap} {a : Addr} {i : Nat} {v : Value} (W : Wr h h' a i v) (hH : CHv K.Z K.E vm h) (ha : a ∈ sf) (S : own_Sf K vm h sf) : own_Sf K vm h' sf := by
  intro x hx
  obtain ⟨q1, q2, q3⟩ := S x hx
  exact ⟨q1, by rw [W.size]; exact q2, Safe.wr W (S a ha).2.2 hH q3⟩
theorem own_ext_wr {h h' : Heap} {Z : State} {a : Addr} {i : Nat} {v : Value} (W : Wr h h' a i v) (ha : Z.heap.size ≤ a) (E : Ext Z.heap h) : Ext Z.heap h' := by
  have K := Keep.of_wr W
  exact ⟨by rw [W.size]; exact E.1, fun x c q => K.2.1 x c (E.2 x c q) (by
    intro hm
    have h1 : x < Z.heap.size := (Array.getElem?_eq_some_iff.mp q).1
    have h2 := List.mem_singleton.mp hm
    subst h2
    exact Nat.lt_irrefl _ (Nat.lt_of_lt_of_le h1 ha))⟩
theorem own_write {a : Addr} {i : Nat} {v : Value} (ha : a ∈ sf) (k : ∀ h', Wr h h' a i v → own_WP K M Q pc' Ls' St' sf h' cs sl)
    (st : ∀ (p : Program) (e : Env) (s : State) (m : MethodId) (args : Array Value) (below : List Frame) (meth : Method) (c : Code) (T : State) (locs : List Loc) (cs' sl' : Nat), own_Bdy K M p s m meth c → Stand p K.l e M.R s m args below meth c T locs cs' sl' → T.heap = h →
      ∃ T' h', Stand p K.l e M.R s m args below meth c T' (locs ++ [⟨a, i⟩]) cs' sl' ∧ T'.heap = h' ∧ Wr h h' a i v ∧ ∀ t, Steps p.tables e below (T'.setTop (mkF m pc' Ls'.toArray St')) t → Steps p.tables e below (T.setTop (mkF m pc Ls.toArray St)) t) : own_WP K M Q pc Ls St sf h cs sl := by
  intro p e s vm0 k0 m args below meth c T locs cs' sl' B X hc' hs' eT N I
  obtain ⟨T', h', X', e', W, st'⟩ := st p e _ m args below meth c T locs cs' sl' B X eT
  obtain ⟨i1, i2, i3, i4, i5, i6⟩ := I
  have hn := (i5 a ha).1
  obtain ⟨s₂, o, h1, r⟩ := k h' W p e s vm0 k0 m args below meth c T' _ cs' sl' B X' hc' hs' e' (Fr.snoc X' N hn) ⟨i1, by rw [W.size]; exact i2, i3, i4.trans (CHr.wr W (i5 a ha).2.2 i4.1), own_Sf.wr W i4.1 ha i5, own_ext_wr W hn i6⟩
  exact ⟨s₂, o, st' _ h1, r⟩
/-- what the walk knows of the start's heap -/
theorem own_old (k : Ext K.Z.heap h → own_WP K M Q pc Ls St sf h cs sl) : own_WP K M Q pc Ls St sf h cs sl :=
  fun p e s vm0 k0 m args below meth c T locs cs' sl' B X hc hs eT N I => k I.2.2.2.2.2 p e s vm0 k0 m args below meth c T locs cs' sl' B X hc hs eT N I
/-- fewer writable places, more room spent: a weaker sentence -/
theorem own_weak {sf' : List Addr} {cs1 sl1 : Nat} (k : own_WP K M Q pc Ls St sf' h cs1 sl1) (hsf : ∀ x ∈ sf', x ∈ sf) (hc : cs ≤ cs1) (hs : sl ≤ sl1) : own_WP K M Q pc Ls St sf h cs sl :=
  fun p e s vm0 k0 m args below meth c T locs cs' sl' B X hc' hs' eT N I => k p e s vm0 k0 m args below meth c T locs cs' sl' B X (Nat.le_trans hc' hc) (Nat.le_trans hs' hs) eT N ⟨I.1, I.2.1, I.2.2.1, I.2.2.2.1, fun x hx => I.2.2.2.2.1 x (hsf x hx), I.2.2.2.2.2⟩
/-- the end -/
theorem own_leave {v : Option Value} (hv : M.ret = none → v = none) (hc : cs ≤ M.R.cells) (hs : sl ≤ M.R.slots) (q : Q v h sf)
    (st : ∀ (p : Program) (e : Env) (s : State) (m : MethodId) (args : Array Value) (below : List Frame) (meth : Method) (c : Code) (T : State) (locs : List Loc) (cs' sl' : Nat), own_Bdy K M p s m meth c → Stand p K.l e M.R s m args below meth c T locs cs' sl' →
      ∀ fs, (∀ (f : JFrame) (acts : List Action), f.method = m → f.locked = none → f.entered = [] → (doReturn e (T.setTop f) acts v).1 = T.setFrames fs) → Steps p.tables e below (T.setTop (mkF m pc Ls.toArray St)) (T.setFrames fs)) : own_WP K M Q pc Ls St sf h cs sl := by
  intro p e s vm0 k0 m args below meth c T locs cs' sl' B X hc' hs' eT N I
  obtain ⟨i1, i2, i3, i4, i5, i6⟩ := I
  have hlk : meth.locks = false := B.2.2.2.2.2.2.1
  have hr : meth.sig.returnType = M.ret := B.2.2.2.2.2.1
  obtain ⟨a1, hEW⟩ := B.2.2.2.2.2.2.2.2
  obtain ⟨fs, h1, h2, h3, h4⟩ := X.leaveW i1 (by rw [eT]; exact i2) (v := v) (by rw [hr]; exact hv) hlk
  have A : CHr K.Z K.E vm0 h T.vm h := CHv.at X B.2.2.2.2.2.2.2.1 hEW i4.1
  refine ⟨_, _, st p e _ m args below meth c T locs cs' sl' B X fs h1, h2, h3, v, locs, sf, rfl, ?_, N, ?_, ?_, ?_, ?_, ?_⟩
  · show Q v T.heap sf; rw [eT]; exact q
  · show CHr K.Z K.E s.vm s.heap T.vm T.heap; rw [eT]; exact i4.trans A
  · show own_Sf K T.vm T.heap sf
    rw [eT]
    exact fun x hx => ⟨(i5 x hx).1, (i5 x hx).2.1, A.safe (i5 x hx).2.1 (i5 x hx).2.2⟩
  · show Ext K.Z.heap T.heap; rw [eT]; exact i6
  · obtain ⟨r1, r2, r3, r4⟩ := h4
    exact ⟨r1, r2, r3, r4.mono (by omega) (by omega)⟩
  · exact fun q => State.WarmedH.trans (t := s.setVm vm0) (i3 q) X.warmed
end Core
section Calls
variable {K : own_Cx} {M M' : own_Mi} {Q Q' : own_Q} {pc pc' : Nat} {Ls : List Slot} {St rest : List Value} {sf sf' : List Addr} {h : Heap} {cs sl : Nat} {a0 : Array Value}
theorem own_back {R : Room} {p : Program} {e : Env} {s : State} {vm0 : Vm} {k0 : Nat} {below : List Frame} {args as' : Array Value} {len W : Nat} (hM : own_Met K M' as' sf' h Q') (hsf : ∀ x ∈ sf', x ∈ sf) (hZ : K.Z.Warmed39 vm0) (hEW : ∃ a0, EW K.Z a0 K.E) (I : own_Inv K s vm0 k0 h sf)
    (wc : (Jvm.Cond.code M'.y M'.b M'.mx M'.ret).before a0 K.Z = true) (wz : (Jvm.Cond.initialized M'.y.cls).before a0 K.Z = true) (hf : M'.R.frames + 1 ≤ R.frames) (hl : W + (M'.mx + 11) + M'.R.locals ≤ R.locals) :
    BackS K.l R p e below (s.setVm vm0) args M'.y len W (fun A a => a = as' ∧ A.U.heap = h ∧ A.cells + M'.R.cells ≤ R.cells ∧ A.slots + M'.R.slots ≤ R.slots)
      (fun A _ v B => ∃ L xs, Q' v B.U.heap xs ∧ Fr K.n L ∧ B.locs = A.locs ++ L ∧ B.cells = A.cells + M'.R.cells ∧ B.slots = A.slots + M'.R.slots ∧ CHr K.Z K.E vm0 h B.U.vm B.U.heap ∧ own_Sf K B.U.vm B.U.heap xs ∧ Ext K.Z.heap B.U.heap ∧ (K.nw = true → (s.setVm vm0).WarmedH B.U.vm)) := by
  obtain ⟨a1, hE⟩ := hEW
  have H := I.2.2.2.1.1
  exact BackS.of_freeW (bytes := M'.b) (maxL := M'.mx) (ret := M'.ret) (E := fun _ first o t L k n => k = M'.R.cells ∧ n = M'.R.slots ∧ ∃ v xs, o = .returned v ∧ Q' v t.heap xs ∧ Fr K.n L ∧ CHr K.Z K.E first.vm first.heap t.vm t.heap ∧ own_Sf K t.vm t.heap xs ∧ Ext K.Z.heap t.heap ∧ (K.nw = true → first.WarmedH t.vm)) (hM []) hf hl
    (fun m meth c A a Y hp => have hU : K.Z.Warmed39 A.U.vm := wtrans (s := s.setVm vm0) hZ Y.warmed
      ⟨by show (Jvm.Cond.and _ .tt).before a A.U = true; rw [Cond.before_and, mv hU wc]; rfl, mv hU wc, mv hU wz, hp.2.2.1, hp.2.2.2⟩)
    (fun m meth c A a g mk Y hp => ⟨hp.1, wtrans (s := s.setVm vm0) hZ Y.warmed, hp.2.1, ⟨a1, hE⟩, (CHv.at Y hZ hE H).1, fun x hx => have q := I.2.2.2.2.1 x (hsf x hx); ⟨q.1, q.2.1, (CHv.at Y hZ hE H).safe q.2.1 q.2.2⟩, I.2.2.2.2.2⟩)
    (fun _ _ _ _ _ _ _ _ _ => trivial)
    (fun _ _ _ _ ⟨v, L, xs, h1, h2, h3, h4, h5, h6, h7, h8⟩ => ⟨L, _, _, h7, rfl, rfl, v, xs, h1, h2, h3, h4, h5, h6, h8⟩)
    (fun m meth c A a g mk v t L k n Y hp _ _ ⟨e1, e2, v', xs, e3, e4, e5, e6, e7, e8, e9⟩ => by
      cases e3; subst e1 e2
      refine ⟨L, xs, e4, e5, rfl, rfl, rfl, (CHv.at Y hZ hE H).trans ?_, e7, e8, fun q => ?_⟩
      · rw [← hp.2.1]; exact e6
      · exact State.WarmedH.trans Y.warmed (e9 q))
theorem own_called {p : Program} {e : Env} {s : State} {vm0 : Vm} {k0 : Nat} {m : MethodId} {args : Array Value} {below : List Frame} {meth : Method} {c : Code} {T : State} {locs : List Loc} {cs' sl' : Nat} {v : Option Value} {B : Pt}
    (k : ∀ v h' xs, Q' v h' xs → own_WP K M Q pc' Ls (v.toList ++ rest) (xs ++ sf) h' (cs + M'.R.cells) (sl + M'.R.slots)) (Bd : own_Bdy K M p (s.setVm vm0) m meth c) (hc : cs' ≤ cs) (hs : sl' ≤ sl) (eT : T.heap = h) (N : Fr K.n locs) (I : own_Inv K s vm0 k0 h sf)
    (X' : Stand p K.l e M.R ((s.setVm vm0).setVm B.U.vm) m args below meth c B.U B.locs B.cells B.slots) (hS : (s.setVm vm0).Since B.U.vm B.U.heap.size) (hg : T.heap.size ≤ B.U.heap.size)
    (P : ∃ L xs, Q' v B.U.heap xs ∧ Fr K.n L ∧ B.locs = locs ++ L ∧ B.cells = cs' + M'.R.cells ∧ B.slots = sl' + M'.R.slots ∧ CHr K.Z K.E vm0 h B.U.vm B.U.heap ∧ own_Sf K B.U.vm B.U.heap xs ∧ Ext K.Z.heap B.U.heap ∧ (K.nw = true → (s.setVm vm0).WarmedH B.U.vm))
    {F : State} (st : Steps p.tables e below F (B.U.setTop (mkF m pc' Ls.toArray (v.toList ++ rest)))) : own_Fin K M.R Q p e below s F := by
  obtain ⟨U, l1, c1, s1⟩ := B
  obtain ⟨L, xs, q, NL, eL, ec, es, C, S, E, w⟩ := P
  dsimp only [Pt.U, Pt.locs, Pt.cells, Pt.slots] at X' hS hg q eL ec es C S E w st
  subst eL ec es
  obtain ⟨i1, i2, i3, i4, i5, i6⟩ := I
  obtain ⟨b1, b2, b3, b4, b5, b6, b7, b8, b9⟩ := Bd
  obtain ⟨X2, S2, Z2, O2⟩ := rebS (Z := K.Z) (own := M.y.cls) i1 (n1 := T.heap.size) (by rw [eT]; exact i2) X' hS hg b8 b4
  obtain ⟨s₂, o, h1, r⟩ := k v U.heap xs q p e s U.vm U.heap.size m args below meth c U (locs ++ L) _ _ ⟨b1, b2, b3, O2, b5, b6, b7, Z2, b9⟩ X2 (Nat.add_le_add_right hc _) (Nat.add_le_add_right hs _) rfl (N.app NL)
    ⟨S2, Nat.le_refl _, fun q => State.WarmedH.trans (t := s.setVm vm0) (i3 q) (w q), i4.trans C, fun x hx => by
      rcases List.mem_append.mp hx with hx | hx
      · exact S x hx
      · exact ⟨(i5 x hx).1, Nat.lt_of_lt_of_le (i5 x hx).2.1 C.2.1, C.safe (i5 x hx).2.1 (i5 x hx).2.2⟩, E⟩
  exact ⟨s₂, o, st.trans h1, r⟩
theorem own_static {index : Nat} {argsL : List Value} (hd : decode M.b pc = .ok (.invokestatic index, 3)) (hp : pc + 3 = pc') (w1 : (Jvm.Cond.methodLink M.y.cls index M'.y).before a0 K.Z = true) (w2 : (Jvm.Cond.static M'.y).before a0 K.Z = true) (w3 : (Jvm.Cond.initialized M'.y.cls).before a0 K.Z = true) (w4 : (Jvm.Cond.code M'.y M'.b M'.mx M'.ret).before a0 K.Z = true)
    (hy : M'.y.cls ≠ "java/lang/invoke/MethodHandle" ∧ M'.y.cls ≠ "java/lang/invoke/VarHandle") (hsz : Ls.length = M.mx) (hlen : ∀ sig, parseMethodDescriptor M'.y.desc = some sig → argsL.length = sig.parameters.length) (hst : St = argsL.reverse ++ rest)
    (hf : Nat.ble (M'.R.frames + 1) M.R.frames = true) (hl : Nat.ble ((rest.map fun v => v.category).sum + (M'.mx + 11) + M'.R.locals) M.R.locals = true) (hc : Nat.ble (cs + M'.R.cells) M.R.cells = true) (hs : Nat.ble (sl + M'.R.slots) M.R.slots = true)
    (hM : own_Met K M' argsL.toArray sf' h Q') (hsf : ∀ x ∈ sf', x ∈ sf) (k : ∀ v h' xs, Q' v h' xs → own_WP K M Q pc' Ls (v.toList ++ rest) (xs ++ sf) h' (cs + M'.R.cells) (sl + M'.R.slots)) : own_WP K M Q pc Ls St sf h cs sl := by
  subst hst hp
  intro p e s vm0 k0 m args below meth c T locs cs' sl' B X hc' hs' eT N I
  have q1 := Nat.le_of_ble_eq_true hf
  have q2 := Nat.le_of_ble_eq_true hl
  have q3 := Nat.le_of_ble_eq_true hc
  have q4 := Nat.le_of_ble_eq_true hs
  obtain ⟨v, vm₁, B', -, X', hS, hg, P, st⟩ := callSS X B.1 (y := M'.y) (bytes := M'.b) (maxL := M'.mx) (ret := M'.ret) B.2.2.2.1 (mv B.2.2.2.2.2.2.2.1 w1) (mv B.2.2.2.2.2.2.2.1 w2) (mv B.2.2.2.2.2.2.2.1 w3) (mv B.2.2.2.2.2.2.2.1 w4) hy
    (own_back (W := (rest.map fun v => v.category).sum) hM hsf B.2.2.2.2.2.2.2.1 B.2.2.2.2.2.2.2.2 I w4 w3 q1 q2) (g := mkF m pc Ls.toArray (argsL.reverse ++ rest)) rfl (by rw [B.2.2.1, ← hsz]; simp) (argsL := argsL) (rest := rest) hlen rfl (by show 2 * 0 + _ ≤ _; omega) (hb B.2.1 hd)
    (fun vm₁ _ => ⟨rfl, eT, by show cs' + _ ≤ _; omega, by show sl' + _ ≤ _; omega⟩)
  exact own_called k B hc' hs' eT N I X' hS hg P st
theorem own_special {index : Nat} {a : Addr} {argsL : List Value} (hd : decode M.b pc = .ok (.invokespecial index, 3)) (hp : pc + 3 = pc') (hn : M'.y.name = "<init>") (hrt : M'.ret = none) (w1 : (Jvm.Cond.methodLink M.y.cls index M'.y).before a0 K.Z = true) (w2 : (Jvm.Cond.instanceMethod M'.y).before a0 K.Z = true) (w3 : (Jvm.Cond.initialized M'.y.cls).before a0 K.Z = true) (w4 : (Jvm.Cond.code M'.y M'.b M'.mx M'.ret).before a0 K.Z = true)
    (hy : M'.y.cls ≠ "java/lang/invoke/MethodHandle" ∧ M'.y.cls ≠ "java/lang/invoke/VarHandle") (hsz : Ls.length = M.mx) (hlen : ∀ sig, parseMethodDescriptor M'.y.desc = some sig → argsL.length = sig.parameters.length) (hst : St = argsL.reverse ++ .ref a :: rest)
    (hf : Nat.ble (M'.R.frames + 1) M.R.frames = true) (hl : Nat.ble ((rest.map fun v => v.category).sum + (M'.mx + 11) + M'.R.locals) M.R.locals = true) (hc : Nat.ble (cs + M'.R.cells) M.R.cells = true) (hs : Nat.ble (sl + M'.R.slots) M.R.slots = true)
    (hM : own_Met K M' (.ref a :: argsL).toArray sf' h Q') (hsf : ∀ x ∈ sf', x ∈ sf) (k : ∀ v h' xs, Q' v h' xs → own_WP K M Q pc' Ls (v.toList ++ rest) (xs ++ sf) h' (cs + M'.R.cells) (sl + M'.R.slots)) : own_WP K M Q pc Ls St sf h cs sl := by
  subst hst hp
  intro p e s vm0 k0 m args below meth c T locs cs' sl' B X hc' hs' eT N I
  have q1 := Nat.le_of_ble_eq_true hf
  have q2 := Nat.le_of_ble_eq_true hl
  have q3 := Nat.le_of_ble_eq_true hc
  have q4 := Nat.le_of_ble_eq_true hs
  have w4' : (Jvm.Cond.code M'.y M'.b M'.mx none).before a0 K.Z = true := by rw [← hrt]; exact w4
  obtain ⟨v, vm₁, B', -, X', hS, hg, P, st⟩ := X.specialBackS B.1 (y := M'.y) hn B.2.2.2.1 (mv B.2.2.2.2.2.2.2.1 w1) (mv B.2.2.2.2.2.2.2.1 w2) (bytes := M'.b) (maxL := M'.mx) (mv B.2.2.2.2.2.2.2.1 w4') hy
    (own_back (W := (rest.map fun v => v.category).sum) hM hsf B.2.2.2.2.2.2.2.1 B.2.2.2.2.2.2.2.2 I w4 w3 q1 q2) (g := mkF m pc Ls.toArray (argsL.reverse ++ .ref a :: rest)) rfl (by rw [B.2.2.1, ← hsz]; simp) (Steps.refl _) (a := a) (argsL := argsL) (rest := rest) hlen rfl (by show 2 * 0 + _ ≤ _; omega) (hb B.2.1 hd)
    (fun vm₁ _ => ⟨rfl, eT, by show cs' + _ ≤ _; omega, by show sl' + _ ≤ _; omega⟩)
  exact own_called k B hc' hs' eT N I X' hS hg P st
theorem own_virtual {index : Nat} {a : Addr} {C : String} {argsL : List Value} (hd : decode M.b pc = .ok (.invokevirtual index, 3)) (hp : pc + 3 = pc') (w1 : (Jvm.Cond.methodLink M.y.cls index M'.y).before a0 K.Z = true) (w2 : (Jvm.Cond.declares M'.y).before a0 K.Z = true) (w5 : (Jvm.Cond.selects C M'.y M'.y).before a0 K.Z = true) (w6 : (Jvm.Cond.instanceMethod M'.y).before a0 K.Z = true) (w3 : (Jvm.Cond.initialized M'.y.cls).before a0 K.Z = true) (w4 : (Jvm.Cond.code M'.y M'.b M'.mx M'.ret).before a0 K.Z = true)
    (hy : M'.y.cls ≠ "java/lang/invoke/MethodHandle" ∧ M'.y.cls ≠ "java/lang/invoke/VarHandle") (hsz : Ls.length = M.mx) (hlen : ∀ sig, parseMethodDescriptor M'.y.desc = some sig → argsL.length = sig.parameters.length) (hst : St = argsL.reverse ++ .ref a :: rest)
    (hf : Nat.ble (M'.R.frames + 1) M.R.frames = true) (hl : Nat.ble ((rest.map fun v => v.category).sum + (M'.mx + 11) + M'.R.locals) M.R.locals = true) (hc : Nat.ble (cs + M'.R.cells) M.R.cells = true) (hs : Nat.ble (sl + M'.R.slots) M.R.slots = true)
    (E : Exa K.Z h a C) (hM : own_Met K M' (.ref a :: argsL).toArray sf' h Q') (hsf : ∀ x ∈ sf', x ∈ sf) (k : ∀ v h' xs, Q' v h' xs → own_WP K M Q pc' Ls (v.toList ++ rest) (xs ++ sf) h' (cs + M'.R.cells) (sl + M'.R.slots)) : own_WP K M Q pc Ls St sf h cs sl := by
  subst hst hp
  intro p e s vm0 k0 m args below meth c T locs cs' sl' B X hc' hs' eT N I
  have q1 := Nat.le_of_ble_eq_true hf
  have q2 := Nat.le_of_ble_eq_true hl
  have q3 := Nat.le_of_ble_eq_true hc
  have q4 := Nat.le_of_ble_eq_true hs
  obtain ⟨cB, kB, r1, r2, r3⟩ := isOf (T := T) B.2.2.2.2.2.2.2.1 eT E
  obtain ⟨v, vm₁, B', -, X', hS, hg, P, st⟩ := X.virtualBackS B.1 (y := M'.y) (z := M'.y) B.2.2.2.1 (mv B.2.2.2.2.2.2.2.1 w1) (mv B.2.2.2.2.2.2.2.1 w2) (notFace_of_selects (args := #[]) (mv B.2.2.2.2.2.2.2.1 w5)) (mv B.2.2.2.2.2.2.2.1 w5) (mv B.2.2.2.2.2.2.2.1 w6) hy
    (own_back (W := (rest.map fun v => v.category).sum) hM hsf B.2.2.2.2.2.2.2.1 B.2.2.2.2.2.2.2.2 I w4 w3 q1 q2) r1 r3 (g := mkF m pc Ls.toArray (argsL.reverse ++ .ref a :: rest)) rfl (by rw [B.2.2.1, ← hsz]; simp) (Steps.refl _) (argsL := argsL) (rest := rest) hlen rfl (by show 2 * 0 + _ ≤ _; omega) (hb B.2.1 hd)
    (fun vm₁ _ => ⟨rfl, eT, by show cs' + _ ≤ _; omega, by show sl' + _ ≤ _; omega⟩)
  exact own_called k B hc' hs' eT N I X' hS hg P st
theorem own_static2v {index : Nat} {v0 v1 : Value} {q' : Value → Heap → List Addr → Prop} (hd : decode M.b pc = .ok (.invokestatic index, 3)) (hp : pc + 3 = pc') (w1 : (Jvm.Cond.methodLink M.y.cls index M'.y).before a0 K.Z = true) (w2 : (Jvm.Cond.static M'.y).before a0 K.Z = true) (w3 : (Jvm.Cond.initialized M'.y.cls).before a0 K.Z = true) (w4 : (Jvm.Cond.code M'.y M'.b M'.mx M'.ret).before a0 K.Z = true) (hy : M'.y.cls ≠ "java/lang/invoke/MethodHandle" ∧ M'.y.cls ≠ "java/lang/invoke/VarHandle") (hsz : Ls.length = M.mx) (hlen : ∀ sig, parseMethodDescriptor M'.y.desc = some sig → 2 = sig.parameters.length)
    (hf : Nat.ble (M'.R.frames + 1) M.R.frames = true) (hl : Nat.ble ((rest.map fun v => v.category).sum + (M'.mx + 11) + M'.R.locals) M.R.locals = true) (hc : Nat.ble (cs + M'.R.cells) M.R.cells = true) (hs : Nat.ble (sl + M'.R.slots) M.R.slots = true) (hM : own_Met K M' #[v0, v1] sf' h (own_ret q')) (hsf : ∀ x ∈ sf', x ∈ sf) (k : ∀ w h' xs, q' w h' xs → own_WP K M Q pc' Ls (w :: rest) (xs ++ sf) h' (cs + M'.R.cells) (sl + M'.R.slots)) :
    own_WP K M Q pc Ls (v1 :: v0 :: rest) sf h cs sl := own_static (argsL := [v0, v1]) hd hp w1 w2 w3 w4 hy hsz hlen rfl hf hl hc hs hM hsf (fun v h' xs ⟨w, e, q⟩ => by subst e; exact k w h' xs q)
theorem own_static2n {index : Nat} {v0 v1 : Value} {q' : Heap → List Addr → Prop} (hd : decode M.b pc = .ok (.invokestatic index, 3)) (hp : pc + 3 = pc') (w1 : (Jvm.Cond.methodLink M.y.cls index M'.y).before a0 K.Z = true) (w2 : (Jvm.Cond.static M'.y).before a0 K.Z = true) (w3 : (Jvm.Cond.initialized M'.y.cls).before a0 K.Z = true) (w4 : (Jvm.Cond.code M'.y M'.b M'.mx M'.ret).before a0 K.Z = true) (hy : M'.y.cls ≠ "java/lang/invoke/MethodHandle" ∧ M'.y.cls ≠ "java/lang/invoke/VarHandle") (hsz : Ls.length = M.mx) (hlen : ∀ sig, parseMethodDescriptor M'.y.desc = some sig → 2 = sig.parameters.length)
    (hf : Nat.ble (M'.R.frames + 1) M.R.frames = true) (hl : Nat.ble ((rest.map fun v => v.category).sum + (M'.mx + 11) + M'.R.locals) M.R.locals = true) (hc : Nat.ble (cs + M'.R.cells) M.R.cells = true) (hs : Nat.ble (sl + M'.R.slots) M.R.slots = true) (hM : own_Met K M' #[v0, v1] sf' h (own_void q')) (hsf : ∀ x ∈ sf', x ∈ sf) (k : ∀ h' xs, q' h' xs → own_WP K M Q pc' Ls rest (xs ++ sf) h' (cs + M'.R.cells) (sl + M'.R.slots)) :
    own_WP K M Q pc Ls (v1 :: v0 :: rest) sf h cs sl := own_static (argsL := [v0, v1]) hd hp w1 w2 w3 w4 hy hsz hlen rfl hf hl hc hs hM hsf (fun v h' xs ⟨e, q⟩ => by subst e; exact k h' xs q)
theorem own_static3v {index : Nat} {v0 v1 v2 : Value} {q' : Value → Heap → List Addr → Prop} (hd : decode M.b pc = .ok (.invokestatic index, 3)) (hp : pc + 3 = pc') (w1 : (Jvm.Cond.methodLink M.y.cls index M'.y).before a0 K.Z = true) (w2 : (Jvm.Cond.static M'.y).before a0 K.Z = true) (w3 : (Jvm.Cond.initialized M'.y.cls).before a0 K.Z = true) (w4 : (Jvm.Cond.code M'.y M'.b M'.mx M'.ret).before a0 K.Z = true) (hy : M'.y.cls ≠ "java/lang/invoke/MethodHandle" ∧ M'.y.cls ≠ "java/lang/invoke/VarHandle") (hsz : Ls.length = M.mx) (hlen : ∀ sig, parseMethodDescriptor M'.y.desc = some sig → 3 = sig.parameters.length)
    (hf : Nat.ble (M'.R.frames + 1) M.R.frames = true) (hl : Nat.ble ((rest.map fun v => v.category).sum + (M'.mx + 11) + M'.R.locals) M.R.locals = true) (hc : Nat.ble (cs + M'.R.cells) M.R.cells = true) (hs : Nat.ble (sl + M'.R.slots) M.R.slots = true) (hM : own_Met K M' #[v0, v1, v2] sf' h (own_ret q')) (hsf : ∀ x ∈ sf', x ∈ sf) (k : ∀ w h' xs, q' w h' xs → own_WP K M Q pc' Ls (w :: rest) (xs ++ sf) h' (cs + M'.R.cells) (sl + M'.R.slots)) :
    own_WP K M Q pc Ls (v2 :: v1 :: v0 :: rest) sf h cs sl := own_static (argsL := [v0, v1, v2]) hd hp w1 w2 w3 w4 hy hsz hlen rfl hf hl hc hs hM hsf (fun v h' xs ⟨w, e, q⟩ => by subst e; exact k w h' xs q)
theorem own_static4v {index : Nat} {v0 v1 v2 v3 : Value} {q' : Value → Heap → List Addr → Prop} (hd : decode M.b pc = .ok (.invokestatic index, 3)) (hp : pc + 3 = pc') (w1 : (Jvm.Cond.methodLink M.y.cls index M'.y).before a0 K.Z = true) (w2 : (Jvm.Cond.static M'.y).before a0 K.Z = true) (w3 : (Jvm.Cond.initialized M'.y.cls).before a0 K.Z = true) (w4 : (Jvm.Cond.code M'.y M'.b M'.mx M'.ret).before a0 K.Z = true) (hy : M'.y.cls ≠ "java/lang/invoke/MethodHandle" ∧ M'.y.cls ≠ "java/lang/invoke/VarHandle") (hsz : Ls.length = M.mx) (hlen : ∀ sig, parseMethodDescriptor M'.y.desc = some sig → 4 = sig.parameters.length)
    (hf : Nat.ble (M'.R.frames + 1) M.R.frames = true) (hl : Nat.ble ((rest.map fun v => v.category).sum + (M'.mx + 11) + M'.R.locals) M.R.locals = true) (hc : Nat.ble (cs + M'.R.cells) M.R.cells = true) (hs : Nat.ble (sl + M'.R.slots) M.R.slots = true) (hM : own_Met K M' #[v0, v1, v2, v3] sf' h (own_ret q')) (hsf : ∀ x ∈ sf', x ∈ sf) (k : ∀ w h' xs, q' w h' xs → own_WP K M Q pc' Ls (w :: rest) (xs ++ sf) h' (cs + M'.R.cells) (sl + M'.R.slots)) :
    own_WP K M Q pc Ls (v3 :: v2 :: v1 :: v0 :: rest) sf h cs sl := own_static (argsL := [v0, v1, v2, v3]) hd hp w1 w2 w3 w4 hy hsz hlen rfl hf hl hc hs hM hsf (fun v h' xs ⟨w, e, q⟩ => by subst e; exact k w h' xs q)
theorem own_static5v {index : Nat} {v0 v1 v2 v3 v4 : Value} {q' : Value → Heap → List Addr → Prop} (hd : decode M.b pc = .ok (.invokestatic index, 3)) (hp : pc + 3 = pc') (w1 : (Jvm.Cond.methodLink M.y.cls index M'.y).before a0 K.Z = true) (w2 : (Jvm.Cond.static M'.y).before a0 K.Z = true) (w3 : (Jvm.Cond.initialized M'.y.cls).before a0 K.Z = true) (w4 : (Jvm.Cond.code M'.y M'.b M'.mx M'.ret).before a0 K.Z = true) (hy : M'.y.cls ≠ "java/lang/invoke/MethodHandle" ∧ M'.y.cls ≠ "java/lang/invoke/VarHandle") (hsz : Ls.length = M.mx) (hlen : ∀ sig, parseMethodDescriptor M'.y.desc = some sig → 5 = sig.parameters.length)
    (hf : Nat.ble (M'.R.frames + 1) M.R.frames = true) (hl : Nat.ble ((rest.map fun v => v.category).sum + (M'.mx + 11) + M'.R.locals) M.R.locals = true) (hc : Nat.ble (cs + M'.R.cells) M.R.cells = true) (hs : Nat.ble (sl + M'.R.slots) M.R.slots = true) (hM : own_Met K M' #[v0, v1, v2, v3, v4] sf' h (own_ret q')) (hsf : ∀ x ∈ sf', x ∈ sf) (k : ∀ w h' xs, q' w h' xs → own_WP K M Q pc' Ls (w :: rest) (xs ++ sf) h' (cs + M'.R.cells) (sl + M'.R.slots)) :
    own_WP K M Q pc Ls (v4 :: v3 :: v2 :: v1 :: v0 :: rest) sf h cs sl := own_static (argsL := [v0, v1, v2, v3, v4]) hd hp w1 w2 w3 w4 hy hsz hlen rfl hf hl hc hs hM hsf (fun v h' xs ⟨w, e, q⟩ => by subst e; exact k w h' xs q)
theorem own_special0n {index : Nat} {a : Addr} {q' : Heap → List Addr → Prop} (hd : decode M.b pc = .ok (.invokespecial index, 3)) (hp : pc + 3 = pc') (hn : M'.y.name = "<init>") (hrt : M'.ret = none) (w1 : (Jvm.Cond.methodLink M.y.cls index M'.y).before a0 K.Z = true) (w2 : (Jvm.Cond.instanceMethod M'.y).before a0 K.Z = true) (w3 : (Jvm.Cond.initialized M'.y.cls).before a0 K.Z = true) (w4 : (Jvm.Cond.code M'.y M'.b M'.mx M'.ret).before a0 K.Z = true) (hy : M'.y.cls ≠ "java/lang/invoke/MethodHandle" ∧ M'.y.cls ≠ "java/lang/invoke/VarHandle") (hsz : Ls.length = M.mx) (hlen : ∀ sig, parseMethodDescriptor M'.y.desc = some sig → 0 = sig.parameters.length)
    (hf : Nat.ble (M'.R.frames + 1) M.R.frames = true) (hl : Nat.ble ((rest.map fun v => v.category).sum + (M'.mx + 11) + M'.R.locals) M.R.locals = true) (hc : Nat.ble (cs + M'.R.cells) M.R.cells = true) (hs : Nat.ble (sl + M'.R.slots) M.R.slots = true) (hM : own_Met K M' #[.ref a] sf' h (own_void q')) (hsf : ∀ x ∈ sf', x ∈ sf) (k : ∀ h' xs, q' h' xs → own_WP K M Q pc' Ls rest (xs ++ sf) h' (cs + M'.R.cells) (sl + M'.R.slots)) :
    own_WP K M Q pc Ls (.ref a :: rest) sf h cs sl := own_special (argsL := []) hd hp hn hrt w1 w2 w3 w4 hy hsz hlen rfl hf hl hc hs hM hsf (fun v h' xs ⟨e, q⟩ => by subst e; exact k h' xs q)
theorem own_special1n {index : Nat} {a : Addr} {v0 : Value} {q' : Heap → List Addr → Prop} (hd : decode M.b pc = .ok (.invokespecial index, 3)) (hp : pc + 3 = pc') (hn : M'.y.name = "<init>") (hrt : M'.ret = none) (w1 : (Jvm.Cond.methodLink M.y.cls index M'.y).before a0 K.Z = true) (w2 : (Jvm.Cond.instanceMethod M'.y).before a0 K.Z = true) (w3 : (Jvm.Cond.initialized M'.y.cls).before a0 K.Z = true) (w4 : (Jvm.Cond.code M'.y M'.b M'.mx M'.ret).before a0 K.Z = true) (hy : M'.y.cls ≠ "java/lang/invoke/MethodHandle" ∧ M'.y.cls ≠ "java/lang/invoke/VarHandle") (hsz : Ls.length = M.mx) (hlen : ∀ sig, parseMethodDescriptor M'.y.desc = some sig → 1 = sig.parameters.length)
    (hf : Nat.ble (M'.R.frames + 1) M.R.frames = true) (hl : Nat.ble ((rest.map fun v => v.category).sum + (M'.mx + 11) + M'.R.locals) M.R.locals = true) (hc : Nat.ble (cs + M'.R.cells) M.R.cells = true) (hs : Nat.ble (sl + M'.R.slots) M.R.slots = true) (hM : own_Met K M' #[.ref a, v0] sf' h (own_void q')) (hsf : ∀ x ∈ sf', x ∈ sf) (k : ∀ h' xs, q' h' xs → own_WP K M Q pc' Ls rest (xs ++ sf) h' (cs + M'.R.cells) (sl + M'.R.slots)) :
    own_WP K M Q pc Ls (v0 :: .ref a :: rest) sf h cs sl := own_special (argsL := [v0]) hd hp hn hrt w1 w2 w3 w4 hy hsz hlen rfl hf hl hc hs hM hsf (fun v h' xs ⟨e, q⟩ => by subst e; exact k h' xs q)
theorem own_special2n {index : Nat} {a : Addr} {v0 v1 : Value} {q' : Heap → List Addr → Prop} (hd : decode M.b pc = .ok (.invokespecial index, 3)) (hp : pc + 3 = pc') (hn : M'.y.name = "<init>") (hrt : M'.ret = none) (w1 : (Jvm.Cond.methodLink M.y.cls index M'.y).before a0 K.Z = true) (w2 : (Jvm.Cond.instanceMethod M'.y).before a0 K.Z = true) (w3 : (Jvm.Cond.initialized M'.y.cls).before a0 K.Z = true) (w4 : (Jvm.Cond.code M'.y M'.b M'.mx M'.ret).before a0 K.Z = true) (hy : M'.y.cls ≠ "java/lang/invoke/MethodHandle" ∧ M'.y.cls ≠ "java/lang/invoke/VarHandle") (hsz : Ls.length = M.mx) (hlen : ∀ sig, parseMethodDescriptor M'.y.desc = some sig → 2 = sig.parameters.length)
    (hf : Nat.ble (M'.R.frames + 1) M.R.frames = true) (hl : Nat.ble ((rest.map fun v => v.category).sum + (M'.mx + 11) + M'.R.locals) M.R.locals = true) (hc : Nat.ble (cs + M'.R.cells) M.R.cells = true) (hs : Nat.ble (sl + M'.R.slots) M.R.slots = true) (hM : own_Met K M' #[.ref a, v0, v1] sf' h (own_void q')) (hsf : ∀ x ∈ sf', x ∈ sf) (k : ∀ h' xs, q' h' xs → own_WP K M Q pc' Ls rest (xs ++ sf) h' (cs + M'.R.cells) (sl + M'.R.slots)) :
    own_WP K M Q pc Ls (v1 :: v0 :: .ref a :: rest) sf h cs sl := own_special (argsL := [v0, v1]) hd hp hn hrt w1 w2 w3 w4 hy hsz hlen rfl hf hl hc hs hM hsf (fun v h' xs ⟨e, q⟩ => by subst e; exact k h' xs q)
theorem own_special4n {index : Nat} {a : Addr} {v0 v1 v2 v3 : Value} {q' : Heap → List Addr → Prop} (hd : decode M.b pc = .ok (.invokespecial index, 3)) (hp : pc + 3 = pc') (hn : M'.y.name = "<init>") (hrt : M'.ret = none) (w1 : (Jvm.Cond.methodLink M.y.cls index M'.y).before a0 K.Z = true) (w2 : (Jvm.Cond.instanceMethod M'.y).before a0 K.Z = true) (w3 : (Jvm.Cond.initialized M'.y.cls).before a0 K.Z = true) (w4 : (Jvm.Cond.code M'.y M'.b M'.mx M'.ret).before a0 K.Z = true) (hy : M'.y.cls ≠ "java/lang/invoke/MethodHandle" ∧ M'.y.cls ≠ "java/lang/invoke/VarHandle") (hsz : Ls.length = M.mx) (hlen : ∀ sig, parseMethodDescriptor M'.y.desc = some sig → 4 = sig.parameters.length)
    (hf : Nat.ble (M'.R.frames + 1) M.R.frames = true) (hl : Nat.ble ((rest.map fun v => v.category).sum + (M'.mx + 11) + M'.R.locals) M.R.locals = true) (hc : Nat.ble (cs + M'.R.cells) M.R.cells = true) (hs : Nat.ble (sl + M'.R.slots) M.R.slots = true) (hM : own_Met K M' #[.ref a, v0, v1, v2, v3] sf' h (own_void q')) (hsf : ∀ x ∈ sf', x ∈ sf) (k : ∀ h' xs, q' h' xs → own_WP K M Q pc' Ls rest (xs ++ sf) h' (cs + M'.R.cells) (sl + M'.R.slots)) :
    own_WP K M Q pc Ls (v3 :: v2 :: v1 :: v0 :: .ref a :: rest) sf h cs sl := own_special (argsL := [v0, v1, v2, v3]) hd hp hn hrt w1 w2 w3 w4 hy hsz hlen rfl hf hl hc hs hM hsf (fun v h' xs ⟨e, q⟩ => by subst e; exact k h' xs q)
theorem own_virtual0v {index : Nat} {a : Addr} {C : String} {q' : Value → Heap → List Addr → Prop} (hd : decode M.b pc = .ok (.invokevirtual index, 3)) (hp : pc + 3 = pc') (w1 : (Jvm.Cond.methodLink M.y.cls index M'.y).before a0 K.Z = true) (w2 : (Jvm.Cond.declares M'.y).before a0 K.Z = true) (w5 : (Jvm.Cond.selects C M'.y M'.y).before a0 K.Z = true) (w6 : (Jvm.Cond.instanceMethod M'.y).before a0 K.Z = true) (w3 : (Jvm.Cond.initialized M'.y.cls).before a0 K.Z = true) (w4 : (Jvm.Cond.code M'.y M'.b M'.mx M'.ret).before a0 K.Z = true) (hy : M'.y.cls ≠ "java/lang/invoke/MethodHandle" ∧ M'.y.cls ≠ "java/lang/invoke/VarHandle") (hsz : Ls.length = M.mx) (hlen : ∀ sig, parseMethodDescriptor M'.y.desc = some sig → 0 = sig.parameters.length)
    (hf : Nat.ble (M'.R.frames + 1) M.R.frames = true) (hl : Nat.ble ((rest.map fun v => v.category).sum + (M'.mx + 11) + M'.R.locals) M.R.locals = true) (hc : Nat.ble (cs + M'.R.cells) M.R.cells = true) (hs : Nat.ble (sl + M'.R.slots) M.R.slots = true) (E : Exa K.Z h a C) (hM : own_Met K M' #[.ref a] sf' h (own_ret q')) (hsf : ∀ x ∈ sf', x ∈ sf) (k : ∀ w h' xs, q' w h' xs → own_WP K M Q pc' Ls (w :: rest) (xs ++ sf) h' (cs + M'.R.cells) (sl + M'.R.slots)) :
    own_WP K M Q pc Ls (.ref a :: rest) sf h cs sl := own_virtual (argsL := []) hd hp w1 w2 w5 w6 w3 w4 hy hsz hlen rfl hf hl hc hs E hM hsf (fun v h' xs ⟨w, e, q⟩ => by subst e; exact k w h' xs q)
theorem own_virtual1v {index : Nat} {a : Addr} {C : String} {v0 : Value} {q' : Value → Heap → List Addr → Prop} (hd : decode M.b pc = .ok (.invokevirtual index, 3)) (hp : pc + 3 = pc') (w1 : (Jvm.Cond.methodLink M.y.cls index M'.y).before a0 K.Z = true) (w2 : (Jvm.Cond.declares M'.y).before a0 K.Z = true) (w5 : (Jvm.Cond.selects C M'.y M'.y).before a0 K.Z = true) (w6 : (Jvm.Cond.instanceMethod M'.y).before a0 K.Z = true) (w3 : (Jvm.Cond.initialized M'.y.cls).before a0 K.Z = true) (w4 : (Jvm.Cond.code M'.y M'.b M'.mx M'.ret).before a0 K.Z = true) (hy : M'.y.cls ≠ "java/lang/invoke/MethodHandle" ∧ M'.y.cls ≠ "java/lang/invoke/VarHandle") (hsz : Ls.length = M.mx) (hlen : ∀ sig, parseMethodDescriptor M'.y.desc = some sig → 1 = sig.parameters.length)
    (hf : Nat.ble (M'.R.frames + 1) M.R.frames = true) (hl : Nat.ble ((rest.map fun v => v.category).sum + (M'.mx + 11) + M'.R.locals) M.R.locals = true) (hc : Nat.ble (cs + M'.R.cells) M.R.cells = true) (hs : Nat.ble (sl + M'.R.slots) M.R.slots = true) (E : Exa K.Z h a C) (hM : own_Met K M' #[.ref a, v0] sf' h (own_ret q')) (hsf : ∀ x ∈ sf', x ∈ sf) (k : ∀ w h' xs, q' w h' xs → own_WP K M Q pc' Ls (w :: rest) (xs ++ sf) h' (cs + M'.R.cells) (sl + M'.R.slots)) :
    own_WP K M Q pc Ls (v0 :: .ref a :: rest) sf h cs sl := own_virtual (argsL := [v0]) hd hp w1 w2 w5 w6 w3 w4 hy hsz hlen rfl hf hl hc hs E hM hsf (fun v h' xs ⟨w, e, q⟩ => by subst e; exact k w h' xs q)
theorem own_virtual1n {index : Nat} {a : Addr} {C : String} {v0 : Value} {q' : Heap → List Addr → Prop} (hd : decode M.b pc = .ok (.invokevirtual index, 3)) (hp : pc + 3 = pc') (w1 : (Jvm.Cond.methodLink M.y.cls index M'.y).before a0 K.Z = true) (w2 : (Jvm.Cond.declares M'.y).before a0 K.Z = true) (w5 : (Jvm.Cond.selects C M'.y M'.y).before a0 K.Z = true) (w6 : (Jvm.Cond.instanceMethod M'.y).before a0 K.Z = true) (w3 : (Jvm.Cond.initialized M'.y.cls).before a0 K.Z = true) (w4 : (Jvm.Cond.code M'.y M'.b M'.mx M'.ret).before a0 K.Z = true) (hy : M'.y.cls ≠ "java/lang/invoke/MethodHandle" ∧ M'.y.cls ≠ "java/lang/invoke/VarHandle") (hsz : Ls.length = M.mx) (hlen : ∀ sig, parseMethodDescriptor M'.y.desc = some sig → 1 = sig.parameters.length)
    (hf : Nat.ble (M'.R.frames + 1) M.R.frames = true) (hl : Nat.ble ((rest.map fun v => v.category).sum + (M'.mx + 11) + M'.R.locals) M.R.locals = true) (hc : Nat.ble (cs + M'.R.cells) M.R.cells = true) (hs : Nat.ble (sl + M'.R.slots) M.R.slots = true) (E : Exa K.Z h a C) (hM : own_Met K M' #[.ref a, v0] sf' h (own_void q')) (hsf : ∀ x ∈ sf', x ∈ sf) (k : ∀ h' xs, q' h' xs → own_WP K M Q pc' Ls rest (xs ++ sf) h' (cs + M'.R.cells) (sl + M'.R.slots)) :
    own_WP K M Q pc Ls (v0 :: .ref a :: rest) sf h cs sl := own_virtual (argsL := [v0]) hd hp w1 w2 w5 w6 w3 w4 hy hsz hlen rfl hf hl hc hs E hM hsf (fun v h' xs ⟨e, q⟩ => by subst e; exact k h' xs q)
theorem own_virtual2n {index : Nat} {a : Addr} {C : String} {v0 v1 : Value} {q' : Heap → List Addr → Prop} (hd : decode M.b pc = .ok (.invokevirtual index, 3)) (hp : pc + 3 = pc') (w1 : (Jvm.Cond.methodLink M.y.cls index M'.y).before a0 K.Z = true) (w2 : (Jvm.Cond.declares M'.y).before a0 K.Z = true) (w5 : (Jvm.Cond.selects C M'.y M'.y).before a0 K.Z = true) (w6 : (Jvm.Cond.instanceMethod M'.y).before a0 K.Z = true) (w3 : (Jvm.Cond.initialized M'.y.cls).before a0 K.Z = true) (w4 : (Jvm.Cond.code M'.y M'.b M'.mx M'.ret).before a0 K.Z = true) (hy : M'.y.cls ≠ "java/lang/invoke/MethodHandle" ∧ M'.y.cls ≠ "java/lang/invoke/VarHandle") (hsz : Ls.length = M.mx) (hlen : ∀ sig, parseMethodDescriptor M'.y.desc = some sig → 2 = sig.parameters.length)
    (hf : Nat.ble (M'.R.frames + 1) M.R.frames = true) (hl : Nat.ble ((rest.map fun v => v.category).sum + (M'.mx + 11) + M'.R.locals) M.R.locals = true) (hc : Nat.ble (cs + M'.R.cells) M.R.cells = true) (hs : Nat.ble (sl + M'.R.slots) M.R.slots = true) (E : Exa K.Z h a C) (hM : own_Met K M' #[.ref a, v0, v1] sf' h (own_void q')) (hsf : ∀ x ∈ sf', x ∈ sf) (k : ∀ h' xs, q' h' xs → own_WP K M Q pc' Ls rest (xs ++ sf) h' (cs + M'.R.cells) (sl + M'.R.slots)) :
    own_WP K M Q pc Ls (v1 :: v0 :: .ref a :: rest) sf h cs sl := own_virtual (argsL := [v0, v1]) hd hp w1 w2 w5 w6 w3 w4 hy hsz hlen rfl hf hl hc hs E hM hsf (fun v h' xs ⟨e, q⟩ => by subst e; exact k h' xs q)
theorem own_virtual3n {index : Nat} {a : Addr} {C : String} {v0 v1 v2 : Value} {q' : Heap → List Addr → Prop} (hd : decode M.b pc = .ok (.invokevirtual index, 3)) (hp : pc + 3 = pc') (w1 : (Jvm.Cond.methodLink M.y.cls index M'.y).before a0 K.Z = true) (w2 : (Jvm.Cond.declares M'.y).before a0 K.Z = true) (w5 : (Jvm.Cond.selects C M'.y M'.y).before a0 K.Z = true) (w6 : (Jvm.Cond.instanceMethod M'.y).before a0 K.Z = true) (w3 : (Jvm.Cond.initialized M'.y.cls).before a0 K.Z = true) (w4 : (Jvm.Cond.code M'.y M'.b M'.mx M'.ret).before a0 K.Z = true) (hy : M'.y.cls ≠ "java/lang/invoke/MethodHandle" ∧ M'.y.cls ≠ "java/lang/invoke/VarHandle") (hsz : Ls.length = M.mx) (hlen : ∀ sig, parseMethodDescriptor M'.y.desc = some sig → 3 = sig.parameters.length)
    (hf : Nat.ble (M'.R.frames + 1) M.R.frames = true) (hl : Nat.ble ((rest.map fun v => v.category).sum + (M'.mx + 11) + M'.R.locals) M.R.locals = true) (hc : Nat.ble (cs + M'.R.cells) M.R.cells = true) (hs : Nat.ble (sl + M'.R.slots) M.R.slots = true) (E : Exa K.Z h a C) (hM : own_Met K M' #[.ref a, v0, v1, v2] sf' h (own_void q')) (hsf : ∀ x ∈ sf', x ∈ sf) (k : ∀ h' xs, q' h' xs → own_WP K M Q pc' Ls rest (xs ++ sf) h' (cs + M'.R.cells) (sl + M'.R.slots)) :
    own_WP K M Q pc Ls (v2 :: v1 :: v0 :: .ref a :: rest) sf h cs sl := own_virtual (argsL := [v0, v1, v2]) hd hp w1 w2 w5 w6 w3 w4 hy hsz hlen rfl hf hl hc hs E hM hsf (fun v h' xs ⟨e, q⟩ => by subst e; exact k h' xs q)
end Calls
section Plain
variable {K : own_Cx} {M : own_Mi} {Q : own_Q} {pc pc' : Nat} {Ls : List Slot} {St : List Value} {sf : List Addr} {h : Heap} {cs sl : Nat} {a0 : Array Value}
theorem own_get {α : Type} {L : List α} {k : Nat} {v : α} (q : L[k]? = some v) : L.toArray[k]? = some v := by simpa using q
theorem own_aload_n {i : Fin 4} {v : Value} (hp : pc + 1 = pc') (hd : decode M.b pc = .ok (.aload_n i, 1)) (hl : Ls[i.val]? = some (.val v)) (hv : v.isRef = true) (k : own_WP K M Q pc' Ls (v :: St) sf h cs sl) : own_WP K M Q pc Ls St sf h cs sl :=
  own_step k fun p e s m args below meth c T locs cs' sl' B X eT t q => XS.aloadN X.here B.1 rfl (hb B.2.1 hd) (own_get hl) hv (by subst hp; exact q)
theorem own_aload {i : Nat} {v : Value} (hp : pc + 2 = pc') (hd : decode M.b pc = .ok (.aload i, 2)) (hl : Ls[i]? = some (.val v)) (hv : v.isRef = true) (k : own_WP K M Q pc' Ls (v :: St) sf h cs sl) : own_WP K M Q pc Ls St sf h cs sl :=
  own_step k fun p e s m args below meth c T locs cs' sl' B X eT t q => XS.aload X.here B.1 rfl (hb B.2.1 hd) (own_get hl) hv (by subst hp; exact q)
theorem own_iload_n {i : Fin 4} {v : Int32} (hp : pc + 1 = pc') (hd : decode M.b pc = .ok (.iload_n i, 1)) (hl : Ls[i.val]? = some (.val (.int v))) (k : own_WP K M Q pc' Ls (.int v :: St) sf h cs sl) : own_WP K M Q pc Ls St sf h cs sl :=
  own_step k fun p e s m args below meth c T locs cs' sl' B X eT t q => XS.iloadN X.here B.1 rfl (hb B.2.1 hd) (own_get hl) (by subst hp; exact q)
theorem own_iload {i : Nat} {v : Int32} (hp : pc + 2 = pc') (hd : decode M.b pc = .ok (.iload i, 2)) (hl : Ls[i]? = some (.val (.int v))) (k : own_WP K M Q pc' Ls (.int v :: St) sf h cs sl) : own_WP K M Q pc Ls St sf h cs sl :=
  own_step k fun p e s m args below meth c T locs cs' sl' B X eT t q => XS.iload X.here B.1 rfl (hb B.2.1 hd) (own_get hl) (by subst hp; exact q)
theorem own_iconst {i : Int} {v : Int32} (hp : pc + 1 = pc') (hd : decode M.b pc = .ok (.iconst i, 1)) (hv : Int32.ofInt i = v) (k : own_WP K M Q pc' Ls (.int v :: St) sf h cs sl) : own_WP K M Q pc Ls St sf h cs sl :=
  own_step k fun p e s m args below meth c T locs cs' sl' B X eT t q => XS.iconst X.here B.1 rfl (hb B.2.1 hd) (by subst hp hv; exact q)
theorem own_bipush {i : Int} {v : Int32} (hp : pc + 2 = pc') (hd : decode M.b pc = .ok (.bipush i, 2)) (hv : (Int8.ofInt i).toInt32 = v) (k : own_WP K M Q pc' Ls (.int v :: St) sf h cs sl) : own_WP K M Q pc Ls St sf h cs sl :=
  own_step k fun p e s m args below meth c T locs cs' sl' B X eT t q => XS.bipush X.here B.1 rfl (hb B.2.1 hd) (by subst hp hv; exact q)
theorem own_sipush {i : Int} {v : Int32} (hp : pc + 3 = pc') (hd : decode M.b pc = .ok (.sipush i, 3)) (hv : (Int16.ofInt i).toInt32 = v) (k : own_WP K M Q pc' Ls (.int v :: St) sf h cs sl) : own_WP K M Q pc Ls St sf h cs sl :=
  own_step k fun p e s m args below meth c T locs cs' sl' B X eT t q => XS.sipush X.here B.1 rfl (hb B.2.1 hd) (by subst hp hv; exact q)
theorem own_aconst_null (hp : pc + 1 = pc') (hd : decode M.b pc = .ok (.aconst_null, 1)) (k : own_WP K M Q pc' Ls (.null :: St) sf h cs sl) : own_WP K M Q pc Ls St sf h cs sl :=
  own_step k fun p e s m args below meth c T locs cs' sl' B X eT t q => XS.aconstNull X.here B.1 rfl (hb B.2.1 hd) (by subst hp; exact q)
theorem own_iadd {x y : Int32} (hp : pc + 1 = pc') (hd : decode M.b pc = .ok (.iadd, 1)) (k : own_WP K M Q pc' Ls (.int (x + y) :: St) sf h cs sl) : own_WP K M Q pc Ls (.int y :: .int x :: St) sf h cs sl :=
  own_step k fun p e s m args below meth c T locs cs' sl' B X eT t q => XS.iadd X.here B.1 rfl (hb B.2.1 hd) rfl (by subst hp; exact q)
theorem own_isub {x y : Int32} (hp : pc + 1 = pc') (hd : decode M.b pc = .ok (.isub, 1)) (k : own_WP K M Q pc' Ls (.int (x - y) :: St) sf h cs sl) : own_WP K M Q pc Ls (.int y :: .int x :: St) sf h cs sl :=
  own_step k fun p e s m args below meth c T locs cs' sl' B X eT t q => XS.isub X.here B.1 rfl (hb B.2.1 hd) rfl (by subst hp; exact q)
theorem own_iand {x y : Int32} (hp : pc + 1 = pc') (hd : decode M.b pc = .ok (.iand, 1)) (k : own_WP K M Q pc' Ls (.int (x &&& y) :: St) sf h cs sl) : own_WP K M Q pc Ls (.int y :: .int x :: St) sf h cs sl :=
  own_step k fun p e s m args below meth c T locs cs' sl' B X eT t q => XS.iand X.here B.1 rfl (hb B.2.1 hd) rfl (by subst hp; exact q)
theorem own_ishl {x y : Int32} (hp : pc + 1 = pc') (hd : decode M.b pc = .ok (.ishl, 1)) (k : own_WP K M Q pc' Ls (.int (x <<< (y &&& 31)) :: St) sf h cs sl) : own_WP K M Q pc Ls (.int y :: .int x :: St) sf h cs sl :=
  own_step k fun p e s m args below meth c T locs cs' sl' B X eT t q => XS.ishl X.here B.1 rfl (hb B.2.1 hd) rfl (by subst hp; exact q)
theorem own_ishr {x y : Int32} (hp : pc + 1 = pc') (hd : decode M.b pc = .ok (.ishr, 1)) (k : own_WP K M Q pc' Ls (.int (x >>> (y &&& 31)) :: St) sf h cs sl) : own_WP K M Q pc Ls (.int y :: .int x :: St) sf h cs sl :=
  own_step k fun p e s m args below meth c T locs cs' sl' B X eT t q => XS.ishr X.here B.1 rfl (hb B.2.1 hd) rfl (by subst hp; exact q)
theorem own_iushr {x y : Int32} (hp : pc + 1 = pc') (hd : decode M.b pc = .ok (.iushr, 1)) (k : own_WP K M Q pc' Ls (.int (XT.ushr x y) :: St) sf h cs sl) : own_WP K M Q pc Ls (.int y :: .int x :: St) sf h cs sl :=
  own_step k fun p e s m args below meth c T locs cs' sl' B X eT t q => XT.iushr X.here B.1 rfl (hb B.2.1 hd) rfl (by subst hp; exact q)
theorem own_irem {x y : Int32} (hp : pc + 1 = pc') (hd : decode M.b pc = .ok (.irem, 1)) (hy : y ≠ 0) (k : own_WP K M Q pc' Ls (.int (x % y) :: St) sf h cs sl) : own_WP K M Q pc Ls (.int y :: .int x :: St) sf h cs sl :=
  own_step k fun p e s m args below meth c T locs cs' sl' B X eT t q => XS.irem X.here B.1 rfl (hb B.2.1 hd) rfl hy (by subst hp; rw [irem_eq_mod]; exact q)
theorem own_i2b {x : Int32} (hp : pc + 1 = pc') (hd : decode M.b pc = .ok (.i2b, 1)) (k : own_WP K M Q pc' Ls (.int (x.toInt8.toInt32) :: St) sf h cs sl) : own_WP K M Q pc Ls (.int x :: St) sf h cs sl :=
  own_step k fun p e s m args below meth c T locs cs' sl' B X eT t q => XS.i2b X.here B.1 rfl (hb B.2.1 hd) rfl (by subst hp; exact q)
theorem own_i2c {x : Int32} (hp : pc + 1 = pc') (hd : decode M.b pc = .ok (.i2c, 1)) (k : own_WP K M Q pc' Ls (.int (x.toUInt32.toUInt16.toUInt32.toInt32) :: St) sf h cs sl) : own_WP K M Q pc Ls (.int x :: St) sf h cs sl :=
  own_step k fun p e s m args below meth c T locs cs' sl' B X eT t q => XS.i2c X.here B.1 rfl (hb B.2.1 hd) rfl (by subst hp; exact q)
theorem own_dup {x : Value} (hp : pc + 1 = pc') (hd : decode M.b pc = .ok (.dup, 1)) (hc : x.category = 1) (k : own_WP K M Q pc' Ls (x :: x :: St) sf h cs sl) : own_WP K M Q pc Ls (x :: St) sf h cs sl :=
  own_step k fun p e s m args below meth c T locs cs' sl' B X eT t q => XS.dup X.here B.1 rfl (hb B.2.1 hd) rfl hc (by subst hp; exact q)
theorem own_pop {x : Value} (hp : pc + 1 = pc') (hd : decode M.b pc = .ok (.pop, 1)) (hc : x.category = 1) (k : own_WP K M Q pc' Ls St sf h cs sl) : own_WP K M Q pc Ls (x :: St) sf h cs sl :=
  own_step k fun p e s m args below meth c T locs cs' sl' B X eT t q => XS.pop X.here B.1 rfl (hb B.2.1 hd) rfl hc (by subst hp; exact q)
theorem own_store {Ls : List Slot} {i : Nat} {v : Value} {o : Slot} (ho : One o) (hv : v.category = 1) (hold : Ls[i]? = some o) : storeLocals Ls.toArray i v = some (Ls.set i (.val v)).toArray := by
  rw [XS.store1 (own_get hold) ho hv]; simp
theorem own_iinc_1 {u0 : Slot} {r : List Slot} {x : Int32} {cst : Int} {z : Int32} (hp : pc + 3 = pc') (hd : decode M.b pc = .ok (.iinc 1 cst, 3)) (hz : Int32.ofInt cst = z) (k : own_WP K M Q pc' (u0 :: .val (.int (x + z)) :: r) St sf h cs sl) : own_WP K M Q pc (u0 :: .val (.int x) :: r) St sf h cs sl :=
  own_step k fun p e s m args below meth c T locs cs' sl' B X eT t q => XS.iinc X.here B.1 rfl (hb B.2.1 hd) (x := x) (own_get (L := u0 :: .val (.int x) :: r) (k := 1) rfl) (own_store (Ls := u0 :: .val (.int x) :: r) (i := 1) (One.val rfl) rfl rfl) (by subst hp hz; exact q)
theorem own_istore_n2 {u0 u1 o : Slot} {r : List Slot} {x : Int32} (hp : pc + 1 = pc') (hd : decode M.b pc = .ok (.istore_n 2, 1)) (ho : One o) (k : own_WP K M Q pc' (u0 :: u1 :: .val (.int x) :: r) St sf h cs sl) : own_WP K M Q pc (u0 :: u1 :: o :: r) (.int x :: St) sf h cs sl :=
  own_step k fun p e s m args below meth c T locs cs' sl' B X eT t q => XS.istoreN X.here B.1 rfl (hb B.2.1 hd) rfl (own_store (Ls := u0 :: u1 :: o :: r) (i := 2) ho rfl rfl) (by subst hp; exact q)
theorem own_istore_n3 {u0 u1 u2 o : Slot} {r : List Slot} {x : Int32} (hp : pc + 1 = pc') (hd : decode M.b pc = .ok (.istore_n 3, 1)) (ho : One o) (k : own_WP K M Q pc' (u0 :: u1 :: u2 :: .val (.int x) :: r) St sf h cs sl) : own_WP K M Q pc (u0 :: u1 :: u2 :: o :: r) (.int x :: St) sf h cs sl :=
  own_step k fun p e s m args below meth c T locs cs' sl' B X eT t q => XS.istoreN X.here B.1 rfl (hb B.2.1 hd) rfl (own_store (Ls := u0 :: u1 :: u2 :: o :: r) (i := 3) ho rfl rfl) (by subst hp; exact q)
theorem own_astore_n3 {u0 u1 u2 o : Slot} {r : List Slot} {x : Value} (hp : pc + 1 = pc') (hd : decode M.b pc = .ok (.astore_n 3, 1)) (ho : One o) (hv : x.isRef = true) (k : own_WP K M Q pc' (u0 :: u1 :: u2 :: .val x :: r) St sf h cs sl) : own_WP K M Q pc (u0 :: u1 :: u2 :: o :: r) (x :: St) sf h cs sl :=
  own_step k fun p e s m args below meth c T locs cs' sl' B X eT t q => XS.astoreN X.here B.1 rfl (hb B.2.1 hd) rfl hv (own_store (Ls := u0 :: u1 :: u2 :: o :: r) (i := 3) ho (by rcases ref_cases hv with rfl | ⟨_, rfl⟩ <;> rfl) rfl) (by subst hp; exact q)
theorem own_iinc_3 {u0 u1 u2 : Slot} {r : List Slot} {x : Int32} {cst : Int} {z : Int32} (hp : pc + 3 = pc') (hd : decode M.b pc = .ok (.iinc 3 cst, 3)) (hz : Int32.ofInt cst = z) (k : own_WP K M Q pc' (u0 :: u1 :: u2 :: .val (.int (x + z)) :: r) St sf h cs sl) : own_WP K M Q pc (u0 :: u1 :: u2 :: .val (.int x) :: r) St sf h cs sl :=
  own_step k fun p e s m args below meth c T locs cs' sl' B X eT t q => XS.iinc X.here B.1 rfl (hb B.2.1 hd) (x := x) (own_get (L := u0 :: u1 :: u2 :: .val (.int x) :: r) (k := 3) rfl) (own_store (Ls := u0 :: u1 :: u2 :: .val (.int x) :: r) (i := 3) (One.val rfl) rfl rfl) (by subst hp hz; exact q)
theorem own_istore_4 {u0 u1 u2 u3 o : Slot} {r : List Slot} {x : Int32} (hp : pc + 2 = pc') (hd : decode M.b pc = .ok (.istore 4, 2)) (ho : One o) (k : own_WP K M Q pc' (u0 :: u1 :: u2 :: u3 :: .val (.int x) :: r) St sf h cs sl) : own_WP K M Q pc (u0 :: u1 :: u2 :: u3 :: o :: r) (.int x :: St) sf h cs sl :=
  own_step k fun p e s m args below meth c T locs cs' sl' B X eT t q => XS.istore X.here B.1 rfl (hb B.2.1 hd) rfl (own_store (Ls := u0 :: u1 :: u2 :: u3 :: o :: r) (i := 4) ho rfl rfl) (by subst hp; exact q)
theorem own_astore_4 {u0 u1 u2 u3 o : Slot} {r : List Slot} {x : Value} (hp : pc + 2 = pc') (hd : decode M.b pc = .ok (.astore 4, 2)) (ho : One o) (hv : x.isRef = true) (k : own_WP K M Q pc' (u0 :: u1 :: u2 :: u3 :: .val x :: r) St sf h cs sl) : own_WP K M Q pc (u0 :: u1 :: u2 :: u3 :: o :: r) (x :: St) sf h cs sl :=
  own_step k fun p e s m args below meth c T locs cs' sl' B X eT t q => XS.astore X.here B.1 rfl (hb B.2.1 hd) rfl hv (own_store (Ls := u0 :: u1 :: u2 :: u3 :: o :: r) (i := 4) ho (by rcases ref_cases hv with rfl | ⟨_, rfl⟩ <;> rfl) rfl) (by subst hp; exact q)
theorem own_istore_5 {u0 u1 u2 u3 u4 o : Slot} {r : List Slot} {x : Int32} (hp : pc + 2 = pc') (hd : decode M.b pc = .ok (.istore 5, 2)) (ho : One o) (k : own_WP K M Q pc' (u0 :: u1 :: u2 :: u3 :: u4 :: .val (.int x) :: r) St sf h cs sl) : own_WP K M Q pc (u0 :: u1 :: u2 :: u3 :: u4 :: o :: r) (.int x :: St) sf h cs sl :=
  own_step k fun p e s m args below meth c T locs cs' sl' B X eT t q => XS.istore X.here B.1 rfl (hb B.2.1 hd) rfl (own_store (Ls := u0 :: u1 :: u2 :: u3 :: u4 :: o :: r) (i := 5) ho rfl rfl) (by subst hp; exact q)
theorem own_astore_5 {u0 u1 u2 u3 u4 o : Slot} {r : List Slot} {x : Value} (hp : pc + 2 = pc') (hd : decode M.b pc = .ok (.astore 5, 2)) (ho : One o) (hv : x.isRef = true) (k : own_WP K M Q pc' (u0 :: u1 :: u2 :: u3 :: u4 :: .val x :: r) St sf h cs sl) : own_WP K M Q pc (u0 :: u1 :: u2 :: u3 :: u4 :: o :: r) (x :: St) sf h cs sl :=
  own_step k fun p e s m args below meth c T locs cs' sl' B X eT t q => XS.astore X.here B.1 rfl (hb B.2.1 hd) rfl hv (own_store (Ls := u0 :: u1 :: u2 :: u3 :: u4 :: o :: r) (i := 5) ho (by rcases ref_cases hv with rfl | ⟨_, rfl⟩ <;> rfl) rfl) (by subst hp; exact q)
theorem own_iinc_5 {u0 u1 u2 u3 u4 : Slot} {r : List Slot} {x : Int32} {cst : Int} {z : Int32} (hp : pc + 3 = pc') (hd : decode M.b pc = .ok (.iinc 5 cst, 3)) (hz : Int32.ofInt cst = z) (k : own_WP K M Q pc' (u0 :: u1 :: u2 :: u3 :: u4 :: .val (.int (x + z)) :: r) St sf h cs sl) : own_WP K M Q pc (u0 :: u1 :: u2 :: u3 :: u4 :: .val (.int x) :: r) St sf h cs sl :=
  own_step k fun p e s m args below meth c T locs cs' sl' B X eT t q => XS.iinc X.here B.1 rfl (hb B.2.1 hd) (x := x) (own_get (L := u0 :: u1 :: u2 :: u3 :: u4 :: .val (.int x) :: r) (k := 5) rfl) (own_store (Ls := u0 :: u1 :: u2 :: u3 :: u4 :: .val (.int x) :: r) (i := 5) (One.val rfl) rfl rfl) (by subst hp hz; exact q)
theorem own_istore_6 {u0 u1 u2 u3 u4 u5 o : Slot} {r : List Slot} {x : Int32} (hp : pc + 2 = pc') (hd : decode M.b pc = .ok (.istore 6, 2)) (ho : One o) (k : own_WP K M Q pc' (u0 :: u1 :: u2 :: u3 :: u4 :: u5 :: .val (.int x) :: r) St sf h cs sl) : own_WP K M Q pc (u0 :: u1 :: u2 :: u3 :: u4 :: u5 :: o :: r) (.int x :: St) sf h cs sl :=
  own_step k fun p e s m args below meth c T locs cs' sl' B X eT t q => XS.istore X.here B.1 rfl (hb B.2.1 hd) rfl (own_store (Ls := u0 :: u1 :: u2 :: u3 :: u4 :: u5 :: o :: r) (i := 6) ho rfl rfl) (by subst hp; exact q)
theorem own_astore_6 {u0 u1 u2 u3 u4 u5 o : Slot} {r : List Slot} {x : Value} (hp : pc + 2 = pc') (hd : decode M.b pc = .ok (.astore 6, 2)) (ho : One o) (hv : x.isRef = true) (k : own_WP K M Q pc' (u0 :: u1 :: u2 :: u3 :: u4 :: u5 :: .val x :: r) St sf h cs sl) : own_WP K M Q pc (u0 :: u1 :: u2 :: u3 :: u4 :: u5 :: o :: r) (x :: St) sf h cs sl :=
  own_step k fun p e s m args below meth c T locs cs' sl' B X eT t q => XS.astore X.here B.1 rfl (hb B.2.1 hd) rfl hv (own_store (Ls := u0 :: u1 :: u2 :: u3 :: u4 :: u5 :: o :: r) (i := 6) ho (by rcases ref_cases hv with rfl | ⟨_, rfl⟩ <;> rfl) rfl) (by subst hp; exact q)
theorem own_istore_7 {u0 u1 u2 u3 u4 u5 u6 o : Slot} {r : List Slot} {x : Int32} (hp : pc + 2 = pc') (hd : decode M.b pc = .ok (.istore 7, 2)) (ho : One o) (k : own_WP K M Q pc' (u0 :: u1 :: u2 :: u3 :: u4 :: u5 :: u6 :: .val (.int x) :: r) St sf h cs sl) : own_WP K M Q pc (u0 :: u1 :: u2 :: u3 :: u4 :: u5 :: u6 :: o :: r) (.int x :: St) sf h cs sl :=
  own_step k fun p e s m args below meth c T locs cs' sl' B X eT t q => XS.istore X.here B.1 rfl (hb B.2.1 hd) rfl (own_store (Ls := u0 :: u1 :: u2 :: u3 :: u4 :: u5 :: u6 :: o :: r) (i := 7) ho rfl rfl) (by subst hp; exact q)
theorem own_istore_8 {u0 u1 u2 u3 u4 u5 u6 u7 o : Slot} {r : List Slot} {x : Int32} (hp : pc + 2 = pc') (hd : decode M.b pc = .ok (.istore 8, 2)) (ho : One o) (k : own_WP K M Q pc' (u0 :: u1 :: u2 :: u3 :: u4 :: u5 :: u6 :: u7 :: .val (.int x) :: r) St sf h cs sl) : own_WP K M Q pc (u0 :: u1 :: u2 :: u3 :: u4 :: u5 :: u6 :: u7 :: o :: r) (.int x :: St) sf h cs sl :=
  own_step k fun p e s m args below meth c T locs cs' sl' B X eT t q => XS.istore X.here B.1 rfl (hb B.2.1 hd) rfl (own_store (Ls := u0 :: u1 :: u2 :: u3 :: u4 :: u5 :: u6 :: u7 :: o :: r) (i := 8) ho rfl rfl) (by subst hp; exact q)
theorem own_istore_9 {u0 u1 u2 u3 u4 u5 u6 u7 u8 o : Slot} {r : List Slot} {x : Int32} (hp : pc + 2 = pc') (hd : decode M.b pc = .ok (.istore 9, 2)) (ho : One o) (k : own_WP K M Q pc' (u0 :: u1 :: u2 :: u3 :: u4 :: u5 :: u6 :: u7 :: u8 :: .val (.int x) :: r) St sf h cs sl) : own_WP K M Q pc (u0 :: u1 :: u2 :: u3 :: u4 :: u5 :: u6 :: u7 :: u8 :: o :: r) (.int x :: St) sf h cs sl :=
  own_step k fun p e s m args below meth c T locs cs' sl' B X eT t q => XS.istore X.here B.1 rfl (hb B.2.1 hd) rfl (own_store (Ls := u0 :: u1 :: u2 :: u3 :: u4 :: u5 :: u6 :: u7 :: u8 :: o :: r) (i := 9) ho rfl rfl) (by subst hp; exact q)
theorem own_istore_10 {u0 u1 u2 u3 u4 u5 u6 u7 u8 u9 o : Slot} {r : List Slot} {x : Int32} (hp : pc + 2 = pc') (hd : decode M.b pc = .ok (.istore 10, 2)) (ho : One o) (k : own_WP K M Q pc' (u0 :: u1 :: u2 :: u3 :: u4 :: u5 :: u6 :: u7 :: u8 :: u9 :: .val (.int x) :: r) St sf h cs sl) : own_WP K M Q pc (u0 :: u1 :: u2 :: u3 :: u4 :: u5 :: u6 :: u7 :: u8 :: u9 :: o :: r) (.int x :: St) sf h cs sl :=
  own_step k fun p e s m args below meth c T locs cs' sl' B X eT t q => XS.istore X.here B.1 rfl (hb B.2.1 hd) rfl (own_store (Ls := u0 :: u1 :: u2 :: u3 :: u4 :: u5 :: u6 :: u7 :: u8 :: u9 :: o :: r) (i := 10) ho rfl rfl) (by subst hp; exact q)
theorem own_astore_11 {u0 u1 u2 u3 u4 u5 u6 u7 u8 u9 u10 o : Slot} {r : List Slot} {x : Value} (hp : pc + 2 = pc') (hd : decode M.b pc = .ok (.astore 11, 2)) (ho : One o) (hv : x.isRef = true) (k : own_WP K M Q pc' (u0 :: u1 :: u2 :: u3 :: u4 :: u5 :: u6 :: u7 :: u8 :: u9 :: u10 :: .val x :: r) St sf h cs sl) : own_WP K M Q pc (u0 :: u1 :: u2 :: u3 :: u4 :: u5 :: u6 :: u7 :: u8 :: u9 :: u10 :: o :: r) (x :: St) sf h cs sl :=
  own_step k fun p e s m args below meth c T locs cs' sl' B X eT t q => XS.astore X.here B.1 rfl (hb B.2.1 hd) rfl hv (own_store (Ls := u0 :: u1 :: u2 :: u3 :: u4 :: u5 :: u6 :: u7 :: u8 :: u9 :: u10 :: o :: r) (i := 11) ho (by rcases ref_cases hv with rfl | ⟨_, rfl⟩ <;> rfl) rfl) (by subst hp; exact q)
theorem own_astore_12 {u0 u1 u2 u3 u4 u5 u6 u7 u8 u9 u10 u11 o : Slot} {r : List Slot} {x : Value} (hp : pc + 2 = pc') (hd : decode M.b pc = .ok (.astore 12, 2)) (ho : One o) (hv : x.isRef = true) (k : own_WP K M Q pc' (u0 :: u1 :: u2 :: u3 :: u4 :: u5 :: u6 :: u7 :: u8 :: u9 :: u10 :: u11 :: .val x :: r) St sf h cs sl) : own_WP K M Q pc (u0 :: u1 :: u2 :: u3 :: u4 :: u5 :: u6 :: u7 :: u8 :: u9 :: u10 :: u11 :: o :: r) (x :: St) sf h cs sl :=
  own_step k fun p e s m args below meth c T locs cs' sl' B X eT t q => XS.astore X.here B.1 rfl (hb B.2.1 hd) rfl hv (own_store (Ls := u0 :: u1 :: u2 :: u3 :: u4 :: u5 :: u6 :: u7 :: u8 :: u9 :: u10 :: u11 :: o :: r) (i := 12) ho (by rcases ref_cases hv with rfl | ⟨_, rfl⟩ <;> rfl) rfl) (by subst hp; exact q)
theorem own_istore_13 {u0 u1 u2 u3 u4 u5 u6 u7 u8 u9 u10 u11 u12 o : Slot} {r : List Slot} {x : Int32} (hp : pc + 2 = pc') (hd : decode M.b pc = .ok (.istore 13, 2)) (ho : One o) (k : own_WP K M Q pc' (u0 :: u1 :: u2 :: u3 :: u4 :: u5 :: u6 :: u7 :: u8 :: u9 :: u10 :: u11 :: u12 :: .val (.int x) :: r) St sf h cs sl) : own_WP K M Q pc (u0 :: u1 :: u2 :: u3 :: u4 :: u5 :: u6 :: u7 :: u8 :: u9 :: u10 :: u11 :: u12 :: o :: r) (.int x :: St) sf h cs sl :=
  own_step k fun p e s m args below meth c T locs cs' sl' B X eT t q => XS.istore X.here B.1 rfl (hb B.2.1 hd) rfl (own_store (Ls := u0 :: u1 :: u2 :: u3 :: u4 :: u5 :: u6 :: u7 :: u8 :: u9 :: u10 :: u11 :: u12 :: o :: r) (i := 13) ho rfl rfl) (by subst hp; exact q)
theorem own_istore_14 {u0 u1 u2 u3 u4 u5 u6 u7 u8 u9 u10 u11 u12 u13 o : Slot} {r : List Slot} {x : Int32} (hp : pc + 2 = pc') (hd : decode M.b pc = .ok (.istore 14, 2)) (ho : One o) (k : own_WP K M Q pc' (u0 :: u1 :: u2 :: u3 :: u4 :: u5 :: u6 :: u7 :: u8 :: u9 :: u10 :: u11 :: u12 :: u13 :: .val (.int x) :: r) St sf h cs sl) : own_WP K M Q pc (u0 :: u1 :: u2 :: u3 :: u4 :: u5 :: u6 :: u7 :: u8 :: u9 :: u10 :: u11 :: u12 :: u13 :: o :: r) (.int x :: St) sf h cs sl :=
  own_step k fun p e s m args below meth c T locs cs' sl' B X eT t q => XS.istore X.here B.1 rfl (hb B.2.1 hd) rfl (own_store (Ls := u0 :: u1 :: u2 :: u3 :: u4 :: u5 :: u6 :: u7 :: u8 :: u9 :: u10 :: u11 :: u12 :: u13 :: o :: r) (i := 14) ho rfl rfl) (by subst hp; exact q)
theorem own_goto {o : Int} (hd : decode M.b pc = .ok (.goto o, 3)) (ho : 0 ≤ (pc : Int) + o) (hp : ((pc : Int) + o).toNat = pc') (k : own_WP K M Q pc' Ls St sf h cs sl) : own_WP K M Q pc Ls St sf h cs sl :=
  own_step k fun p e s m args below meth c T locs cs' sl' B X eT t q => XS.goto X.here B.1 rfl (pc0 := pc) rfl (hb B.2.1 hd) ho hp q
theorem own_if {cd : ClassFile.Cond} {o : Int} {x : Int32} {pcT pcF : Nat} (hd : decode M.b pc = .ok (.ifCond cd o, 3)) (ho : 0 ≤ (pc : Int) + o) (hp : ((pc : Int) + o).toNat = pcT) (hp' : pc + 3 = pcF)
    (kT : ifCond.holds cd x = true → own_WP K M Q pcT Ls St sf h cs sl) (kF : ifCond.holds cd x = false → own_WP K M Q pcF Ls St sf h cs sl) : own_WP K M Q pc Ls (.int x :: St) sf h cs sl := by
  cases hc : ifCond.holds cd x
  · exact own_step (kF hc) fun p e s m args below meth c T locs cs' sl' B X eT t q => XS.ifNo X.here B.1 rfl (hb B.2.1 hd) rfl hc (by subst hp'; exact q)
  · exact own_step (kT hc) fun p e s m args below meth c T locs cs' sl' B X eT t q => XS.ifYes X.here B.1 rfl (pc0 := pc) rfl (hb B.2.1 hd) rfl hc ho hp q
theorem own_icmp {cd : ClassFile.Cond} {o : Int} {x y : Int32} {pcT pcF : Nat} (hd : decode M.b pc = .ok (.if_icmp cd o, 3)) (ho : 0 ≤ (pc : Int) + o) (hp : ((pc : Int) + o).toNat = pcT) (hp' : pc + 3 = pcF)
    (kT : if_icmp.holds cd x y = true → own_WP K M Q pcT Ls St sf h cs sl) (kF : if_icmp.holds cd x y = false → own_WP K M Q pcF Ls St sf h cs sl) : own_WP K M Q pc Ls (.int y :: .int x :: St) sf h cs sl := by
  cases hc : if_icmp.holds cd x y
  · exact own_step (kF hc) fun p e s m args below meth c T locs cs' sl' B X eT t q => XS.icmpNo X.here B.1 rfl (hb B.2.1 hd) rfl hc (by subst hp'; exact q)
  · exact own_step (kT hc) fun p e s m args below meth c T locs cs' sl' B X eT t q => XS.icmpYes X.here B.1 rfl (pc0 := pc) rfl (hb B.2.1 hd) rfl hc ho hp q
theorem own_ifeq {o : Int} {x : Int32} {pcT pcF : Nat} (hd : decode M.b pc = .ok (.ifCond .eq o, 3)) (ho : 0 ≤ (pc : Int) + o) (hp : ((pc : Int) + o).toNat = pcT) (hp' : pc + 3 = pcF) (kT : x = 0 → own_WP K M Q pcT Ls St sf h cs sl) (kF : ¬ x = 0 → own_WP K M Q pcF Ls St sf h cs sl) : own_WP K M Q pc Ls (.int x :: St) sf h cs sl := by
  refine own_if hd ho hp hp' (fun c => ?_) (fun c => ?_)
  · rw [if0] at c; by_cases q : x = 0
    · exact kT q
    · have z := (feq q).1; rw [z] at c; cases c
  · rw [if0] at c; by_cases q : x = 0
    · have z := (teq q).1; rw [z] at c; cases c
    · exact kF q
theorem own_icmpeq {o : Int} {x y : Int32} {pcT pcF : Nat} (hd : decode M.b pc = .ok (.if_icmp .eq o, 3)) (ho : 0 ≤ (pc : Int) + o) (hp : ((pc : Int) + o).toNat = pcT) (hp' : pc + 3 = pcF) (kT : x = y → own_WP K M Q pcT Ls St sf h cs sl) (kF : ¬ x = y → own_WP K M Q pcF Ls St sf h cs sl) : own_WP K M Q pc Ls (.int y :: .int x :: St) sf h cs sl := by
  refine own_icmp hd ho hp hp' (fun c => ?_) (fun c => ?_)
  · by_cases q : x = y
    · exact kT q
    · have z := (feq q).1; rw [z] at c; cases c
  · by_cases q : x = y
    · have z := (teq q).1; rw [z] at c; cases c
    · exact kF q
theorem own_ifne {o : Int} {x : Int32} {pcT pcF : Nat} (hd : decode M.b pc = .ok (.ifCond .ne o, 3)) (ho : 0 ≤ (pc : Int) + o) (hp : ((pc : Int) + o).toNat = pcT) (hp' : pc + 3 = pcF) (kT : ¬ x = 0 → own_WP K M Q pcT Ls St sf h cs sl) (kF : x = 0 → own_WP K M Q pcF Ls St sf h cs sl) : own_WP K M Q pc Ls (.int x :: St) sf h cs sl := by
  refine own_if hd ho hp hp' (fun c => ?_) (fun c => ?_)
  · rw [if0] at c; by_cases q : x = 0
    · have z := (teq q).2; rw [z] at c; cases c
    · exact kT q
  · rw [if0] at c; by_cases q : x = 0
    · exact kF q
    · have z := (feq q).2; rw [z] at c; cases c
theorem own_icmpne {o : Int} {x y : Int32} {pcT pcF : Nat} (hd : decode M.b pc = .ok (.if_icmp .ne o, 3)) (ho : 0 ≤ (pc : Int) + o) (hp : ((pc : Int) + o).toNat = pcT) (hp' : pc + 3 = pcF) (kT : ¬ x = y → own_WP K M Q pcT Ls St sf h cs sl) (kF : x = y → own_WP K M Q pcF Ls St sf h cs sl) : own_WP K M Q pc Ls (.int y :: .int x :: St) sf h cs sl := by
  refine own_icmp hd ho hp hp' (fun c => ?_) (fun c => ?_)
  · by_cases q : x = y
    · have z := (teq q).2; rw [z] at c; cases c
    · exact kT q
  · by_cases q : x = y
    · exact kF q
    · have z := (feq q).2; rw [z] at c; cases c
theorem own_iflt {o : Int} {x : Int32} {pcT pcF : Nat} (hd : decode M.b pc = .ok (.ifCond .lt o, 3)) (ho : 0 ≤ (pc : Int) + o) (hp : ((pc : Int) + o).toNat = pcT) (hp' : pc + 3 = pcF) (kT : x < 0 → own_WP K M Q pcT Ls St sf h cs sl) (kF : ¬ x < 0 → own_WP K M Q pcF Ls St sf h cs sl) : own_WP K M Q pc Ls (.int x :: St) sf h cs sl := by
  refine own_if hd ho hp hp' (fun c => ?_) (fun c => ?_)
  · rw [if0] at c; by_cases q : x < 0
    · exact kT q
    · have z := (flt q).1; rw [z] at c; cases c
  · rw [if0] at c; by_cases q : x < 0
    · have z := (tlt q).1; rw [z] at c; cases c
    · exact kF q
theorem own_icmplt {o : Int} {x y : Int32} {pcT pcF : Nat} (hd : decode M.b pc = .ok (.if_icmp .lt o, 3)) (ho : 0 ≤ (pc : Int) + o) (hp : ((pc : Int) + o).toNat = pcT) (hp' : pc + 3 = pcF) (kT : x < y → own_WP K M Q pcT Ls St sf h cs sl) (kF : ¬ x < y → own_WP K M Q pcF Ls St sf h cs sl) : own_WP K M Q pc Ls (.int y :: .int x :: St) sf h cs sl := by
  refine own_icmp hd ho hp hp' (fun c => ?_) (fun c => ?_)
  · by_cases q : x < y
    · exact kT q
    · have z := (flt q).1; rw [z] at c; cases c
  · by_cases q : x < y
    · have z := (tlt q).1; rw [z] at c; cases c
    · exact kF q
theorem own_icmpge {o : Int} {x y : Int32} {pcT pcF : Nat} (hd : decode M.b pc = .ok (.if_icmp .ge o, 3)) (ho : 0 ≤ (pc : Int) + o) (hp : ((pc : Int) + o).toNat = pcT) (hp' : pc + 3 = pcF) (kT : ¬ x < y → own_WP K M Q pcT Ls St sf h cs sl) (kF : x < y → own_WP K M Q pcF Ls St sf h cs sl) : own_WP K M Q pc Ls (.int y :: .int x :: St) sf h cs sl := by
  refine own_icmp hd ho hp hp' (fun c => ?_) (fun c => ?_)
  · by_cases q : x < y
    · have z := (tlt q).2.1; rw [z] at c; cases c
    · exact kT q
  · by_cases q : x < y
    · exact kF q
    · have z := (flt q).2.1; rw [z] at c; cases c
theorem own_icmpgt {o : Int} {x y : Int32} {pcT pcF : Nat} (hd : decode M.b pc = .ok (.if_icmp .gt o, 3)) (ho : 0 ≤ (pc : Int) + o) (hp : ((pc : Int) + o).toNat = pcT) (hp' : pc + 3 = pcF) (kT : y < x → own_WP K M Q pcT Ls St sf h cs sl) (kF : ¬ y < x → own_WP K M Q pcF Ls St sf h cs sl) : own_WP K M Q pc Ls (.int y :: .int x :: St) sf h cs sl := by
  refine own_icmp hd ho hp hp' (fun c => ?_) (fun c => ?_)
  · by_cases q : y < x
    · exact kT q
    · have z := (flt q).2.2.1; rw [z] at c; cases c
  · by_cases q : y < x
    · have z := (tlt q).2.2.1; rw [z] at c; cases c
    · exact kF q
theorem own_ifle {o : Int} {x : Int32} {pcT pcF : Nat} (hd : decode M.b pc = .ok (.ifCond .le o, 3)) (ho : 0 ≤ (pc : Int) + o) (hp : ((pc : Int) + o).toNat = pcT) (hp' : pc + 3 = pcF) (kT : ¬ 0 < x → own_WP K M Q pcT Ls St sf h cs sl) (kF : 0 < x → own_WP K M Q pcF Ls St sf h cs sl) : own_WP K M Q pc Ls (.int x :: St) sf h cs sl := by
  refine own_if hd ho hp hp' (fun c => ?_) (fun c => ?_)
  · rw [if0] at c; by_cases q : 0 < x
    · have z := (tlt q).2.2.2; rw [z] at c; cases c
    · exact kT q
  · rw [if0] at c; by_cases q : 0 < x
    · exact kF q
    · have z := (flt q).2.2.2; rw [z] at c; cases c
theorem own_icmple {o : Int} {x y : Int32} {pcT pcF : Nat} (hd : decode M.b pc = .ok (.if_icmp .le o, 3)) (ho : 0 ≤ (pc : Int) + o) (hp : ((pc : Int) + o).toNat = pcT) (hp' : pc + 3 = pcF) (kT : ¬ y < x → own_WP K M Q pcT Ls St sf h cs sl) (kF : y < x → own_WP K M Q pcF Ls St sf h cs sl) : own_WP K M Q pc Ls (.int y :: .int x :: St) sf h cs sl := by
  refine own_icmp hd ho hp hp' (fun c => ?_) (fun c => ?_)
  · by_cases q : y < x
    · have z := (tlt q).2.2.2; rw [z] at c; cases c
    · exact kT q
  · by_cases q : y < x
    · exact kF q
    · have z := (flt q).2.2.2; rw [z] at c; cases c
theorem own_ifnull_n {o : Int} {b : Addr} (hp : pc + 3 = pc') (hd : decode M.b pc = .ok (.ifnull o, 3)) (k : own_WP K M Q pc' Ls St sf h cs sl) : own_WP K M Q pc Ls (.ref b :: St) sf h cs sl :=
  own_step k fun p e s m args below meth c T locs cs' sl' B X eT t q => XS.ifnullNo X.here B.1 rfl (hb B.2.1 hd) rfl (by subst hp; exact q)
theorem own_ifnonnull_y {o : Int} {b : Addr} (hd : decode M.b pc = .ok (.ifnonnull o, 3)) (ho : 0 ≤ (pc : Int) + o) (hp : ((pc : Int) + o).toNat = pc') (k : own_WP K M Q pc' Ls St sf h cs sl) : own_WP K M Q pc Ls (.ref b :: St) sf h cs sl :=
  own_step k fun p e s m args below meth c T locs cs' sl' B X eT t q => XS.ifnonnullYes X.here B.1 rfl (pc0 := pc) rfl (hb B.2.1 hd) rfl ho hp q
/-- returns -/
theorem own_return {qn : Heap → List Addr → Prop} (hr : M.ret = none) (hd : decode M.b pc = .ok (.return_, 1)) (hc : Nat.ble cs M.R.cells = true) (hs : Nat.ble sl M.R.slots = true) (q : qn h sf) : own_WP K M (own_void qn) pc Ls [] sf h cs sl :=
  own_leave (v := none) (fun _ => rfl) (Nat.le_of_ble_eq_true hc) (Nat.le_of_ble_eq_true hs) ⟨rfl, q⟩ fun p e s m args below meth c T locs cs' sl' B X fs hl => X.returnOut B.1 (by rw [B.2.2.2.2.2.1, hr]) (hb B.2.1 hd) hl
theorem own_ireturn {qv : Value → Heap → List Addr → Prop} {z : Int32} (hr : M.ret = some .int) (hd : decode M.b pc = .ok (.ireturn, 1)) (hc : Nat.ble cs M.R.cells = true) (hs : Nat.ble sl M.R.slots = true) (q : qv (.int z) h sf) : own_WP K M (own_ret qv) pc Ls (.int z :: St) sf h cs sl :=
  own_leave (v := some (.int z)) (fun n => by rw [hr] at n; cases n) (Nat.le_of_ble_eq_true hc) (Nat.le_of_ble_eq_true hs) ⟨_, rfl, q⟩ fun p e s m args below meth c T locs cs' sl' B X fs hl => retOut X B.1 (t := .int) (by rw [B.2.2.2.2.2.1, hr]) rfl (Or.inl ⟨rfl, Or.inl rfl, z, rfl⟩) (hb B.2.1 hd) hl
theorem own_ireturnN {qv : Value → Heap → List Addr → Prop} {t : FieldType} {z z' : Int32} (hr : M.ret = some t) (ht : t = .boolean ∨ t = .byte ∨ t = .char ∨ t = .short) (hz : nar t z = z') (hd : decode M.b pc = .ok (.ireturn, 1)) (hc : Nat.ble cs M.R.cells = true) (hs : Nat.ble sl M.R.slots = true) (q : qv (.int z') h sf) : own_WP K M (own_ret qv) pc Ls (.int z :: St) sf h cs sl :=
  own_leave (v := some (.int z')) (fun n => by rw [hr] at n; cases n) (Nat.le_of_ble_eq_true hc) (Nat.le_of_ble_eq_true hs) ⟨_, rfl, q⟩ fun p e s m args below meth c T locs cs' sl' B X fs hl => retN X B.1 (t := t) (by rw [B.2.2.2.2.2.1, hr]) ht (hb B.2.1 hd) (by rw [hz]; exact hl)
theorem own_areturn {qv : Value → Heap → List Addr → Prop} {t : FieldType} {v : Value} (hr : M.ret = some t) (ht : t.isReference = true) (hv : v.isRef = true) (hd : decode M.b pc = .ok (.areturn, 1)) (hc : Nat.ble cs M.R.cells = true) (hs : Nat.ble sl M.R.slots = true) (q : qv v h sf) : own_WP K M (own_ret qv) pc Ls (v :: St) sf h cs sl :=
  own_leave (v := some v) (fun n => by rw [hr] at n; cases n) (Nat.le_of_ble_eq_true hc) (Nat.le_of_ble_eq_true hs) ⟨_, rfl, q⟩ fun p e s m args below meth c T locs cs' sl' B X fs hl => retOut X B.1 (t := t) (by rw [B.2.2.2.2.2.1, hr]) (by cases t <;> first | (cases ht; done) | (rcases ref_cases hv with rfl | ⟨_, rfl⟩ <;> rfl)) (Or.inr (Or.inr (Or.inr (Or.inr ⟨rfl, ht, hv⟩)))) (hb B.2.1 hd) hl
/-- constants of the pool, fields, statics, new objects and arrays -/
theorem own_ldcI {index : Nat} {v : Int32} (hp : pc + 2 = pc') (hd : decode M.b pc = .ok (.ldc index, 2)) (w : (Jvm.Cond.constant M.y.cls index v).before a0 K.Z = true) (k : own_WP K M Q pc' Ls (.int v :: St) sf h cs sl) : own_WP K M Q pc Ls St sf h cs sl :=
  own_step k fun p e s m args below meth c T locs cs' sl' B X eT t q => X.ldcInt B.1 B.2.2.2.1 (mv B.2.2.2.2.2.2.2.1 w) (g := mkF m pc Ls.toArray St) rfl (hb B.2.1 hd) t (by subst hp; exact q)
theorem own_getF {index : Nat} {R0 O n d : String} {a : Addr} {v : Value} (hp : pc + 3 = pc') (hd : decode M.b pc = .ok (.getfield index, 3)) (w : (Jvm.Cond.fieldLink M.y.cls index R0 n d).before a0 K.Z = true) (via : Via K.Z R0 O n d) (F : Fld K.Z h a O n d v) (k : own_WP K M Q pc' Ls (v :: St) sf h cs sl) : own_WP K M Q pc Ls (.ref a :: St) sf h cs sl := by
  subst hp
  exact own_move k fun p e s m args below meth c T locs cs' sl' B X eT hE => getF X B.1 B.2.2.2.2.2.2.2.1 (host := "") B.2.2.2.1 (Or.inl w) via eT F (g := mkF m pc Ls.toArray (.ref a :: St)) rfl rfl (hb B.2.1 hd)
theorem own_getS {index : Nat} {R0 O n d : String} {v : Value} (hp : pc + 3 = pc') (hd : decode M.b pc = .ok (.getstatic index, 3)) (w : (Jvm.Cond.fieldLink M.y.cls index R0 n d).before a0 K.Z = true) (via : Via K.Z R0 O n d) (F : Sta K.Z K.Z.heap O n d v) (k : own_WP K M Q pc' Ls (v :: St) sf h cs sl) : own_WP K M Q pc Ls St sf h cs sl := by
  subst hp
  exact own_move k fun p e s m args below meth c T locs cs' sl' B X eT hE => getS X B.1 B.2.2.2.2.2.2.2.1 (host := "") B.2.2.2.1 w via eT (F.ext hE) (g := mkF m pc Ls.toArray St) rfl (hb B.2.1 hd)
theorem own_new {index n : Nat} {C : String} (hp : pc + 3 = pc') (hd : decode M.b pc = .ok (.new index, 3)) (w : (Jvm.Cond.classLink M.y.cls index C).before a0 K.Z = true) (wi : (Jvm.Cond.instantiable C n).before a0 K.Z = true) (wz : (Jvm.Cond.initialized C).before a0 K.Z = true) (hc : Nat.ble (cs + 1) M.R.cells = true) (hs : Nat.ble (sl + n) M.R.slots = true)
    (k : ∀ (a : Addr) (h' : Heap), @Eq Nat a h.size → Ext h h' → Exa K.Z h' a C → (∀ {O nm d : String} {ty : FieldType}, Laid K.Z a0 C O nm d → parseFieldDescriptor d = some ty → Fld K.Z h' a O nm d (defaultValue ty)) → own_WP K M Q pc' Ls (.ref a :: St) (a :: sf) h' (cs + 1) (sl + n)) : own_WP K M Q pc Ls St sf h cs sl := by
  subst hp
  refine own_grow (P := fun h' => Exa K.Z h' h.size C ∧ (∀ {O nm d : String} {ty : FieldType}, Laid K.Z a0 C O nm d → parseFieldDescriptor d = some ty → Fld K.Z h' h.size O nm d (defaultValue ty))) (Nat.le_of_ble_eq_true hc) (Nat.le_of_ble_eq_true hs) (fun h' E P => k _ h' rfl E P.1 P.2) ?_
  intro p e s m args below meth c T locs cs' sl' B X hc' hs' eT
  obtain ⟨T', h', X', e', E, A, D, -, st⟩ := newO X B.1 B.2.2.2.2.2.2.2.1 B.2.2.2.1 w wi wz eT (g := mkF m pc Ls.toArray St) rfl (hb B.2.1 hd) hc' hs'
  exact ⟨T', h', X', e', E, A.lt, ⟨A, D⟩, st⟩
theorem own_putF {index kk : Nat} {R0 O n d C : String} {ty : FieldType} {a : Addr} {v v' old : Value} (hp : pc + 3 = pc') (hd : decode M.b pc = .ok (.putfield index, 3)) (w : (Jvm.Cond.fieldLink M.y.cls index R0 n d).before a0 K.Z = true) (via : Via K.Z R0 O n d)
    (L : (Jvm.Cond.lays C O n d).before a0 K.Z = true ∨ ((Jvm.Cond.laysFinal C O n d).before a0 K.Z = true ∧ M.y.cls = O ∧ M.y.name = "<init>")) (wi : (Jvm.Cond.instantiable C kk).before a0 K.Z = true) (hty : parseFieldDescriptor d = some ty) (hn : narrow ty v = v') (hf : fits ty v' = true) (F : Fld K.Z h a O n d old) (E : Exa K.Z h a C) (ha : a ∈ sf)
    (k : ∀ h', Wr h h' a (RoadKit.slotOf K.Z O n d) v' → own_WP K M Q pc' Ls St sf h' cs sl) : own_WP K M Q pc Ls (v :: .ref a :: St) sf h cs sl := by
  subst hp
  exact own_write ha k fun p e s m args below meth c T locs cs' sl' B X eT => putFN X B.1 B.2.2.2.2.2.2.2.1 B.2.2.2.1 w via eT F E (L.imp id fun q => ⟨q.1, q.2.1, by rw [B.2.2.2.2.1]; exact q.2.2⟩) wi hty hn hf (g := mkF m pc Ls.toArray (v :: .ref a :: St)) rfl rfl (hb B.2.1 hd)
theorem own_initO {index : Nat} {a : Addr} (hp : pc + 3 = pc') (hd : decode M.b pc = .ok (.invokespecial index, 3)) (w1 : (Jvm.Cond.methodLink M.y.cls index Lib.objectInit).before a0 K.Z = true) (w2 : (Jvm.Cond.instanceMethod Lib.objectInit).before a0 K.Z = true) (w3 : (Jvm.Cond.code Lib.objectInit ⟨#[0xb1]⟩ 1 none).before a0 K.Z = true) (hsz : Ls.length = M.mx) (hf : Nat.ble 1 M.R.frames = true) (hl : Nat.ble ((St.map fun v => v.category).sum + 12) M.R.locals = true)
    (k : own_WP K M Q pc' Ls St sf h cs sl) : own_WP K M Q pc Ls (.ref a :: St) sf h cs sl := by
  subst hp
  exact own_move k fun p e s m args below meth c T locs cs' sl' B X eT hE => initO X B.1 B.2.2.2.2.2.2.2.1 B.2.2.2.1 w1 w2 w3 eT (g := mkF m pc Ls.toArray (.ref a :: St)) rfl (by rw [B.2.2.1, ← hsz]; simp) rfl (hb B.2.1 hd) (Nat.le_of_ble_eq_true hf) (W := (St.map fun v => v.category).sum) (by show 2 * 0 + _ ≤ _; omega) (Nat.le_of_ble_eq_true hl)
end Plain
section Arrays
/-- the array at a holds just vs -/
def own_Ary (Z : State) (h : Heap) (a : Addr) (ty : FieldType) (vs : List Value) : Prop := ∃ c : Cell, Arr Z h a c ty ∧ c.slots = vs.toArray ∧ vs.length < 2 ^ 31
variable {K : own_Cx} {M : own_Mi} {Q : own_Q} {pc pc' : Nat} {Ls : List Slot} {St : List Value} {sf : List Addr} {h h' : Heap} {cs sl : Nat} {a0 : Array Value} {Z : State} {a b : Addr} {ty : FieldType} {vs : List Value}
theorem own_Ary.ext (F : own_Ary Z h a ty vs) (E : Ext h h') : own_Ary Z h' a ty vs := by obtain ⟨c, A, r⟩ := F; exact ⟨c, A.ext E, r⟩
theorem own_Ary.lt (F : own_Ary Z h a ty vs) : a < h.size := by obtain ⟨c, A, r⟩ := F; exact A.lt
theorem own_Ary.keep {ws : List Addr} (F : own_Ary Z h a ty vs) (k : Keep h h' ws) (q : a ∉ ws) : own_Ary Z h' a ty vs := by obtain ⟨c, A, r⟩ := F; exact ⟨c, ⟨k.2.1 a c A.1 q, A.2⟩, r⟩
theorem own_Ary.other {i : Nat} {v : Value} (F : own_Ary Z h b ty vs) (W : Wr h h' a i v) (q : b ≠ a) : own_Ary Z h' b ty vs := by obtain ⟨c, A, r⟩ := F; exact ⟨c, A.other W q, r⟩
theorem own_Ary.same {i : Nat} {v : Value} (F : own_Ary Z h a ty vs) (W : Wr h h' a i v) : own_Ary Z h' a ty (vs.set i v) := by
  obtain ⟨c, A, r1, r2⟩ := F
  refine ⟨c.setSlot i v, A.same W, ?_, by simpa using r2⟩
  simp [Cell.setSlot, r1]
theorem own_idx {j : Int32} {i n : Nat} (hj : j.toInt = i) (hi : i < n) : ¬ (j < 0 ∨ n ≤ j.toNatClampNeg) ∧ j.toNatClampNeg = i := by
  have q : j.toNatClampNeg = i := by
    have : j.toNatClampNeg = j.toInt.toNat := rfl
    rw [this, hj]; rfl
  refine ⟨fun z => ?_, q⟩
  rcases z with z | z
  · rw [Int32.lt_iff_toInt_lt, hj] at z
    have : (0 : Int32).toInt = 0 := rfl
    omega
  · omega
theorem own_len {n : Nat} (q : n < 2 ^ 31) : (n.toInt32).toInt = n := Int32.toInt_ofNat_small q
theorem own_arrlen {z : Int32} (hp : pc + 1 = pc') (hd : decode M.b pc = .ok (.arraylength, 1)) (F : own_Ary K.Z h a ty vs) (hz : z.toInt = vs.length) (k : own_WP K M Q pc' Ls (.int z :: St) sf h cs sl) : own_WP K M Q pc Ls (.ref a :: St) sf h cs sl := by
  obtain ⟨cl, A, r1, r2⟩ := F
  have e1 : cl.slots.size.toInt32 = z := by
    apply Int32.toInt_inj.mp
    rw [hz, r1]; simpa using own_len r2
  exact own_step k fun p e s m args below meth c T locs cs' sl' B X eT t q => X.arraylength B.1 (by rw [eT]; exact A.1) (State.isArrayOf_alike B.2.2.2.2.2.2.2.1.alike A.2.1) (g := mkF m pc Ls.toArray (.ref a :: St)) rfl rfl (hb B.2.1 hd) t (by subst hp; rw [e1]; exact q)
theorem own_caload {i : Nat} {j : Int32} {v : Value} (hp : pc + 1 = pc') (hd : decode M.b pc = .ok (.caload, 1)) (F : own_Ary K.Z h a .char vs) (hj : j.toInt = i) (hv : vs[i]? = some v) (k : own_WP K M Q pc' Ls (v :: St) sf h cs sl) : own_WP K M Q pc Ls (.int j :: .ref a :: St) sf h cs sl := by
  obtain ⟨cl, A, r1, r2⟩ := F
  have hi : i < vs.length := (List.getElem?_eq_some_iff.mp hv).1
  have hsz : cl.slots.size = vs.length := by rw [r1]; simp
  obtain ⟨q1, q2⟩ := own_idx (n := cl.slots.size) hj (by rw [hsz]; exact hi)
  exact own_step k fun p e s m args below meth c T locs cs' sl' B X eT t q => X.caload B.1 (j := j) (v := v) (by rw [eT]; exact A.1) (State.isArrayOf_alike B.2.2.2.2.2.2.2.1.alike A.2.1) A.2.2 q1 (by rw [q2, r1]; simpa using hv) (g := mkF m pc Ls.toArray (.int j :: .ref a :: St)) rfl rfl (hb B.2.1 hd) t (by subst hp; exact q)
theorem own_baload {i : Nat} {j : Int32} {v : Value} (hp : pc + 1 = pc') (hd : decode M.b pc = .ok (.baload, 1)) (F : own_Ary K.Z h a .byte vs) (hj : j.toInt = i) (hv : vs[i]? = some v) (k : own_WP K M Q pc' Ls (v :: St) sf h cs sl) : own_WP K M Q pc Ls (.int j :: .ref a :: St) sf h cs sl := by
  obtain ⟨cl, A, r1, r2⟩ := F
  have hi : i < vs.length := (List.getElem?_eq_some_iff.mp hv).1
  have hsz : cl.slots.size = vs.length := by rw [r1]; simp
  obtain ⟨q1, q2⟩ := own_idx (n := cl.slots.size) hj (by rw [hsz]; exact hi)
  exact own_step k fun p e s m args below meth c T locs cs' sl' B X eT t q => X.baloadBytes B.1 (j := j) (v := v) (by rw [eT]; exact A.1) (State.isArrayOf_alike B.2.2.2.2.2.2.2.1.alike A.2.1) A.2.2 q1 (by rw [q2, r1]; simpa using hv) (g := mkF m pc Ls.toArray (.int j :: .ref a :: St)) rfl rfl (hb B.2.1 hd) t (by subst hp; exact q)
theorem own_castore {i : Nat} {j x x' : Int32} (hp : pc + 1 = pc') (hd : decode M.b pc = .ok (.castore, 1)) (F : own_Ary K.Z h a .char vs) (hj : j.toInt = i) (hi : i < vs.length) (hx : nar .char x = x') (ha : a ∈ sf) (k : ∀ h', Keep h h' [a] → own_Ary K.Z h' a .char (vs.set i (.int x')) → own_WP K M Q pc' Ls St sf h' cs sl) : own_WP K M Q pc Ls (.int x :: .int j :: .ref a :: St) sf h cs sl := by
  subst hp hx
  have F' := F
  obtain ⟨cl, A, r1, r2⟩ := F
  have hsz : cl.slots.size = vs.length := by rw [r1]; simp
  obtain ⟨q1, q2⟩ := own_idx (n := cl.slots.size) hj (by rw [hsz]; exact hi)
  refine own_write ha (i := j.toNatClampNeg) (fun h' W => k h' (Keep.of_wr W) (by rw [← q2]; exact F'.same W)) ?_
  exact fun p e s m args below meth c T locs cs' sl' B X eT => stC X B.1 B.2.2.2.2.2.2.2.1 eT A (j := j) q1 (g := mkF m pc Ls.toArray (.int x :: .int j :: .ref a :: St)) rfl rfl (hb B.2.1 hd)
theorem own_bastore {i : Nat} {j x x' : Int32} (hp : pc + 1 = pc') (hd : decode M.b pc = .ok (.bastore, 1)) (F : own_Ary K.Z h a .byte vs) (hj : j.toInt = i) (hi : i < vs.length) (hx : nar .byte x = x') (ha : a ∈ sf) (k : ∀ h', Keep h h' [a] → own_Ary K.Z h' a .byte (vs.set i (.int x')) → own_WP K M Q pc' Ls St sf h' cs sl) : own_WP K M Q pc Ls (.int x :: .int j :: .ref a :: St) sf h cs sl := by
  subst hp hx
  have F' := F
  obtain ⟨cl, A, r1, r2⟩ := F
  have hsz : cl.slots.size = vs.length := by rw [r1]; simp
  obtain ⟨q1, q2⟩ := own_idx (n := cl.slots.size) hj (by rw [hsz]; exact hi)
  refine own_write ha (i := j.toNatClampNeg) (fun h' W => k h' (Keep.of_wr W) (by rw [← q2]; exact F'.same W)) ?_
  exact fun p e s m args below meth c T locs cs' sl' B X eT => stB X B.1 B.2.2.2.2.2.2.2.1 eT A (j := j) q1 (g := mkF m pc Ls.toArray (.int x :: .int j :: .ref a :: St)) rfl rfl (hb B.2.1 hd)
theorem own_newarray {aty : ArrayType} {n : Int32} {N cap : Nat} (hp : pc + 2 = pc') (hd : decode M.b pc = .ok (.newarray aty, 2)) (w : (Jvm.Cond.arrayClass (newarray.typeOf aty)).before a0 K.Z = true) (hn : n.toInt = N) (hcap : N ≤ cap) (hb' : Nat.ble (cap * 8) 536870912 = true) (hc : Nat.ble (cs + 1) M.R.cells = true) (hs : Nat.ble (sl + cap) M.R.slots = true)
    (k : ∀ (a : Addr) (h' : Heap), @Eq Nat a h.size → Ext h h' → own_Ary K.Z h' a (newarray.typeOf aty) (List.replicate N (defaultValue (newarray.typeOf aty))) → own_WP K M Q pc' Ls (.ref a :: St) (a :: sf) h' (cs + 1) (sl + cap)) : own_WP K M Q pc Ls (.int n :: St) sf h cs sl := by
  subst hp
  have hN : n.toNatClampNeg = N := by
    have : n.toNatClampNeg = n.toInt.toNat := rfl
    rw [this, hn]; rfl
  have h0 : ¬ n < 0 := fun z => by
    rw [Int32.lt_iff_toInt_lt, hn] at z
    have : (0 : Int32).toInt = 0 := rfl
    omega
  refine own_grow (P := fun h' => own_Ary K.Z h' h.size (newarray.typeOf aty) (List.replicate N (defaultValue (newarray.typeOf aty)))) (Nat.le_of_ble_eq_true hc) (Nat.le_of_ble_eq_true hs) (fun h' E P => k _ h' rfl E P) ?_
  intro p e s m args below meth c T locs cs' sl' B X hc' hs' eT
  obtain ⟨T', h', cA, X', e', E, A, st⟩ := newP X B.1 B.2.2.2.2.2.2.2.1 w eT (g := mkF m pc Ls.toArray (.int n :: St)) rfl (hb B.2.1 hd) rfl h0 (cap := cap) (by omega) (Nat.le_of_ble_eq_true hb') hc' hs'
  have hlt := (back32 h0).2
  exact ⟨T', h', X', e', E, A.lt, ⟨_, A, by simp [newA, hN], by rw [List.length_replicate, ← hN]; exact hlt⟩, st⟩
end Arrays
theorem own_lenOf {d : String} {ps : List FieldType} {r : Option FieldType} (hd : parseMethodDescriptor d = some ⟨ps, r⟩) {n : Nat} (hl : n = ps.length) : ∀ sig, parseMethodDescriptor d = some sig → n = sig.parameters.length := fun sig q => by cases hd.symm.trans q; exact hl
theorem own_cat {v : Value} (q : v.isRef = true) : v.category = 1 := by rcases ref_cases q with rfl | ⟨_, rfl⟩ <;> rfl
theorem own_ne {a b : Addr} (q : @Ne Nat a b) : a ≠ b := q
theorem own_nb0 : nar .boolean 0 = 0 := rfl
theorem own_nb1 : nar .boolean 1 = 1 := rfl
theorem own_ints_get {cs : List Int32} {i : Nat} {c : Int32} (hc : cs[i]? = some c) : (cs.map Value.int)[i]? = some (.int c) := by simp [hc]
theorem own_ints_getM {cs : List Int32} {f : Int32 → Int32} {i : Nat} {c : Int32} (hc : cs[i]? = some c) : ((cs.map f).map Value.int)[i]? = some (.int (f c)) := by simp [hc]
theorem tw_0 {a0 : Array Value} {Z : State} (hw : ∀ d ∈ tables_1, d.before a0 Z = true) : (Jvm.Cond.fieldLink "com/example/protoloom/protoloom/report/ActionToStringPinLaw" (13 : Nat) "com/example/protoloom/protoloom/report/Action$Kind" "RECEIVE" "Lcom/example/protoloom/protoloom/report/Action$Kind;").before a0 Z = true := hw _ (List.mem_of_getElem? (i := 0) rfl)
theorem tw_1 {a0 : Array Value} {Z : State} (hw : ∀ d ∈ tables_1, d.before a0 Z = true) : (Jvm.Cond.initialized "com/example/protoloom/protoloom/report/Action$Kind").before a0 Z = true := hw _ (List.mem_of_getElem? (i := 1) rfl)
theorem tw_2 {a0 : Array Value} {Z : State} (hw : ∀ d ∈ tables_1, d.before a0 Z = true) : (Jvm.Cond.laysStatic "com/example/protoloom/protoloom/report/Action$Kind" "RECEIVE" "Lcom/example/protoloom/protoloom/report/Action$Kind;").before a0 Z = true := hw _ (List.mem_of_getElem? (i := 2) rfl)
theorem tw_3 {a0 : Array Value} {Z : State} (hw : ∀ d ∈ tables_1, d.before a0 Z = true) : (Jvm.Cond.constant "com/example/protoloom/protoloom/report/ActionToStringPinLaw" (16 : Nat) (2147483647 : Int32)).before a0 Z = true := hw _ (List.mem_of_getElem? (i := 3) rfl)
theorem tw_4 {a0 : Array Value} {Z : State} (hw : ∀ d ∈ tables_1, d.before a0 Z = true) : (Jvm.Cond.methodLink "com/example/protoloom/protoloom/report/ActionToStringPinLaw" (17 : Nat) ({ cls := "com/example/protoloom/protoloom/report/ActionToStringPinLaw", name := "channel", desc := "(ICCC)Ljava/lang/String;" } : Jvm.MethodName)).before a0 Z = true := hw _ (List.mem_of_getElem? (i := 4) rfl)
theorem tw_5 {a0 : Array Value} {Z : State} (hw : ∀ d ∈ tables_1, d.before a0 Z = true) : (Jvm.Cond.static ({ cls := "com/example/protoloom/protoloom/report/ActionToStringPinLaw", name := "channel", desc := "(ICCC)Ljava/lang/String;" } : Jvm.MethodName)).before a0 Z = true := hw _ (List.mem_of_getElem? (i := 5) rfl)
theorem tw_6 {a0 : Array Value} {Z : State} (hw : ∀ d ∈ tables_1, d.before a0 Z = true) : (Jvm.Cond.initialized "com/example/protoloom/protoloom/report/ActionToStringPinLaw").before a0 Z = true := hw _ (List.mem_of_getElem? (i := 6) rfl)
theorem tw_7 {a0 : Array Value} {Z : State} (hw : ∀ d ∈ tables_1, d.before a0 Z = true) : (Jvm.Cond.code ({ cls := "com/example/protoloom/protoloom/report/ActionToStringPinLaw", name := "channel", desc := "(ICCC)Ljava/lang/String;" } : Jvm.MethodName) method_3_code (5 : Nat) (Option.some (Jvm.ClassFile.FieldType.object "java/lang/String"))).before a0 Z = true := hw _ (List.mem_of_getElem? (i := 7) rfl)
theorem tw_8 {a0 : Array Value} {Z : State} (hw : ∀ d ∈ tables_1, d.before a0 Z = true) : (Jvm.Cond.arrayClass Jvm.ClassFile.FieldType.char).before a0 Z = true := hw _ (List.mem_of_getElem? (i := 8) rfl)
theorem tw_9 {a0 : Array Value} {Z : State} (hw : ∀ d ∈ tables_1, d.before a0 Z = true) : (Jvm.Cond.classLink "com/example/protoloom/protoloom/report/ActionToStringPinLaw" (33 : Nat) "java/lang/String").before a0 Z = true := hw _ (List.mem_of_getElem? (i := 9) rfl)
theorem tw_10 {a0 : Array Value} {Z : State} (hw : ∀ d ∈ tables_1, d.before a0 Z = true) : (Jvm.Cond.instantiable "java/lang/String" (4 : Nat)).before a0 Z = true := hw _ (List.mem_of_getElem? (i := 10) rfl)
theorem tw_11 {a0 : Array Value} {Z : State} (hw : ∀ d ∈ tables_1, d.before a0 Z = true) : (Jvm.Cond.initialized "java/lang/String").before a0 Z = true := hw _ (List.mem_of_getElem? (i := 11) rfl)
theorem tw_12 {a0 : Array Value} {Z : State} (hw : ∀ d ∈ tables_1, d.before a0 Z = true) : (Jvm.Cond.methodLink "com/example/protoloom/protoloom/report/ActionToStringPinLaw" (42 : Nat) ({ cls := "java/lang/String", name := "<init>", desc := "([C)V" } : Jvm.MethodName)).before a0 Z = true := hw _ (List.mem_of_getElem? (i := 12) rfl)
theorem tw_13 {a0 : Array Value} {Z : State} (hw : ∀ d ∈ tables_1, d.before a0 Z = true) : (Jvm.Cond.instanceMethod ({ cls := "java/lang/String", name := "<init>", desc := "([C)V" } : Jvm.MethodName)).before a0 Z = true := hw _ (List.mem_of_getElem? (i := 13) rfl)
theorem tw_14 {a0 : Array Value} {Z : State} (hw : ∀ d ∈ tables_1, d.before a0 Z = true) : (Jvm.Cond.code ({ cls := "java/lang/String", name := "<init>", desc := "([C)V" } : Jvm.MethodName) jdk_42_method_3_code (2 : Nat) (Option.none : Option Jvm.ClassFile.FieldType)).before a0 Z = true := hw _ (List.mem_of_getElem? (i := 14) rfl)
theorem tw_15 {a0 : Array Value} {Z : State} (hw : ∀ d ∈ tables_1, d.before a0 Z = true) : (Jvm.Cond.methodLink "java/lang/String" (27 : Nat) ({ cls := "java/lang/String", name := "<init>", desc := "([CIILjava/lang/Void;)V" } : Jvm.MethodName)).before a0 Z = true := hw _ (List.mem_of_getElem? (i := 15) rfl)
theorem tw_16 {a0 : Array Value} {Z : State} (hw : ∀ d ∈ tables_1, d.before a0 Z = true) : (Jvm.Cond.instanceMethod ({ cls := "java/lang/String", name := "<init>", desc := "([CIILjava/lang/Void;)V" } : Jvm.MethodName)).before a0 Z = true := hw _ (List.mem_of_getElem? (i := 16) rfl)
theorem tw_18 {a0 : Array Value} {Z : State} (hw : ∀ d ∈ tables_1, d.before a0 Z = true) : (Jvm.Cond.code ({ cls := "java/lang/String", name := "<init>", desc := "([CIILjava/lang/Void;)V" } : Jvm.MethodName) jdk_42_method_149_code (6 : Nat) (Option.none : Option Jvm.ClassFile.FieldType)).before a0 Z = true := hw _ (List.mem_of_getElem? (i := 18) rfl)
theorem tw_19 {a0 : Array Value} {Z : State} (hw : ∀ d ∈ tables_1, d.before a0 Z = true) : (Jvm.Cond.methodLink "java/lang/String" (1 : Nat) ({ cls := "java/lang/Object", name := "<init>", desc := "()V" } : Jvm.MethodName)).before a0 Z = true := hw _ (List.mem_of_getElem? (i := 19) rfl)
theorem tw_20 {a0 : Array Value} {Z : State} (hw : ∀ d ∈ tables_1, d.before a0 Z = true) : (Jvm.Cond.instanceMethod ({ cls := "java/lang/Object", name := "<init>", desc := "()V" } : Jvm.MethodName)).before a0 Z = true := hw _ (List.mem_of_getElem? (i := 20) rfl)
theorem tw_21 {a0 : Array Value} {Z : State} (hw : ∀ d ∈ tables_1, d.before a0 Z = true) : (Jvm.Cond.code ({ cls := "java/lang/Object", name := "<init>", desc := "()V" } : Jvm.MethodName) object_method_1_code (1 : Nat) (Option.none : Option Jvm.ClassFile.FieldType)).before a0 Z = true := hw _ (List.mem_of_getElem? (i := 21) rfl)
theorem tw_22 {a0 : Array Value} {Z : State} (hw : ∀ d ∈ tables_1, d.before a0 Z = true) : (Jvm.Cond.fieldLink "java/lang/String" (38 : Nat) "java/lang/String" "COMPACT_STRINGS" "Z").before a0 Z = true := hw _ (List.mem_of_getElem? (i := 22) rfl)
theorem tw_23 {a0 : Array Value} {Z : State} (hw : ∀ d ∈ tables_1, d.before a0 Z = true) : (Jvm.Cond.methodLink "java/lang/String" (177 : Nat) ({ cls := "java/lang/StringUTF16", name := "compress", desc := "([CII)[B" } : Jvm.MethodName)).before a0 Z = true := hw _ (List.mem_of_getElem? (i := 23) rfl)
theorem tw_24 {a0 : Array Value} {Z : State} (hw : ∀ d ∈ tables_1, d.before a0 Z = true) : (Jvm.Cond.static ({ cls := "java/lang/StringUTF16", name := "compress", desc := "([CII)[B" } : Jvm.MethodName)).before a0 Z = true := hw _ (List.mem_of_getElem? (i := 24) rfl)
theorem tw_25 {a0 : Array Value} {Z : State} (hw : ∀ d ∈ tables_1, d.before a0 Z = true) : (Jvm.Cond.initialized "java/lang/StringUTF16").before a0 Z = true := hw _ (List.mem_of_getElem? (i := 25) rfl)
theorem tw_26 {a0 : Array Value} {Z : State} (hw : ∀ d ∈ tables_1, d.before a0 Z = true) : (Jvm.Cond.code ({ cls := "java/lang/StringUTF16", name := "compress", desc := "([CII)[B" } : Jvm.MethodName) jdk_52_method_16_code (6 : Nat) (Option.some (Jvm.ClassFile.FieldType.array Jvm.ClassFile.FieldType.byte))).before a0 Z = true := hw _ (List.mem_of_getElem? (i := 26) rfl)
theorem tw_27 {a0 : Array Value} {Z : State} (hw : ∀ d ∈ tables_1, d.before a0 Z = true) : (Jvm.Cond.arrayClass Jvm.ClassFile.FieldType.byte).before a0 Z = true := hw _ (List.mem_of_getElem? (i := 27) rfl)
theorem tw_28 {a0 : Array Value} {Z : State} (hw : ∀ d ∈ tables_1, d.before a0 Z = true) : (Jvm.Cond.methodLink "java/lang/StringUTF16" (115 : Nat) ({ cls := "java/lang/StringUTF16", name := "compress", desc := "([CI[BII)I" } : Jvm.MethodName)).before a0 Z = true := hw _ (List.mem_of_getElem? (i := 28) rfl)
theorem tw_29 {a0 : Array Value} {Z : State} (hw : ∀ d ∈ tables_1, d.before a0 Z = true) : (Jvm.Cond.static ({ cls := "java/lang/StringUTF16", name := "compress", desc := "([CI[BII)I" } : Jvm.MethodName)).before a0 Z = true := hw _ (List.mem_of_getElem? (i := 29) rfl)
theorem tw_30 {a0 : Array Value} {Z : State} (hw : ∀ d ∈ tables_1, d.before a0 Z = true) : (Jvm.Cond.code ({ cls := "java/lang/StringUTF16", name := "compress", desc := "([CI[BII)I" } : Jvm.MethodName) jdk_52_method_21_code (7 : Nat) (Option.some Jvm.ClassFile.FieldType.int)).before a0 Z = true := hw _ (List.mem_of_getElem? (i := 30) rfl)
theorem tw_31 {a0 : Array Value} {Z : State} (hw : ∀ d ∈ tables_1, d.before a0 Z = true) : (Jvm.Cond.methodLink "java/lang/String" (47 : Nat) ({ cls := "java/lang/StringUTF16", name := "coderFromArrayLen", desc := "([BI)B" } : Jvm.MethodName)).before a0 Z = true := hw _ (List.mem_of_getElem? (i := 31) rfl)
theorem tw_32 {a0 : Array Value} {Z : State} (hw : ∀ d ∈ tables_1, d.before a0 Z = true) : (Jvm.Cond.static ({ cls := "java/lang/StringUTF16", name := "coderFromArrayLen", desc := "([BI)B" } : Jvm.MethodName)).before a0 Z = true := hw _ (List.mem_of_getElem? (i := 32) rfl)
theorem tw_33 {a0 : Array Value} {Z : State} (hw : ∀ d ∈ tables_1, d.before a0 Z = true) : (Jvm.Cond.code ({ cls := "java/lang/StringUTF16", name := "coderFromArrayLen", desc := "([BI)B" } : Jvm.MethodName) jdk_52_method_15_code (2 : Nat) (Option.some Jvm.ClassFile.FieldType.byte)).before a0 Z = true := hw _ (List.mem_of_getElem? (i := 33) rfl)
theorem tw_34 {a0 : Array Value} {Z : State} (hw : ∀ d ∈ tables_1, d.before a0 Z = true) : (Jvm.Cond.fieldLink "java/lang/String" (15 : Nat) "java/lang/String" "coder" "B").before a0 Z = true := hw _ (List.mem_of_getElem? (i := 34) rfl)
theorem tw_35 {a0 : Array Value} {Z : State} (hw : ∀ d ∈ tables_1, d.before a0 Z = true) : (Jvm.Cond.laysFinal "java/lang/String" "java/lang/String" "coder" "B").before a0 Z = true := hw _ (List.mem_of_getElem? (i := 35) rfl)
theorem tw_36 {a0 : Array Value} {Z : State} (hw : ∀ d ∈ tables_1, d.before a0 Z = true) : (Jvm.Cond.fieldLink "java/lang/String" (9 : Nat) "java/lang/String" "value" "[B").before a0 Z = true := hw _ (List.mem_of_getElem? (i := 36) rfl)
theorem tw_37 {a0 : Array Value} {Z : State} (hw : ∀ d ∈ tables_1, d.before a0 Z = true) : (Jvm.Cond.laysFinal "java/lang/String" "java/lang/String" "value" "[B").before a0 Z = true := hw _ (List.mem_of_getElem? (i := 37) rfl)
theorem tw_38 {a0 : Array Value} {Z : State} (hw : ∀ d ∈ tables_1, d.before a0 Z = true) : (Jvm.Cond.classLink "com/example/protoloom/protoloom/report/ActionToStringPinLaw" (23 : Nat) "com/example/protoloom/protoloom/report/Action").before a0 Z = true := hw _ (List.mem_of_getElem? (i := 38) rfl)
theorem tw_39 {a0 : Array Value} {Z : State} (hw : ∀ d ∈ tables_1, d.before a0 Z = true) : (Jvm.Cond.instantiable "com/example/protoloom/protoloom/report/Action" (2 : Nat)).before a0 Z = true := hw _ (List.mem_of_getElem? (i := 39) rfl)
theorem tw_40 {a0 : Array Value} {Z : State} (hw : ∀ d ∈ tables_1, d.before a0 Z = true) : (Jvm.Cond.initialized "com/example/protoloom/protoloom/report/Action").before a0 Z = true := hw _ (List.mem_of_getElem? (i := 40) rfl)
theorem tw_41 {a0 : Array Value} {Z : State} (hw : ∀ d ∈ tables_1, d.before a0 Z = true) : (Jvm.Cond.methodLink "com/example/protoloom/protoloom/report/ActionToStringPinLaw" (25 : Nat) ({ cls := "com/example/protoloom/protoloom/report/Action", name := "<init>", desc := "(Lcom/example/protoloom/protoloom/report/Action$Kind;Ljava/lang/String;)V" } : Jvm.MethodName)).before a0 Z = true := hw _ (List.mem_of_getElem? (i := 41) rfl)
theorem tw_42 {a0 : Array Value} {Z : State} (hw : ∀ d ∈ tables_1, d.before a0 Z = true) : (Jvm.Cond.instanceMethod ({ cls := "com/example/protoloom/protoloom/report/Action", name := "<init>", desc := "(Lcom/example/protoloom/protoloom/report/Action$Kind;Ljava/lang/String;)V" } : Jvm.MethodName)).before a0 Z = true := hw _ (List.mem_of_getElem? (i := 42) rfl)
theorem tw_43 {a0 : Array Value} {Z : State} (hw : ∀ d ∈ tables_1, d.before a0 Z = true) : (Jvm.Cond.code ({ cls := "com/example/protoloom/protoloom/report/Action", name := "<init>", desc := "(Lcom/example/protoloom/protoloom/report/Action$Kind;Ljava/lang/String;)V" } : Jvm.MethodName) prog_28_method_1_code (3 : Nat) (Option.none : Option Jvm.ClassFile.FieldType)).before a0 Z = true := hw _ (List.mem_of_getElem? (i := 43) rfl)
theorem tw_44 {a0 : Array Value} {Z : State} (hw : ∀ d ∈ tables_1, d.before a0 Z = true) : (Jvm.Cond.methodLink "com/example/protoloom/protoloom/report/Action" (1 : Nat) ({ cls := "java/lang/Record", name := "<init>", desc := "()V" } : Jvm.MethodName)).before a0 Z = true := hw _ (List.mem_of_getElem? (i := 44) rfl)
theorem tw_45 {a0 : Array Value} {Z : State} (hw : ∀ d ∈ tables_1, d.before a0 Z = true) : (Jvm.Cond.instanceMethod ({ cls := "java/lang/Record", name := "<init>", desc := "()V" } : Jvm.MethodName)).before a0 Z = true := hw _ (List.mem_of_getElem? (i := 45) rfl)
theorem tw_47 {a0 : Array Value} {Z : State} (hw : ∀ d ∈ tables_1, d.before a0 Z = true) : (Jvm.Cond.initialized "java/lang/Record").before a0 Z = true := hw _ (List.mem_of_getElem? (i := 47) rfl)
theorem tw_48 {a0 : Array Value} {Z : State} (hw : ∀ d ∈ tables_1, d.before a0 Z = true) : (Jvm.Cond.code ({ cls := "java/lang/Record", name := "<init>", desc := "()V" } : Jvm.MethodName) jdk_30_method_1_code (1 : Nat) (Option.none : Option Jvm.ClassFile.FieldType)).before a0 Z = true := hw _ (List.mem_of_getElem? (i := 48) rfl)
theorem tw_49 {a0 : Array Value} {Z : State} (hw : ∀ d ∈ tables_1, d.before a0 Z = true) : (Jvm.Cond.methodLink "java/lang/Record" (1 : Nat) ({ cls := "java/lang/Object", name := "<init>", desc := "()V" } : Jvm.MethodName)).before a0 Z = true := hw _ (List.mem_of_getElem? (i := 49) rfl)
theorem tw_51 {a0 : Array Value} {Z : State} (hw : ∀ d ∈ tables_1, d.before a0 Z = true) : (Jvm.Cond.soleField "java/lang/String" "value").before a0 Z = true := hw _ (List.mem_of_getElem? (i := 51) rfl)
theorem tw_52 {a0 : Array Value} {Z : State} (hw : ∀ d ∈ tables_1, d.before a0 Z = true) : (Jvm.Cond.soleField "java/lang/String" "coder").before a0 Z = true := hw _ (List.mem_of_getElem? (i := 52) rfl)
theorem tw_53 {a0 : Array Value} {Z : State} (hw : ∀ d ∈ tables_1, d.before a0 Z = true) : (Jvm.Cond.methodLink "com/example/protoloom/protoloom/report/Action" (9 : Nat) ({ cls := "java/util/Objects", name := "requireNonNull", desc := "(Ljava/lang/Object;Ljava/lang/String;)Ljava/lang/Object;" } : Jvm.MethodName)).before a0 Z = true := hw _ (List.mem_of_getElem? (i := 53) rfl)
theorem tw_54 {a0 : Array Value} {Z : State} (hw : ∀ d ∈ tables_1, d.before a0 Z = true) : (Jvm.Cond.static ({ cls := "java/util/Objects", name := "requireNonNull", desc := "(Ljava/lang/Object;Ljava/lang/String;)Ljava/lang/Object;" } : Jvm.MethodName)).before a0 Z = true := hw _ (List.mem_of_getElem? (i := 54) rfl)
theorem tw_55 {a0 : Array Value} {Z : State} (hw : ∀ d ∈ tables_1, d.before a0 Z = true) : (Jvm.Cond.initialized "java/util/Objects").before a0 Z = true := hw _ (List.mem_of_getElem? (i := 55) rfl)
theorem tw_56 {a0 : Array Value} {Z : State} (hw : ∀ d ∈ tables_1, d.before a0 Z = true) : (Jvm.Cond.code ({ cls := "java/util/Objects", name := "requireNonNull", desc := "(Ljava/lang/Object;Ljava/lang/String;)Ljava/lang/Object;" } : Jvm.MethodName) jdk_31_method_11_code (2 : Nat) (Option.some (Jvm.ClassFile.FieldType.object "java/lang/Object"))).before a0 Z = true := hw _ (List.mem_of_getElem? (i := 56) rfl)
theorem tw_58 {a0 : Array Value} {Z : State} (hw : ∀ d ∈ tables_1, d.before a0 Z = true) : (Jvm.Cond.fieldLink "com/example/protoloom/protoloom/report/Action" (17 : Nat) "com/example/protoloom/protoloom/report/Action" "kind" "Lcom/example/protoloom/protoloom/report/Action$Kind;").before a0 Z = true := hw _ (List.mem_of_getElem? (i := 58) rfl)
theorem tw_59 {a0 : Array Value} {Z : State} (hw : ∀ d ∈ tables_1, d.before a0 Z = true) : (Jvm.Cond.laysFinal "com/example/protoloom/protoloom/report/Action" "com/example/protoloom/protoloom/report/Action" "kind" "Lcom/example/protoloom/protoloom/report/Action$Kind;").before a0 Z = true := hw _ (List.mem_of_getElem? (i := 59) rfl)
theorem tw_60 {a0 : Array Value} {Z : State} (hw : ∀ d ∈ tables_1, d.before a0 Z = true) : (Jvm.Cond.fieldLink "com/example/protoloom/protoloom/report/Action" (22 : Nat) "com/example/protoloom/protoloom/report/Action" "channel" "Ljava/lang/String;").before a0 Z = true := hw _ (List.mem_of_getElem? (i := 60) rfl)
theorem tw_61 {a0 : Array Value} {Z : State} (hw : ∀ d ∈ tables_1, d.before a0 Z = true) : (Jvm.Cond.laysFinal "com/example/protoloom/protoloom/report/Action" "com/example/protoloom/protoloom/report/Action" "channel" "Ljava/lang/String;").before a0 Z = true := hw _ (List.mem_of_getElem? (i := 61) rfl)
theorem tw_62 {a0 : Array Value} {Z : State} (hw : ∀ d ∈ tables_1, d.before a0 Z = true) : (Jvm.Cond.methodLink "com/example/protoloom/protoloom/report/ActionToStringPinLaw" (28 : Nat) ({ cls := "com/example/protoloom/protoloom/report/Action", name := "toString", desc := "()Ljava/lang/String;" } : Jvm.MethodName)).before a0 Z = true := hw _ (List.mem_of_getElem? (i := 62) rfl)
theorem tw_63 {a0 : Array Value} {Z : State} (hw : ∀ d ∈ tables_1, d.before a0 Z = true) : (Jvm.Cond.declares ({ cls := "com/example/protoloom/protoloom/report/Action", name := "toString", desc := "()Ljava/lang/String;" } : Jvm.MethodName)).before a0 Z = true := hw _ (List.mem_of_getElem? (i := 63) rfl)
theorem tw_64 {a0 : Array Value} {Z : State} (hw : ∀ d ∈ tables_1, d.before a0 Z = true) : (Jvm.Cond.instanceMethod ({ cls := "com/example/protoloom/protoloom/report/Action", name := "toString", desc := "()Ljava/lang/String;" } : Jvm.MethodName)).before a0 Z = true := hw _ (List.mem_of_getElem? (i := 64) rfl)
theorem tw_65 {a0 : Array Value} {Z : State} (hw : ∀ d ∈ tables_1, d.before a0 Z = true) : (Jvm.Cond.selects "com/example/protoloom/protoloom/report/Action" ({ cls := "com/example/protoloom/protoloom/report/Action", name := "toString", desc := "()Ljava/lang/String;" } : Jvm.MethodName) ({ cls := "com/example/protoloom/protoloom/report/Action", name := "toString", desc := "()Ljava/lang/String;" } : Jvm.MethodName)).before a0 Z = true := hw _ (List.mem_of_getElem? (i := 65) rfl)
theorem tw_66 {a0 : Array Value} {Z : State} (hw : ∀ d ∈ tables_1, d.before a0 Z = true) : (Jvm.Cond.code ({ cls := "com/example/protoloom/protoloom/report/Action", name := "toString", desc := "()Ljava/lang/String;" } : Jvm.MethodName) prog_28_method_2_code (1 : Nat) (Option.some (Jvm.ClassFile.FieldType.object "java/lang/String"))).before a0 Z = true := hw _ (List.mem_of_getElem? (i := 66) rfl)
theorem tw_67 {a0 : Array Value} {Z : State} (hw : ∀ d ∈ tables_1, d.before a0 Z = true) : (Jvm.Cond.classLink "com/example/protoloom/protoloom/report/Action" (25 : Nat) "java/lang/StringBuilder").before a0 Z = true := hw _ (List.mem_of_getElem? (i := 67) rfl)
theorem tw_68 {a0 : Array Value} {Z : State} (hw : ∀ d ∈ tables_1, d.before a0 Z = true) : (Jvm.Cond.instantiable "java/lang/StringBuilder" (4 : Nat)).before a0 Z = true := hw _ (List.mem_of_getElem? (i := 68) rfl)
theorem tw_69 {a0 : Array Value} {Z : State} (hw : ∀ d ∈ tables_1, d.before a0 Z = true) : (Jvm.Cond.initialized "java/lang/StringBuilder").before a0 Z = true := hw _ (List.mem_of_getElem? (i := 69) rfl)
theorem tw_70 {a0 : Array Value} {Z : State} (hw : ∀ d ∈ tables_1, d.before a0 Z = true) : (Jvm.Cond.methodLink "com/example/protoloom/protoloom/report/Action" (27 : Nat) ({ cls := "java/lang/StringBuilder", name := "<init>", desc := "()V" } : Jvm.MethodName)).before a0 Z = true := hw _ (List.mem_of_getElem? (i := 70) rfl)
theorem tw_71 {a0 : Array Value} {Z : State} (hw : ∀ d ∈ tables_1, d.before a0 Z = true) : (Jvm.Cond.instanceMethod ({ cls := "java/lang/StringBuilder", name := "<init>", desc := "()V" } : Jvm.MethodName)).before a0 Z = true := hw _ (List.mem_of_getElem? (i := 71) rfl)
theorem tw_72 {a0 : Array Value} {Z : State} (hw : ∀ d ∈ tables_1, d.before a0 Z = true) : (Jvm.Cond.code ({ cls := "java/lang/StringBuilder", name := "<init>", desc := "()V" } : Jvm.MethodName) jdk_67_method_1_code (1 : Nat) (Option.none : Option Jvm.ClassFile.FieldType)).before a0 Z = true := hw _ (List.mem_of_getElem? (i := 72) rfl)
theorem tw_73 {a0 : Array Value} {Z : State} (hw : ∀ d ∈ tables_1, d.before a0 Z = true) : (Jvm.Cond.methodLink "java/lang/StringBuilder" (1 : Nat) ({ cls := "java/lang/AbstractStringBuilder", name := "<init>", desc := "(I)V" } : Jvm.MethodName)).before a0 Z = true := hw _ (List.mem_of_getElem? (i := 73) rfl)
theorem tw_74 {a0 : Array Value} {Z : State} (hw : ∀ d ∈ tables_1, d.before a0 Z = true) : (Jvm.Cond.instanceMethod ({ cls := "java/lang/AbstractStringBuilder", name := "<init>", desc := "(I)V" } : Jvm.MethodName)).before a0 Z = true := hw _ (List.mem_of_getElem? (i := 74) rfl)
theorem tw_77 {a0 : Array Value} {Z : State} (hw : ∀ d ∈ tables_1, d.before a0 Z = true) : (Jvm.Cond.initialized "java/lang/AbstractStringBuilder").before a0 Z = true := hw _ (List.mem_of_getElem? (i := 77) rfl)
theorem tw_78 {a0 : Array Value} {Z : State} (hw : ∀ d ∈ tables_1, d.before a0 Z = true) : (Jvm.Cond.code ({ cls := "java/lang/AbstractStringBuilder", name := "<init>", desc := "(I)V" } : Jvm.MethodName) jdk_68_method_2_code (2 : Nat) (Option.none : Option Jvm.ClassFile.FieldType)).before a0 Z = true := hw _ (List.mem_of_getElem? (i := 78) rfl)
theorem tw_79 {a0 : Array Value} {Z : State} (hw : ∀ d ∈ tables_1, d.before a0 Z = true) : (Jvm.Cond.methodLink "java/lang/AbstractStringBuilder" (3 : Nat) ({ cls := "java/lang/Object", name := "<init>", desc := "()V" } : Jvm.MethodName)).before a0 Z = true := hw _ (List.mem_of_getElem? (i := 79) rfl)
theorem tw_80 {a0 : Array Value} {Z : State} (hw : ∀ d ∈ tables_1, d.before a0 Z = true) : (Jvm.Cond.fieldLink "java/lang/AbstractStringBuilder" (18 : Nat) "java/lang/String" "COMPACT_STRINGS" "Z").before a0 Z = true := hw _ (List.mem_of_getElem? (i := 80) rfl)
theorem tw_81 {a0 : Array Value} {Z : State} (hw : ∀ d ∈ tables_1, d.before a0 Z = true) : (Jvm.Cond.fieldLink "java/lang/AbstractStringBuilder" (15 : Nat) "java/lang/AbstractStringBuilder" "value" "[B").before a0 Z = true := hw _ (List.mem_of_getElem? (i := 81) rfl)
theorem tw_82 {a0 : Array Value} {Z : State} (hw : ∀ d ∈ tables_1, d.before a0 Z = true) : (Jvm.Cond.lays "java/lang/StringBuilder" "java/lang/AbstractStringBuilder" "value" "[B").before a0 Z = true := hw _ (List.mem_of_getElem? (i := 82) rfl)
theorem tw_83 {a0 : Array Value} {Z : State} (hw : ∀ d ∈ tables_1, d.before a0 Z = true) : (Jvm.Cond.fieldLink "java/lang/AbstractStringBuilder" (22 : Nat) "java/lang/AbstractStringBuilder" "coder" "B").before a0 Z = true := hw _ (List.mem_of_getElem? (i := 83) rfl)
theorem tw_84 {a0 : Array Value} {Z : State} (hw : ∀ d ∈ tables_1, d.before a0 Z = true) : (Jvm.Cond.lays "java/lang/StringBuilder" "java/lang/AbstractStringBuilder" "coder" "B").before a0 Z = true := hw _ (List.mem_of_getElem? (i := 84) rfl)
theorem tw_85 {a0 : Array Value} {Z : State} (hw : ∀ d ∈ tables_1, d.before a0 Z = true) : (Jvm.Cond.methodLink "com/example/protoloom/protoloom/report/Action" (28 : Nat) ({ cls := "com/example/protoloom/protoloom/report/Action$Kind", name := "verb", desc := "()Ljava/lang/String;" } : Jvm.MethodName)).before a0 Z = true := hw _ (List.mem_of_getElem? (i := 85) rfl)
theorem tw_86 {a0 : Array Value} {Z : State} (hw : ∀ d ∈ tables_1, d.before a0 Z = true) : (Jvm.Cond.declares ({ cls := "com/example/protoloom/protoloom/report/Action$Kind", name := "verb", desc := "()Ljava/lang/String;" } : Jvm.MethodName)).before a0 Z = true := hw _ (List.mem_of_getElem? (i := 86) rfl)
theorem tw_87 {a0 : Array Value} {Z : State} (hw : ∀ d ∈ tables_1, d.before a0 Z = true) : (Jvm.Cond.instanceMethod ({ cls := "com/example/protoloom/protoloom/report/Action$Kind", name := "verb", desc := "()Ljava/lang/String;" } : Jvm.MethodName)).before a0 Z = true := hw _ (List.mem_of_getElem? (i := 87) rfl)
theorem tw_88 {a0 : Array Value} {Z : State} (hw : ∀ d ∈ tables_1, d.before a0 Z = true) : (Jvm.Cond.selects "com/example/protoloom/protoloom/report/Action$Kind" ({ cls := "com/example/protoloom/protoloom/report/Action$Kind", name := "verb", desc := "()Ljava/lang/String;" } : Jvm.MethodName) ({ cls := "com/example/protoloom/protoloom/report/Action$Kind", name := "verb", desc := "()Ljava/lang/String;" } : Jvm.MethodName)).before a0 Z = true := hw _ (List.mem_of_getElem? (i := 88) rfl)
theorem tw_89 {a0 : Array Value} {Z : State} (hw : ∀ d ∈ tables_1, d.before a0 Z = true) : (Jvm.Cond.code ({ cls := "com/example/protoloom/protoloom/report/Action$Kind", name := "verb", desc := "()Ljava/lang/String;" } : Jvm.MethodName) prog_29_method_4_code (1 : Nat) (Option.some (Jvm.ClassFile.FieldType.object "java/lang/String"))).before a0 Z = true := hw _ (List.mem_of_getElem? (i := 89) rfl)
theorem tw_90 {a0 : Array Value} {Z : State} (hw : ∀ d ∈ tables_1, d.before a0 Z = true) : (Jvm.Cond.fieldLink "com/example/protoloom/protoloom/report/Action$Kind" (29 : Nat) "com/example/protoloom/protoloom/report/Action$Kind" "verb" "Ljava/lang/String;").before a0 Z = true := hw _ (List.mem_of_getElem? (i := 90) rfl)
theorem tw_92 {a0 : Array Value} {Z : State} (hw : ∀ d ∈ tables_1, d.before a0 Z = true) : (Jvm.Cond.methodLink "com/example/protoloom/protoloom/report/Action" (34 : Nat) ({ cls := "java/lang/StringBuilder", name := "append", desc := "(Ljava/lang/String;)Ljava/lang/StringBuilder;" } : Jvm.MethodName)).before a0 Z = true := hw _ (List.mem_of_getElem? (i := 92) rfl)
theorem tw_93 {a0 : Array Value} {Z : State} (hw : ∀ d ∈ tables_1, d.before a0 Z = true) : (Jvm.Cond.declares ({ cls := "java/lang/StringBuilder", name := "append", desc := "(Ljava/lang/String;)Ljava/lang/StringBuilder;" } : Jvm.MethodName)).before a0 Z = true := hw _ (List.mem_of_getElem? (i := 93) rfl)
theorem tw_94 {a0 : Array Value} {Z : State} (hw : ∀ d ∈ tables_1, d.before a0 Z = true) : (Jvm.Cond.instanceMethod ({ cls := "java/lang/StringBuilder", name := "append", desc := "(Ljava/lang/String;)Ljava/lang/StringBuilder;" } : Jvm.MethodName)).before a0 Z = true := hw _ (List.mem_of_getElem? (i := 94) rfl)
theorem tw_95 {a0 : Array Value} {Z : State} (hw : ∀ d ∈ tables_1, d.before a0 Z = true) : (Jvm.Cond.selects "java/lang/StringBuilder" ({ cls := "java/lang/StringBuilder", name := "append", desc := "(Ljava/lang/String;)Ljava/lang/StringBuilder;" } : Jvm.MethodName) ({ cls := "java/lang/StringBuilder", name := "append", desc := "(Ljava/lang/String;)Ljava/lang/StringBuilder;" } : Jvm.MethodName)).before a0 Z = true := hw _ (List.mem_of_getElem? (i := 95) rfl)
theorem tw_96 {a0 : Array Value} {Z : State} (hw : ∀ d ∈ tables_1, d.before a0 Z = true) : (Jvm.Cond.code ({ cls := "java/lang/StringBuilder", name := "append", desc := "(Ljava/lang/String;)Ljava/lang/StringBuilder;" } : Jvm.MethodName) jdk_67_method_7_code (2 : Nat) (Option.some (Jvm.ClassFile.FieldType.object "java/lang/StringBuilder"))).before a0 Z = true := hw _ (List.mem_of_getElem? (i := 96) rfl)
theorem tw_97 {a0 : Array Value} {Z : State} (hw : ∀ d ∈ tables_1, d.before a0 Z = true) : (Jvm.Cond.methodLink "java/lang/StringBuilder" (29 : Nat) ({ cls := "java/lang/AbstractStringBuilder", name := "append", desc := "(Ljava/lang/String;)Ljava/lang/AbstractStringBuilder;" } : Jvm.MethodName)).before a0 Z = true := hw _ (List.mem_of_getElem? (i := 97) rfl)
theorem tw_98 {a0 : Array Value} {Z : State} (hw : ∀ d ∈ tables_1, d.before a0 Z = true) : (Jvm.Cond.instanceMethod ({ cls := "java/lang/AbstractStringBuilder", name := "append", desc := "(Ljava/lang/String;)Ljava/lang/AbstractStringBuilder;" } : Jvm.MethodName)).before a0 Z = true := hw _ (List.mem_of_getElem? (i := 98) rfl)
theorem tw_99 {a0 : Array Value} {Z : State} (hw : ∀ d ∈ tables_1, d.before a0 Z = true) : (Jvm.Cond.superclass "java/lang/StringBuilder" "java/lang/AbstractStringBuilder").before a0 Z = true := hw _ (List.mem_of_getElem? (i := 99) rfl)
theorem tw_101 {a0 : Array Value} {Z : State} (hw : ∀ d ∈ tables_1, d.before a0 Z = true) : (Jvm.Cond.code ({ cls := "java/lang/AbstractStringBuilder", name := "append", desc := "(Ljava/lang/String;)Ljava/lang/AbstractStringBuilder;" } : Jvm.MethodName) jdk_68_method_22_code (3 : Nat) (Option.some (Jvm.ClassFile.FieldType.object "java/lang/AbstractStringBuilder"))).before a0 Z = true := hw _ (List.mem_of_getElem? (i := 101) rfl)
theorem tw_102 {a0 : Array Value} {Z : State} (hw : ∀ d ∈ tables_1, d.before a0 Z = true) : (Jvm.Cond.methodLink "java/lang/AbstractStringBuilder" (32 : Nat) ({ cls := "java/lang/String", name := "length", desc := "()I" } : Jvm.MethodName)).before a0 Z = true := hw _ (List.mem_of_getElem? (i := 102) rfl)
theorem tw_103 {a0 : Array Value} {Z : State} (hw : ∀ d ∈ tables_1, d.before a0 Z = true) : (Jvm.Cond.declares ({ cls := "java/lang/String", name := "length", desc := "()I" } : Jvm.MethodName)).before a0 Z = true := hw _ (List.mem_of_getElem? (i := 103) rfl)
theorem tw_104 {a0 : Array Value} {Z : State} (hw : ∀ d ∈ tables_1, d.before a0 Z = true) : (Jvm.Cond.instanceMethod ({ cls := "java/lang/String", name := "length", desc := "()I" } : Jvm.MethodName)).before a0 Z = true := hw _ (List.mem_of_getElem? (i := 104) rfl)
theorem tw_105 {a0 : Array Value} {Z : State} (hw : ∀ d ∈ tables_1, d.before a0 Z = true) : (Jvm.Cond.selects "java/lang/String" ({ cls := "java/lang/String", name := "length", desc := "()I" } : Jvm.MethodName) ({ cls := "java/lang/String", name := "length", desc := "()I" } : Jvm.MethodName)).before a0 Z = true := hw _ (List.mem_of_getElem? (i := 105) rfl)
theorem tw_106 {a0 : Array Value} {Z : State} (hw : ∀ d ∈ tables_1, d.before a0 Z = true) : (Jvm.Cond.code ({ cls := "java/lang/String", name := "length", desc := "()I" } : Jvm.MethodName) jdk_42_method_54_code (1 : Nat) (Option.some Jvm.ClassFile.FieldType.int)).before a0 Z = true := hw _ (List.mem_of_getElem? (i := 106) rfl)
theorem tw_107 {a0 : Array Value} {Z : State} (hw : ∀ d ∈ tables_1, d.before a0 Z = true) : (Jvm.Cond.methodLink "java/lang/String" (335 : Nat) ({ cls := "java/lang/String", name := "coder", desc := "()B" } : Jvm.MethodName)).before a0 Z = true := hw _ (List.mem_of_getElem? (i := 107) rfl)
theorem tw_108 {a0 : Array Value} {Z : State} (hw : ∀ d ∈ tables_1, d.before a0 Z = true) : (Jvm.Cond.declares ({ cls := "java/lang/String", name := "coder", desc := "()B" } : Jvm.MethodName)).before a0 Z = true := hw _ (List.mem_of_getElem? (i := 108) rfl)
theorem tw_109 {a0 : Array Value} {Z : State} (hw : ∀ d ∈ tables_1, d.before a0 Z = true) : (Jvm.Cond.instanceMethod ({ cls := "java/lang/String", name := "coder", desc := "()B" } : Jvm.MethodName)).before a0 Z = true := hw _ (List.mem_of_getElem? (i := 109) rfl)
theorem tw_110 {a0 : Array Value} {Z : State} (hw : ∀ d ∈ tables_1, d.before a0 Z = true) : (Jvm.Cond.selects "java/lang/String" ({ cls := "java/lang/String", name := "coder", desc := "()B" } : Jvm.MethodName) ({ cls := "java/lang/String", name := "coder", desc := "()B" } : Jvm.MethodName)).before a0 Z = true := hw _ (List.mem_of_getElem? (i := 110) rfl)
theorem tw_111 {a0 : Array Value} {Z : State} (hw : ∀ d ∈ tables_1, d.before a0 Z = true) : (Jvm.Cond.code ({ cls := "java/lang/String", name := "coder", desc := "()B" } : Jvm.MethodName) jdk_42_method_152_code (1 : Nat) (Option.some Jvm.ClassFile.FieldType.byte)).before a0 Z = true := hw _ (List.mem_of_getElem? (i := 111) rfl)
theorem tw_112 {a0 : Array Value} {Z : State} (hw : ∀ d ∈ tables_1, d.before a0 Z = true) : (Jvm.Cond.fieldLink "java/lang/AbstractStringBuilder" (79 : Nat) "java/lang/AbstractStringBuilder" "count" "I").before a0 Z = true := hw _ (List.mem_of_getElem? (i := 112) rfl)
theorem tw_113 {a0 : Array Value} {Z : State} (hw : ∀ d ∈ tables_1, d.before a0 Z = true) : (Jvm.Cond.lays "java/lang/StringBuilder" "java/lang/AbstractStringBuilder" "count" "I").before a0 Z = true := hw _ (List.mem_of_getElem? (i := 113) rfl)
theorem tw_114 {a0 : Array Value} {Z : State} (hw : ∀ d ∈ tables_1, d.before a0 Z = true) : (Jvm.Cond.methodLink "java/lang/AbstractStringBuilder" (100 : Nat) ({ cls := "java/lang/AbstractStringBuilder", name := "ensureCapacityInternal", desc := "(I)V" } : Jvm.MethodName)).before a0 Z = true := hw _ (List.mem_of_getElem? (i := 114) rfl)
theorem tw_115 {a0 : Array Value} {Z : State} (hw : ∀ d ∈ tables_1, d.before a0 Z = true) : (Jvm.Cond.instanceMethod ({ cls := "java/lang/AbstractStringBuilder", name := "ensureCapacityInternal", desc := "(I)V" } : Jvm.MethodName)).before a0 Z = true := hw _ (List.mem_of_getElem? (i := 115) rfl)
theorem tw_117 {a0 : Array Value} {Z : State} (hw : ∀ d ∈ tables_1, d.before a0 Z = true) : (Jvm.Cond.selects "java/lang/StringBuilder" ({ cls := "java/lang/AbstractStringBuilder", name := "ensureCapacityInternal", desc := "(I)V" } : Jvm.MethodName) ({ cls := "java/lang/AbstractStringBuilder", name := "ensureCapacityInternal", desc := "(I)V" } : Jvm.MethodName)).before a0 Z = true := hw _ (List.mem_of_getElem? (i := 117) rfl)
theorem tw_118 {a0 : Array Value} {Z : State} (hw : ∀ d ∈ tables_1, d.before a0 Z = true) : (Jvm.Cond.code ({ cls := "java/lang/AbstractStringBuilder", name := "ensureCapacityInternal", desc := "(I)V" } : Jvm.MethodName) jdk_68_method_9_code (3 : Nat) (Option.none : Option Jvm.ClassFile.FieldType)).before a0 Z = true := hw _ (List.mem_of_getElem? (i := 118) rfl)
theorem tw_119 {a0 : Array Value} {Z : State} (hw : ∀ d ∈ tables_1, d.before a0 Z = true) : (Jvm.Cond.methodLink "java/lang/AbstractStringBuilder" (208 : Nat) ({ cls := "java/lang/AbstractStringBuilder", name := "putStringAt", desc := "(ILjava/lang/String;)V" } : Jvm.MethodName)).before a0 Z = true := hw _ (List.mem_of_getElem? (i := 119) rfl)
theorem tw_120 {a0 : Array Value} {Z : State} (hw : ∀ d ∈ tables_1, d.before a0 Z = true) : (Jvm.Cond.instanceMethod ({ cls := "java/lang/AbstractStringBuilder", name := "putStringAt", desc := "(ILjava/lang/String;)V" } : Jvm.MethodName)).before a0 Z = true := hw _ (List.mem_of_getElem? (i := 120) rfl)
theorem tw_122 {a0 : Array Value} {Z : State} (hw : ∀ d ∈ tables_1, d.before a0 Z = true) : (Jvm.Cond.selects "java/lang/StringBuilder" ({ cls := "java/lang/AbstractStringBuilder", name := "putStringAt", desc := "(ILjava/lang/String;)V" } : Jvm.MethodName) ({ cls := "java/lang/AbstractStringBuilder", name := "putStringAt", desc := "(ILjava/lang/String;)V" } : Jvm.MethodName)).before a0 Z = true := hw _ (List.mem_of_getElem? (i := 122) rfl)
theorem tw_123 {a0 : Array Value} {Z : State} (hw : ∀ d ∈ tables_1, d.before a0 Z = true) : (Jvm.Cond.code ({ cls := "java/lang/AbstractStringBuilder", name := "putStringAt", desc := "(ILjava/lang/String;)V" } : Jvm.MethodName) jdk_68_method_73_code (3 : Nat) (Option.none : Option Jvm.ClassFile.FieldType)).before a0 Z = true := hw _ (List.mem_of_getElem? (i := 123) rfl)
theorem tw_124 {a0 : Array Value} {Z : State} (hw : ∀ d ∈ tables_1, d.before a0 Z = true) : (Jvm.Cond.methodLink "java/lang/AbstractStringBuilder" (397 : Nat) ({ cls := "java/lang/AbstractStringBuilder", name := "inflateIfNeededFor", desc := "(Ljava/lang/String;)V" } : Jvm.MethodName)).before a0 Z = true := hw _ (List.mem_of_getElem? (i := 124) rfl)
theorem tw_125 {a0 : Array Value} {Z : State} (hw : ∀ d ∈ tables_1, d.before a0 Z = true) : (Jvm.Cond.instanceMethod ({ cls := "java/lang/AbstractStringBuilder", name := "inflateIfNeededFor", desc := "(Ljava/lang/String;)V" } : Jvm.MethodName)).before a0 Z = true := hw _ (List.mem_of_getElem? (i := 125) rfl)
theorem tw_127 {a0 : Array Value} {Z : State} (hw : ∀ d ∈ tables_1, d.before a0 Z = true) : (Jvm.Cond.selects "java/lang/StringBuilder" ({ cls := "java/lang/AbstractStringBuilder", name := "inflateIfNeededFor", desc := "(Ljava/lang/String;)V" } : Jvm.MethodName) ({ cls := "java/lang/AbstractStringBuilder", name := "inflateIfNeededFor", desc := "(Ljava/lang/String;)V" } : Jvm.MethodName)).before a0 Z = true := hw _ (List.mem_of_getElem? (i := 127) rfl)
theorem tw_128 {a0 : Array Value} {Z : State} (hw : ∀ d ∈ tables_1, d.before a0 Z = true) : (Jvm.Cond.code ({ cls := "java/lang/AbstractStringBuilder", name := "inflateIfNeededFor", desc := "(Ljava/lang/String;)V" } : Jvm.MethodName) jdk_68_method_71_code (2 : Nat) (Option.none : Option Jvm.ClassFile.FieldType)).before a0 Z = true := hw _ (List.mem_of_getElem? (i := 128) rfl)
theorem tw_129 {a0 : Array Value} {Z : State} (hw : ∀ d ∈ tables_1, d.before a0 Z = true) : (Jvm.Cond.methodLink "java/lang/AbstractStringBuilder" (40 : Nat) ({ cls := "java/lang/String", name := "coder", desc := "()B" } : Jvm.MethodName)).before a0 Z = true := hw _ (List.mem_of_getElem? (i := 129) rfl)
theorem tw_130 {a0 : Array Value} {Z : State} (hw : ∀ d ∈ tables_1, d.before a0 Z = true) : (Jvm.Cond.methodLink "java/lang/AbstractStringBuilder" (399 : Nat) ({ cls := "java/lang/String", name := "getBytes", desc := "([BIB)V" } : Jvm.MethodName)).before a0 Z = true := hw _ (List.mem_of_getElem? (i := 130) rfl)
theorem tw_131 {a0 : Array Value} {Z : State} (hw : ∀ d ∈ tables_1, d.before a0 Z = true) : (Jvm.Cond.declares ({ cls := "java/lang/String", name := "getBytes", desc := "([BIB)V" } : Jvm.MethodName)).before a0 Z = true := hw _ (List.mem_of_getElem? (i := 131) rfl)
theorem tw_132 {a0 : Array Value} {Z : State} (hw : ∀ d ∈ tables_1, d.before a0 Z = true) : (Jvm.Cond.instanceMethod ({ cls := "java/lang/String", name := "getBytes", desc := "([BIB)V" } : Jvm.MethodName)).before a0 Z = true := hw _ (List.mem_of_getElem? (i := 132) rfl)
theorem tw_133 {a0 : Array Value} {Z : State} (hw : ∀ d ∈ tables_1, d.before a0 Z = true) : (Jvm.Cond.selects "java/lang/String" ({ cls := "java/lang/String", name := "getBytes", desc := "([BIB)V" } : Jvm.MethodName) ({ cls := "java/lang/String", name := "getBytes", desc := "([BIB)V" } : Jvm.MethodName)).before a0 Z = true := hw _ (List.mem_of_getElem? (i := 133) rfl)
theorem tw_134 {a0 : Array Value} {Z : State} (hw : ∀ d ∈ tables_1, d.before a0 Z = true) : (Jvm.Cond.code ({ cls := "java/lang/String", name := "getBytes", desc := "([BIB)V" } : Jvm.MethodName) jdk_42_method_147_code (4 : Nat) (Option.none : Option Jvm.ClassFile.FieldType)).before a0 Z = true := hw _ (List.mem_of_getElem? (i := 134) rfl)
theorem tw_135 {a0 : Array Value} {Z : State} (hw : ∀ d ∈ tables_1, d.before a0 Z = true) : (Jvm.Cond.methodLink "java/lang/String" (212 : Nat) ({ cls := "java/lang/System", name := "arraycopy", desc := "(Ljava/lang/Object;ILjava/lang/Object;II)V" } : Jvm.MethodName)).before a0 Z = true := hw _ (List.mem_of_getElem? (i := 135) rfl)
theorem tw_136 {a0 : Array Value} {Z : State} (hw : ∀ d ∈ tables_1, d.before a0 Z = true) : (Jvm.Cond.static ({ cls := "java/lang/System", name := "arraycopy", desc := "(Ljava/lang/Object;ILjava/lang/Object;II)V" } : Jvm.MethodName)).before a0 Z = true := hw _ (List.mem_of_getElem? (i := 136) rfl)
theorem tw_137 {a0 : Array Value} {Z : State} (hw : ∀ d ∈ tables_1, d.before a0 Z = true) : (Jvm.Cond.initialized "java/lang/System").before a0 Z = true := hw _ (List.mem_of_getElem? (i := 137) rfl)
theorem tw_138 {a0 : Array Value} {Z : State} (hw : ∀ d ∈ tables_1, d.before a0 Z = true) : (Jvm.Cond.native ({ cls := "java/lang/System", name := "arraycopy", desc := "(Ljava/lang/Object;ILjava/lang/Object;II)V" } : Jvm.MethodName)).before a0 Z = true := hw _ (List.mem_of_getElem? (i := 138) rfl)
theorem tw_140 {a0 : Array Value} {Z : State} (hw : ∀ d ∈ tables_1, d.before a0 Z = true) : (Jvm.Cond.methodLink "com/example/protoloom/protoloom/report/Action" (40 : Nat) ({ cls := "java/lang/StringBuilder", name := "toString", desc := "()Ljava/lang/String;" } : Jvm.MethodName)).before a0 Z = true := hw _ (List.mem_of_getElem? (i := 140) rfl)
theorem tw_141 {a0 : Array Value} {Z : State} (hw : ∀ d ∈ tables_1, d.before a0 Z = true) : (Jvm.Cond.declares ({ cls := "java/lang/StringBuilder", name := "toString", desc := "()Ljava/lang/String;" } : Jvm.MethodName)).before a0 Z = true := hw _ (List.mem_of_getElem? (i := 141) rfl)
theorem tw_142 {a0 : Array Value} {Z : State} (hw : ∀ d ∈ tables_1, d.before a0 Z = true) : (Jvm.Cond.instanceMethod ({ cls := "java/lang/StringBuilder", name := "toString", desc := "()Ljava/lang/String;" } : Jvm.MethodName)).before a0 Z = true := hw _ (List.mem_of_getElem? (i := 142) rfl)
theorem tw_143 {a0 : Array Value} {Z : State} (hw : ∀ d ∈ tables_1, d.before a0 Z = true) : (Jvm.Cond.selects "java/lang/StringBuilder" ({ cls := "java/lang/StringBuilder", name := "toString", desc := "()Ljava/lang/String;" } : Jvm.MethodName) ({ cls := "java/lang/StringBuilder", name := "toString", desc := "()Ljava/lang/String;" } : Jvm.MethodName)).before a0 Z = true := hw _ (List.mem_of_getElem? (i := 143) rfl)
theorem tw_144 {a0 : Array Value} {Z : State} (hw : ∀ d ∈ tables_1, d.before a0 Z = true) : (Jvm.Cond.code ({ cls := "java/lang/StringBuilder", name := "toString", desc := "()Ljava/lang/String;" } : Jvm.MethodName) jdk_67_method_42_code (1 : Nat) (Option.some (Jvm.ClassFile.FieldType.object "java/lang/String"))).before a0 Z = true := hw _ (List.mem_of_getElem? (i := 144) rfl)
theorem tw_145 {a0 : Array Value} {Z : State} (hw : ∀ d ∈ tables_1, d.before a0 Z = true) : (Jvm.Cond.classLink "java/lang/StringBuilder" (18 : Nat) "java/lang/String").before a0 Z = true := hw _ (List.mem_of_getElem? (i := 145) rfl)
theorem tw_146 {a0 : Array Value} {Z : State} (hw : ∀ d ∈ tables_1, d.before a0 Z = true) : (Jvm.Cond.methodLink "java/lang/StringBuilder" (137 : Nat) ({ cls := "java/lang/String", name := "<init>", desc := "(Ljava/lang/StringBuilder;)V" } : Jvm.MethodName)).before a0 Z = true := hw _ (List.mem_of_getElem? (i := 146) rfl)
theorem tw_147 {a0 : Array Value} {Z : State} (hw : ∀ d ∈ tables_1, d.before a0 Z = true) : (Jvm.Cond.instanceMethod ({ cls := "java/lang/String", name := "<init>", desc := "(Ljava/lang/StringBuilder;)V" } : Jvm.MethodName)).before a0 Z = true := hw _ (List.mem_of_getElem? (i := 147) rfl)
theorem tw_148 {a0 : Array Value} {Z : State} (hw : ∀ d ∈ tables_1, d.before a0 Z = true) : (Jvm.Cond.code ({ cls := "java/lang/String", name := "<init>", desc := "(Ljava/lang/StringBuilder;)V" } : Jvm.MethodName) jdk_42_method_53_code (2 : Nat) (Option.none : Option Jvm.ClassFile.FieldType)).before a0 Z = true := hw _ (List.mem_of_getElem? (i := 148) rfl)
theorem tw_149 {a0 : Array Value} {Z : State} (hw : ∀ d ∈ tables_1, d.before a0 Z = true) : (Jvm.Cond.methodLink "java/lang/String" (489 : Nat) ({ cls := "java/lang/String", name := "<init>", desc := "(Ljava/lang/AbstractStringBuilder;Ljava/lang/Void;)V" } : Jvm.MethodName)).before a0 Z = true := hw _ (List.mem_of_getElem? (i := 149) rfl)
theorem tw_150 {a0 : Array Value} {Z : State} (hw : ∀ d ∈ tables_1, d.before a0 Z = true) : (Jvm.Cond.instanceMethod ({ cls := "java/lang/String", name := "<init>", desc := "(Ljava/lang/AbstractStringBuilder;Ljava/lang/Void;)V" } : Jvm.MethodName)).before a0 Z = true := hw _ (List.mem_of_getElem? (i := 150) rfl)
theorem tw_151 {a0 : Array Value} {Z : State} (hw : ∀ d ∈ tables_1, d.before a0 Z = true) : (Jvm.Cond.code ({ cls := "java/lang/String", name := "<init>", desc := "(Ljava/lang/AbstractStringBuilder;Ljava/lang/Void;)V" } : Jvm.MethodName) jdk_42_method_150_code (5 : Nat) (Option.none : Option Jvm.ClassFile.FieldType)).before a0 Z = true := hw _ (List.mem_of_getElem? (i := 151) rfl)
theorem tw_152 {a0 : Array Value} {Z : State} (hw : ∀ d ∈ tables_1, d.before a0 Z = true) : (Jvm.Cond.methodLink "java/lang/String" (552 : Nat) ({ cls := "java/lang/AbstractStringBuilder", name := "getValue", desc := "()[B" } : Jvm.MethodName)).before a0 Z = true := hw _ (List.mem_of_getElem? (i := 152) rfl)
theorem tw_153 {a0 : Array Value} {Z : State} (hw : ∀ d ∈ tables_1, d.before a0 Z = true) : (Jvm.Cond.declares ({ cls := "java/lang/AbstractStringBuilder", name := "getValue", desc := "()[B" } : Jvm.MethodName)).before a0 Z = true := hw _ (List.mem_of_getElem? (i := 153) rfl)
theorem tw_154 {a0 : Array Value} {Z : State} (hw : ∀ d ∈ tables_1, d.before a0 Z = true) : (Jvm.Cond.instanceMethod ({ cls := "java/lang/AbstractStringBuilder", name := "getValue", desc := "()[B" } : Jvm.MethodName)).before a0 Z = true := hw _ (List.mem_of_getElem? (i := 154) rfl)
theorem tw_155 {a0 : Array Value} {Z : State} (hw : ∀ d ∈ tables_1, d.before a0 Z = true) : (Jvm.Cond.selects "java/lang/StringBuilder" ({ cls := "java/lang/AbstractStringBuilder", name := "getValue", desc := "()[B" } : Jvm.MethodName) ({ cls := "java/lang/AbstractStringBuilder", name := "getValue", desc := "()[B" } : Jvm.MethodName)).before a0 Z = true := hw _ (List.mem_of_getElem? (i := 155) rfl)
theorem tw_156 {a0 : Array Value} {Z : State} (hw : ∀ d ∈ tables_1, d.before a0 Z = true) : (Jvm.Cond.code ({ cls := "java/lang/AbstractStringBuilder", name := "getValue", desc := "()[B" } : Jvm.MethodName) jdk_68_method_64_code (1 : Nat) (Option.some (Jvm.ClassFile.FieldType.array Jvm.ClassFile.FieldType.byte))).before a0 Z = true := hw _ (List.mem_of_getElem? (i := 156) rfl)
theorem tw_157 {a0 : Array Value} {Z : State} (hw : ∀ d ∈ tables_1, d.before a0 Z = true) : (Jvm.Cond.methodLink "java/lang/String" (549 : Nat) ({ cls := "java/lang/AbstractStringBuilder", name := "length", desc := "()I" } : Jvm.MethodName)).before a0 Z = true := hw _ (List.mem_of_getElem? (i := 157) rfl)
theorem tw_158 {a0 : Array Value} {Z : State} (hw : ∀ d ∈ tables_1, d.before a0 Z = true) : (Jvm.Cond.declares ({ cls := "java/lang/AbstractStringBuilder", name := "length", desc := "()I" } : Jvm.MethodName)).before a0 Z = true := hw _ (List.mem_of_getElem? (i := 158) rfl)
theorem tw_159 {a0 : Array Value} {Z : State} (hw : ∀ d ∈ tables_1, d.before a0 Z = true) : (Jvm.Cond.instanceMethod ({ cls := "java/lang/AbstractStringBuilder", name := "length", desc := "()I" } : Jvm.MethodName)).before a0 Z = true := hw _ (List.mem_of_getElem? (i := 159) rfl)
theorem tw_160 {a0 : Array Value} {Z : State} (hw : ∀ d ∈ tables_1, d.before a0 Z = true) : (Jvm.Cond.selects "java/lang/StringBuilder" ({ cls := "java/lang/AbstractStringBuilder", name := "length", desc := "()I" } : Jvm.MethodName) ({ cls := "java/lang/StringBuilder", name := "length", desc := "()I" } : Jvm.MethodName)).before a0 Z = true := hw _ (List.mem_of_getElem? (i := 160) rfl)
theorem tw_161 {a0 : Array Value} {Z : State} (hw : ∀ d ∈ tables_1, d.before a0 Z = true) : (Jvm.Cond.instanceMethod ({ cls := "java/lang/StringBuilder", name := "length", desc := "()I" } : Jvm.MethodName)).before a0 Z = true := hw _ (List.mem_of_getElem? (i := 161) rfl)
theorem tw_162 {a0 : Array Value} {Z : State} (hw : ∀ d ∈ tables_1, d.before a0 Z = true) : (Jvm.Cond.code ({ cls := "java/lang/StringBuilder", name := "length", desc := "()I" } : Jvm.MethodName) jdk_67_method_93_code (1 : Nat) (Option.some Jvm.ClassFile.FieldType.int)).before a0 Z = true := hw _ (List.mem_of_getElem? (i := 162) rfl)
theorem tw_163 {a0 : Array Value} {Z : State} (hw : ∀ d ∈ tables_1, d.before a0 Z = true) : (Jvm.Cond.methodLink "java/lang/StringBuilder" (343 : Nat) ({ cls := "java/lang/AbstractStringBuilder", name := "length", desc := "()I" } : Jvm.MethodName)).before a0 Z = true := hw _ (List.mem_of_getElem? (i := 163) rfl)
theorem tw_164 {a0 : Array Value} {Z : State} (hw : ∀ d ∈ tables_1, d.before a0 Z = true) : (Jvm.Cond.code ({ cls := "java/lang/AbstractStringBuilder", name := "length", desc := "()I" } : Jvm.MethodName) jdk_68_method_6_code (1 : Nat) (Option.some Jvm.ClassFile.FieldType.int)).before a0 Z = true := hw _ (List.mem_of_getElem? (i := 164) rfl)
theorem tw_165 {a0 : Array Value} {Z : State} (hw : ∀ d ∈ tables_1, d.before a0 Z = true) : (Jvm.Cond.methodLink "java/lang/String" (1047 : Nat) ({ cls := "java/lang/AbstractStringBuilder", name := "isLatin1", desc := "()Z" } : Jvm.MethodName)).before a0 Z = true := hw _ (List.mem_of_getElem? (i := 165) rfl)
theorem tw_166 {a0 : Array Value} {Z : State} (hw : ∀ d ∈ tables_1, d.before a0 Z = true) : (Jvm.Cond.declares ({ cls := "java/lang/AbstractStringBuilder", name := "isLatin1", desc := "()Z" } : Jvm.MethodName)).before a0 Z = true := hw _ (List.mem_of_getElem? (i := 166) rfl)
theorem tw_167 {a0 : Array Value} {Z : State} (hw : ∀ d ∈ tables_1, d.before a0 Z = true) : (Jvm.Cond.instanceMethod ({ cls := "java/lang/AbstractStringBuilder", name := "isLatin1", desc := "()Z" } : Jvm.MethodName)).before a0 Z = true := hw _ (List.mem_of_getElem? (i := 167) rfl)
theorem tw_168 {a0 : Array Value} {Z : State} (hw : ∀ d ∈ tables_1, d.before a0 Z = true) : (Jvm.Cond.selects "java/lang/StringBuilder" ({ cls := "java/lang/AbstractStringBuilder", name := "isLatin1", desc := "()Z" } : Jvm.MethodName) ({ cls := "java/lang/AbstractStringBuilder", name := "isLatin1", desc := "()Z" } : Jvm.MethodName)).before a0 Z = true := hw _ (List.mem_of_getElem? (i := 168) rfl)
theorem tw_169 {a0 : Array Value} {Z : State} (hw : ∀ d ∈ tables_1, d.before a0 Z = true) : (Jvm.Cond.code ({ cls := "java/lang/AbstractStringBuilder", name := "isLatin1", desc := "()Z" } : Jvm.MethodName) jdk_68_method_68_code (1 : Nat) (Option.some Jvm.ClassFile.FieldType.boolean)).before a0 Z = true := hw _ (List.mem_of_getElem? (i := 169) rfl)
theorem tw_170 {a0 : Array Value} {Z : State} (hw : ∀ d ∈ tables_1, d.before a0 Z = true) : (Jvm.Cond.methodLink "java/lang/String" (54 : Nat) ({ cls := "java/util/Arrays", name := "copyOfRange", desc := "([BII)[B" } : Jvm.MethodName)).before a0 Z = true := hw _ (List.mem_of_getElem? (i := 170) rfl)
theorem tw_171 {a0 : Array Value} {Z : State} (hw : ∀ d ∈ tables_1, d.before a0 Z = true) : (Jvm.Cond.static ({ cls := "java/util/Arrays", name := "copyOfRange", desc := "([BII)[B" } : Jvm.MethodName)).before a0 Z = true := hw _ (List.mem_of_getElem? (i := 171) rfl)
theorem tw_172 {a0 : Array Value} {Z : State} (hw : ∀ d ∈ tables_1, d.before a0 Z = true) : (Jvm.Cond.initialized "java/util/Arrays").before a0 Z = true := hw _ (List.mem_of_getElem? (i := 172) rfl)
theorem tw_173 {a0 : Array Value} {Z : State} (hw : ∀ d ∈ tables_1, d.before a0 Z = true) : (Jvm.Cond.code ({ cls := "java/util/Arrays", name := "copyOfRange", desc := "([BII)[B" } : Jvm.MethodName) jdk_65_method_132_code (3 : Nat) (Option.some (Jvm.ClassFile.FieldType.array Jvm.ClassFile.FieldType.byte))).before a0 Z = true := hw _ (List.mem_of_getElem? (i := 173) rfl)
theorem tw_174 {a0 : Array Value} {Z : State} (hw : ∀ d ∈ tables_1, d.before a0 Z = true) : (Jvm.Cond.methodLink "java/util/Arrays" (339 : Nat) ({ cls := "java/util/Arrays", name := "copyOfRangeByte", desc := "([BII)[B" } : Jvm.MethodName)).before a0 Z = true := hw _ (List.mem_of_getElem? (i := 174) rfl)
theorem tw_175 {a0 : Array Value} {Z : State} (hw : ∀ d ∈ tables_1, d.before a0 Z = true) : (Jvm.Cond.static ({ cls := "java/util/Arrays", name := "copyOfRangeByte", desc := "([BII)[B" } : Jvm.MethodName)).before a0 Z = true := hw _ (List.mem_of_getElem? (i := 175) rfl)
theorem tw_176 {a0 : Array Value} {Z : State} (hw : ∀ d ∈ tables_1, d.before a0 Z = true) : (Jvm.Cond.code ({ cls := "java/util/Arrays", name := "copyOfRangeByte", desc := "([BII)[B" } : Jvm.MethodName) jdk_65_method_133_code (5 : Nat) (Option.some (Jvm.ClassFile.FieldType.array Jvm.ClassFile.FieldType.byte))).before a0 Z = true := hw _ (List.mem_of_getElem? (i := 176) rfl)
theorem tw_177 {a0 : Array Value} {Z : State} (hw : ∀ d ∈ tables_1, d.before a0 Z = true) : (Jvm.Cond.methodLink "java/util/Arrays" (343 : Nat) ({ cls := "java/util/Arrays", name := "checkLength", desc := "(II)V" } : Jvm.MethodName)).before a0 Z = true := hw _ (List.mem_of_getElem? (i := 177) rfl)
theorem tw_178 {a0 : Array Value} {Z : State} (hw : ∀ d ∈ tables_1, d.before a0 Z = true) : (Jvm.Cond.static ({ cls := "java/util/Arrays", name := "checkLength", desc := "(II)V" } : Jvm.MethodName)).before a0 Z = true := hw _ (List.mem_of_getElem? (i := 178) rfl)
theorem tw_179 {a0 : Array Value} {Z : State} (hw : ∀ d ∈ tables_1, d.before a0 Z = true) : (Jvm.Cond.code ({ cls := "java/util/Arrays", name := "checkLength", desc := "(II)V" } : Jvm.MethodName) jdk_65_method_131_code (2 : Nat) (Option.none : Option Jvm.ClassFile.FieldType)).before a0 Z = true := hw _ (List.mem_of_getElem? (i := 179) rfl)
theorem tw_180 {a0 : Array Value} {Z : State} (hw : ∀ d ∈ tables_1, d.before a0 Z = true) : (Jvm.Cond.methodLink "java/util/Arrays" (304 : Nat) ({ cls := "java/lang/Math", name := "min", desc := "(II)I" } : Jvm.MethodName)).before a0 Z = true := hw _ (List.mem_of_getElem? (i := 180) rfl)
theorem tw_181 {a0 : Array Value} {Z : State} (hw : ∀ d ∈ tables_1, d.before a0 Z = true) : (Jvm.Cond.static ({ cls := "java/lang/Math", name := "min", desc := "(II)I" } : Jvm.MethodName)).before a0 Z = true := hw _ (List.mem_of_getElem? (i := 181) rfl)
theorem tw_182 {a0 : Array Value} {Z : State} (hw : ∀ d ∈ tables_1, d.before a0 Z = true) : (Jvm.Cond.initialized "java/lang/Math").before a0 Z = true := hw _ (List.mem_of_getElem? (i := 182) rfl)
theorem tw_183 {a0 : Array Value} {Z : State} (hw : ∀ d ∈ tables_1, d.before a0 Z = true) : (Jvm.Cond.code ({ cls := "java/lang/Math", name := "min", desc := "(II)I" } : Jvm.MethodName) jdk_29_method_69_code (2 : Nat) (Option.some Jvm.ClassFile.FieldType.int)).before a0 Z = true := hw _ (List.mem_of_getElem? (i := 183) rfl)
theorem tw_184 {a0 : Array Value} {Z : State} (hw : ∀ d ∈ tables_1, d.before a0 Z = true) : (Jvm.Cond.methodLink "java/util/Arrays" (150 : Nat) ({ cls := "java/lang/System", name := "arraycopy", desc := "(Ljava/lang/Object;ILjava/lang/Object;II)V" } : Jvm.MethodName)).before a0 Z = true := hw _ (List.mem_of_getElem? (i := 184) rfl)
theorem tw_185 {a0 : Array Value} {Z : State} (hw : ∀ d ∈ tables_1, d.before a0 Z = true) : (Jvm.Cond.methodLink "com/example/protoloom/protoloom/report/ActionToStringPinLaw" (32 : Nat) ({ cls := "java/lang/String", name := "length", desc := "()I" } : Jvm.MethodName)).before a0 Z = true := hw _ (List.mem_of_getElem? (i := 185) rfl)
theorem tw_186 {a0 : Array Value} {Z : State} (hw : ∀ d ∈ tables_1, d.before a0 Z = true) : (Jvm.Cond.methodLink "com/example/protoloom/protoloom/report/ActionToStringPinLaw" (38 : Nat) ({ cls := "java/lang/String", name := "charAt", desc := "(I)C" } : Jvm.MethodName)).before a0 Z = true := hw _ (List.mem_of_getElem? (i := 186) rfl)
theorem tw_187 {a0 : Array Value} {Z : State} (hw : ∀ d ∈ tables_1, d.before a0 Z = true) : (Jvm.Cond.declares ({ cls := "java/lang/String", name := "charAt", desc := "(I)C" } : Jvm.MethodName)).before a0 Z = true := hw _ (List.mem_of_getElem? (i := 187) rfl)
theorem tw_188 {a0 : Array Value} {Z : State} (hw : ∀ d ∈ tables_1, d.before a0 Z = true) : (Jvm.Cond.instanceMethod ({ cls := "java/lang/String", name := "charAt", desc := "(I)C" } : Jvm.MethodName)).before a0 Z = true := hw _ (List.mem_of_getElem? (i := 188) rfl)
theorem tw_189 {a0 : Array Value} {Z : State} (hw : ∀ d ∈ tables_1, d.before a0 Z = true) : (Jvm.Cond.selects "java/lang/String" ({ cls := "java/lang/String", name := "charAt", desc := "(I)C" } : Jvm.MethodName) ({ cls := "java/lang/String", name := "charAt", desc := "(I)C" } : Jvm.MethodName)).before a0 Z = true := hw _ (List.mem_of_getElem? (i := 189) rfl)
theorem tw_190 {a0 : Array Value} {Z : State} (hw : ∀ d ∈ tables_1, d.before a0 Z = true) : (Jvm.Cond.code ({ cls := "java/lang/String", name := "charAt", desc := "(I)C" } : Jvm.MethodName) jdk_42_method_56_code (2 : Nat) (Option.some Jvm.ClassFile.FieldType.char)).before a0 Z = true := hw _ (List.mem_of_getElem? (i := 190) rfl)
theorem tw_191 {a0 : Array Value} {Z : State} (hw : ∀ d ∈ tables_1, d.before a0 Z = true) : (Jvm.Cond.methodLink "java/lang/String" (492 : Nat) ({ cls := "java/lang/String", name := "isLatin1", desc := "()Z" } : Jvm.MethodName)).before a0 Z = true := hw _ (List.mem_of_getElem? (i := 191) rfl)
theorem tw_192 {a0 : Array Value} {Z : State} (hw : ∀ d ∈ tables_1, d.before a0 Z = true) : (Jvm.Cond.declares ({ cls := "java/lang/String", name := "isLatin1", desc := "()Z" } : Jvm.MethodName)).before a0 Z = true := hw _ (List.mem_of_getElem? (i := 192) rfl)
theorem tw_193 {a0 : Array Value} {Z : State} (hw : ∀ d ∈ tables_1, d.before a0 Z = true) : (Jvm.Cond.instanceMethod ({ cls := "java/lang/String", name := "isLatin1", desc := "()Z" } : Jvm.MethodName)).before a0 Z = true := hw _ (List.mem_of_getElem? (i := 193) rfl)
theorem tw_194 {a0 : Array Value} {Z : State} (hw : ∀ d ∈ tables_1, d.before a0 Z = true) : (Jvm.Cond.selects "java/lang/String" ({ cls := "java/lang/String", name := "isLatin1", desc := "()Z" } : Jvm.MethodName) ({ cls := "java/lang/String", name := "isLatin1", desc := "()Z" } : Jvm.MethodName)).before a0 Z = true := hw _ (List.mem_of_getElem? (i := 194) rfl)
theorem tw_195 {a0 : Array Value} {Z : State} (hw : ∀ d ∈ tables_1, d.before a0 Z = true) : (Jvm.Cond.code ({ cls := "java/lang/String", name := "isLatin1", desc := "()Z" } : Jvm.MethodName) jdk_42_method_154_code (1 : Nat) (Option.some Jvm.ClassFile.FieldType.boolean)).before a0 Z = true := hw _ (List.mem_of_getElem? (i := 195) rfl)
theorem tw_196 {a0 : Array Value} {Z : State} (hw : ∀ d ∈ tables_1, d.before a0 Z = true) : (Jvm.Cond.methodLink "java/lang/String" (495 : Nat) ({ cls := "java/lang/StringLatin1", name := "charAt", desc := "([BI)C" } : Jvm.MethodName)).before a0 Z = true := hw _ (List.mem_of_getElem? (i := 196) rfl)
theorem tw_197 {a0 : Array Value} {Z : State} (hw : ∀ d ∈ tables_1, d.before a0 Z = true) : (Jvm.Cond.static ({ cls := "java/lang/StringLatin1", name := "charAt", desc := "([BI)C" } : Jvm.MethodName)).before a0 Z = true := hw _ (List.mem_of_getElem? (i := 197) rfl)
theorem tw_198 {a0 : Array Value} {Z : State} (hw : ∀ d ∈ tables_1, d.before a0 Z = true) : (Jvm.Cond.initialized "java/lang/StringLatin1").before a0 Z = true := hw _ (List.mem_of_getElem? (i := 198) rfl)
theorem tw_199 {a0 : Array Value} {Z : State} (hw : ∀ d ∈ tables_1, d.before a0 Z = true) : (Jvm.Cond.code ({ cls := "java/lang/StringLatin1", name := "charAt", desc := "([BI)C" } : Jvm.MethodName) jdk_43_method_2_code (2 : Nat) (Option.some Jvm.ClassFile.FieldType.char)).before a0 Z = true := hw _ (List.mem_of_getElem? (i := 199) rfl)
theorem tw_200 {a0 : Array Value} {Z : State} (hw : ∀ d ∈ tables_1, d.before a0 Z = true) : (Jvm.Cond.methodLink "java/lang/StringLatin1" (9 : Nat) ({ cls := "java/lang/String", name := "checkIndex", desc := "(II)V" } : Jvm.MethodName)).before a0 Z = true := hw _ (List.mem_of_getElem? (i := 200) rfl)
theorem tw_201 {a0 : Array Value} {Z : State} (hw : ∀ d ∈ tables_1, d.before a0 Z = true) : (Jvm.Cond.static ({ cls := "java/lang/String", name := "checkIndex", desc := "(II)V" } : Jvm.MethodName)).before a0 Z = true := hw _ (List.mem_of_getElem? (i := 201) rfl)
theorem tw_202 {a0 : Array Value} {Z : State} (hw : ∀ d ∈ tables_1, d.before a0 Z = true) : (Jvm.Cond.code ({ cls := "java/lang/String", name := "checkIndex", desc := "(II)V" } : Jvm.MethodName) jdk_42_method_155_code (2 : Nat) (Option.none : Option Jvm.ClassFile.FieldType)).before a0 Z = true := hw _ (List.mem_of_getElem? (i := 202) rfl)
theorem tw_203 {a0 : Array Value} {Z : State} (hw : ∀ d ∈ tables_1, d.before a0 Z = true) : (Jvm.Cond.fieldLink "java/lang/String" (1053 : Nat) "jdk/internal/util/Preconditions" "SIOOBE_FORMATTER" "Ljava/util/function/BiFunction;").before a0 Z = true := hw _ (List.mem_of_getElem? (i := 203) rfl)
theorem tw_204 {a0 : Array Value} {Z : State} (hw : ∀ d ∈ tables_1, d.before a0 Z = true) : (Jvm.Cond.initialized "jdk/internal/util/Preconditions").before a0 Z = true := hw _ (List.mem_of_getElem? (i := 204) rfl)
theorem tw_205 {a0 : Array Value} {Z : State} (hw : ∀ d ∈ tables_1, d.before a0 Z = true) : (Jvm.Cond.methodLink "java/lang/String" (1059 : Nat) ({ cls := "jdk/internal/util/Preconditions", name := "checkIndex", desc := "(IILjava/util/function/BiFunction;)I" } : Jvm.MethodName)).before a0 Z = true := hw _ (List.mem_of_getElem? (i := 205) rfl)
theorem tw_206 {a0 : Array Value} {Z : State} (hw : ∀ d ∈ tables_1, d.before a0 Z = true) : (Jvm.Cond.static ({ cls := "jdk/internal/util/Preconditions", name := "checkIndex", desc := "(IILjava/util/function/BiFunction;)I" } : Jvm.MethodName)).before a0 Z = true := hw _ (List.mem_of_getElem? (i := 206) rfl)
theorem tw_207 {a0 : Array Value} {Z : State} (hw : ∀ d ∈ tables_1, d.before a0 Z = true) : (Jvm.Cond.code ({ cls := "jdk/internal/util/Preconditions", name := "checkIndex", desc := "(IILjava/util/function/BiFunction;)I" } : Jvm.MethodName) jdk_41_method_11_code (3 : Nat) (Option.some Jvm.ClassFile.FieldType.int)).before a0 Z = true := hw _ (List.mem_of_getElem? (i := 207) rfl)
theorem tw_208 {a0 : Array Value} {Z : State} (hw : ∀ d ∈ tables_1, d.before a0 Z = true) : (Jvm.Cond.fieldLink "com/example/protoloom/protoloom/report/ActionToStringPinLaw" (7 : Nat) "com/example/protoloom/protoloom/report/Action$Kind" "SEND" "Lcom/example/protoloom/protoloom/report/Action$Kind;").before a0 Z = true := hw _ (List.mem_of_getElem? (i := 208) rfl)
theorem tw_209 {a0 : Array Value} {Z : State} (hw : ∀ d ∈ tables_1, d.before a0 Z = true) : (Jvm.Cond.laysStatic "com/example/protoloom/protoloom/report/Action$Kind" "SEND" "Lcom/example/protoloom/protoloom/report/Action$Kind;").before a0 Z = true := hw _ (List.mem_of_getElem? (i := 209) rfl)
theorem pd_0 : parseMethodDescriptor "([CI[BII)I" = some ⟨[(.array .char), .int, (.array .byte), .int, .int], some .int⟩ := by decide +kernel
theorem pd_1 : parseMethodDescriptor "([CII)[B" = some ⟨[(.array .char), .int, .int], some (.array .byte)⟩ := by decide +kernel
theorem pd_2 : parseMethodDescriptor "([BI)B" = some ⟨[(.array .byte), .int], some .byte⟩ := by decide +kernel
theorem pd_3 : parseMethodDescriptor "([CIILjava/lang/Void;)V" = some ⟨[(.array .char), .int, .int, (.object "java/lang/Void")], none⟩ := by decide +kernel
theorem pd_4 : parseMethodDescriptor "()B" = some ⟨[], some .byte⟩ := by decide +kernel
theorem pd_5 : parseMethodDescriptor "(IILjava/util/function/BiFunction;)I" = some ⟨[.int, .int, (.object "java/util/function/BiFunction")], some .int⟩ := by decide +kernel
theorem pd_6 : parseMethodDescriptor "(II)V" = some ⟨[.int, .int], none⟩ := by decide +kernel
theorem pd_7 : parseMethodDescriptor "()Z" = some ⟨[], some .boolean⟩ := by decide +kernel
theorem pd_8 : parseMethodDescriptor "([BI)C" = some ⟨[(.array .byte), .int], some .char⟩ := by decide +kernel
theorem pd_9 : parseMethodDescriptor "(II)I" = some ⟨[.int, .int], some .int⟩ := by decide +kernel
theorem pd_10 : parseMethodDescriptor "([BII)[B" = some ⟨[(.array .byte), .int, .int], some (.array .byte)⟩ := by decide +kernel
theorem pd_11 : parseMethodDescriptor "(I)V" = some ⟨[.int], none⟩ := by decide +kernel
theorem pd_12 : parseMethodDescriptor "(Ljava/lang/String;)V" = some ⟨[(.object "java/lang/String")], none⟩ := by decide +kernel
theorem pd_13 : parseMethodDescriptor "([BIB)V" = some ⟨[(.array .byte), .int, .byte], none⟩ := by decide +kernel
theorem pd_14 : parseMethodDescriptor "()I" = some ⟨[], some .int⟩ := by decide +kernel
theorem pd_15 : parseMethodDescriptor "(ILjava/lang/String;)V" = some ⟨[.int, (.object "java/lang/String")], none⟩ := by decide +kernel
theorem pd_16 : parseMethodDescriptor "(Ljava/lang/String;)Ljava/lang/AbstractStringBuilder;" = some ⟨[(.object "java/lang/String")], some (.object "java/lang/AbstractStringBuilder")⟩ := by decide +kernel
theorem pd_17 : parseMethodDescriptor "()[B" = some ⟨[], some (.array .byte)⟩ := by decide +kernel
theorem pd_18 : parseMethodDescriptor "(Ljava/lang/AbstractStringBuilder;Ljava/lang/Void;)V" = some ⟨[(.object "java/lang/AbstractStringBuilder"), (.object "java/lang/Void")], none⟩ := by decide +kernel
theorem pd_19 : parseMethodDescriptor "(Ljava/lang/StringBuilder;)V" = some ⟨[(.object "java/lang/StringBuilder")], none⟩ := by decide +kernel
theorem pd_20 : parseMethodDescriptor "([C)V" = some ⟨[(.array .char)], none⟩ := by decide +kernel
theorem pd_21 : parseMethodDescriptor "()V" = some ⟨[], none⟩ := by decide +kernel
theorem pd_22 : parseMethodDescriptor "(Ljava/lang/Object;Ljava/lang/String;)Ljava/lang/Object;" = some ⟨[(.object "java/lang/Object"), (.object "java/lang/String")], some (.object "java/lang/Object")⟩ := by decide +kernel
theorem pd_23 : parseMethodDescriptor "()Ljava/lang/String;" = some ⟨[], some (.object "java/lang/String")⟩ := by decide +kernel
theorem pd_24 : parseMethodDescriptor "(Ljava/lang/String;)Ljava/lang/StringBuilder;" = some ⟨[(.object "java/lang/String")], some (.object "java/lang/StringBuilder")⟩ := by decide +kernel
theorem pd_25 : parseMethodDescriptor "(ICCC)Ljava/lang/String;" = some ⟨[.int, .char, .char, .char], some (.object "java/lang/String")⟩ := by decide +kernel
theorem pd_26 : parseMethodDescriptor "(Lcom/example/protoloom/protoloom/report/Action$Kind;Ljava/lang/String;)V" = some ⟨[(.object "com/example/protoloom/protoloom/report/Action$Kind"), (.object "java/lang/String")], none⟩ := by decide +kernel
theorem pd_27 : parseMethodDescriptor "(I)C" = some ⟨[.int], some .char⟩ := by decide +kernel
theorem own_met_1_0 {K : own_Cx} {M : own_Mi} {Q : own_Q} {sf : List Addr} {h : Heap} {v0 : Value} (hpn : plainFor M.y = true) (hm : M.mx = 1) (c0 : v0.category = 1) (k : own_WP K M Q 0 [.val v0] [] sf h 0 0) : own_Met K M #[v0] sf h Q := own_met hpn (fun m => by rw [hm]; simp [entryFrame, mkF, argsToLocals, c0, List.replicate, Array.replicate]) k
theorem own_met_2_0 {K : own_Cx} {M : own_Mi} {Q : own_Q} {sf : List Addr} {h : Heap} {v0 v1 : Value} (hpn : plainFor M.y = true) (hm : M.mx = 2) (c0 : v0.category = 1) (c1 : v1.category = 1) (k : own_WP K M Q 0 [.val v0, .val v1] [] sf h 0 0) : own_Met K M #[v0, v1] sf h Q := own_met hpn (fun m => by rw [hm]; simp [entryFrame, mkF, argsToLocals, c0, c1, List.replicate, Array.replicate]) k
theorem own_met_2_1 {K : own_Cx} {M : own_Mi} {Q : own_Q} {sf : List Addr} {h : Heap} {v0 v1 : Value} (hpn : plainFor M.y = true) (hm : M.mx = 3) (c0 : v0.category = 1) (c1 : v1.category = 1) (k : own_WP K M Q 0 [.val v0, .val v1, .unset] [] sf h 0 0) : own_Met K M #[v0, v1] sf h Q := own_met hpn (fun m => by rw [hm]; simp [entryFrame, mkF, argsToLocals, c0, c1, List.replicate, Array.replicate]) k
theorem own_met_3_0 {K : own_Cx} {M : own_Mi} {Q : own_Q} {sf : List Addr} {h : Heap} {v0 v1 v2 : Value} (hpn : plainFor M.y = true) (hm : M.mx = 3) (c0 : v0.category = 1) (c1 : v1.category = 1) (c2 : v2.category = 1) (k : own_WP K M Q 0 [.val v0, .val v1, .val v2] [] sf h 0 0) : own_Met K M #[v0, v1, v2] sf h Q := own_met hpn (fun m => by rw [hm]; simp [entryFrame, mkF, argsToLocals, c0, c1, c2, List.replicate, Array.replicate]) k
theorem own_met_3_2 {K : own_Cx} {M : own_Mi} {Q : own_Q} {sf : List Addr} {h : Heap} {v0 v1 v2 : Value} (hpn : plainFor M.y = true) (hm : M.mx = 5) (c0 : v0.category = 1) (c1 : v1.category = 1) (c2 : v2.category = 1) (k : own_WP K M Q 0 [.val v0, .val v1, .val v2, .unset, .unset] [] sf h 0 0) : own_Met K M #[v0, v1, v2] sf h Q := own_met hpn (fun m => by rw [hm]; simp [entryFrame, mkF, argsToLocals, c0, c1, c2, List.replicate, Array.replicate]) k
theorem own_met_3_3 {K : own_Cx} {M : own_Mi} {Q : own_Q} {sf : List Addr} {h : Heap} {v0 v1 v2 : Value} (hpn : plainFor M.y = true) (hm : M.mx = 6) (c0 : v0.category = 1) (c1 : v1.category = 1) (c2 : v2.category = 1) (k : own_WP K M Q 0 [.val v0, .val v1, .val v2, .unset, .unset, .unset] [] sf h 0 0) : own_Met K M #[v0, v1, v2] sf h Q := own_met hpn (fun m => by rw [hm]; simp [entryFrame, mkF, argsToLocals, c0, c1, c2, List.replicate, Array.replicate]) k
theorem own_met_4_0 {K : own_Cx} {M : own_Mi} {Q : own_Q} {sf : List Addr} {h : Heap} {v0 v1 v2 v3 : Value} (hpn : plainFor M.y = true) (hm : M.mx = 4) (c0 : v0.category = 1) (c1 : v1.category = 1) (c2 : v2.category = 1) (c3 : v3.category = 1) (k : own_WP K M Q 0 [.val v0, .val v1, .val v2, .val v3] [] sf h 0 0) : own_Met K M #[v0, v1, v2, v3] sf h Q := own_met hpn (fun m => by rw [hm]; simp [entryFrame, mkF, argsToLocals, c0, c1, c2, c3, List.replicate, Array.replicate]) k
theorem own_met_4_1 {K : own_Cx} {M : own_Mi} {Q : own_Q} {sf : List Addr} {h : Heap} {v0 v1 v2 v3 : Value} (hpn : plainFor M.y = true) (hm : M.mx = 5) (c0 : v0.category = 1) (c1 : v1.category = 1) (c2 : v2.category = 1) (c3 : v3.category = 1) (k : own_WP K M Q 0 [.val v0, .val v1, .val v2, .val v3, .unset] [] sf h 0 0) : own_Met K M #[v0, v1, v2, v3] sf h Q := own_met hpn (fun m => by rw [hm]; simp [entryFrame, mkF, argsToLocals, c0, c1, c2, c3, List.replicate, Array.replicate]) k
theorem own_met_5_1 {K : own_Cx} {M : own_Mi} {Q : own_Q} {sf : List Addr} {h : Heap} {v0 v1 v2 v3 v4 : Value} (hpn : plainFor M.y = true) (hm : M.mx = 6) (c0 : v0.category = 1) (c1 : v1.category = 1) (c2 : v2.category = 1) (c3 : v3.category = 1) (c4 : v4.category = 1) (k : own_WP K M Q 0 [.val v0, .val v1, .val v2, .val v3, .val v4, .unset] [] sf h 0 0) : own_Met K M #[v0, v1, v2, v3, v4] sf h Q := own_met hpn (fun m => by rw [hm]; simp [entryFrame, mkF, argsToLocals, c0, c1, c2, c3, c4, List.replicate, Array.replicate]) k
theorem own_met_5_2 {K : own_Cx} {M : own_Mi} {Q : own_Q} {sf : List Addr} {h : Heap} {v0 v1 v2 v3 v4 : Value} (hpn : plainFor M.y = true) (hm : M.mx = 7) (c0 : v0.category = 1) (c1 : v1.category = 1) (c2 : v2.category = 1) (c3 : v3.category = 1) (c4 : v4.category = 1) (k : own_WP K M Q 0 [.val v0, .val v1, .val v2, .val v3, .val v4, .unset, .unset] [] sf h 0 0) : own_Met K M #[v0, v1, v2, v3, v4] sf h Q := own_met hpn (fun m => by rw [hm]; simp [entryFrame, mkF, argsToLocals, c0, c1, c2, c3, c4, List.replicate, Array.replicate]) k
theorem own_met_5_10 {K : own_Cx} {M : own_Mi} {Q : own_Q} {sf : List Addr} {h : Heap} {v0 v1 v2 v3 v4 : Value} (hpn : plainFor M.y = true) (hm : M.mx = 15) (c0 : v0.category = 1) (c1 : v1.category = 1) (c2 : v2.category = 1) (c3 : v3.category = 1) (c4 : v4.category = 1) (k : own_WP K M Q 0 [.val v0, .val v1, .val v2, .val v3, .val v4, .unset, .unset, .unset, .unset, .unset, .unset, .unset, .unset, .unset, .unset] [] sf h 0 0) : own_Met K M #[v0, v1, v2, v3, v4] sf h Q := own_met hpn (fun m => by rw [hm]; simp [entryFrame, mkF, argsToLocals, c0, c1, c2, c3, c4, List.replicate, Array.replicate]) k
/-! STRINGS: chars as ints of 0 to 65535; what a String's bytes spell -/
abbrev own_Chs (cs : List Int32) : Prop := ∀ c ∈ cs, 0 ≤ c.toInt ∧ c.toInt < 65536
def own_lat (cs : List Int32) : Bool := cs.all fun c => decide (c.toInt < 256)
def own_bt (c : Int32) : Int32 := c.toInt8.toInt32
def own_hb (c : Int32) : Int32 := (c >>> ((8 : Int32) &&& 31)).toInt8.toInt32
def own_two (cs : List Int32) : List Int32 := cs.flatMap fun c => [own_bt c, own_hb c]
def own_enc (cs : List Int32) : List Int32 := if own_lat cs then cs.map own_bt else own_two cs
def own_cod (cs : List Int32) : Int32 := if own_lat cs then 0 else 1
abbrev own_ints (xs : List Int32) : List Value := xs.map Value.int
def own_Str (Z : State) (h : Heap) (a : Addr) (cs : List Int32) : Prop := Exa Z h a "java/lang/String" ∧ own_Chs cs ∧ cs.length < 2 ^ 30 ∧ ∃ b : Addr, Fld Z h a "java/lang/String" "value" "[B" (.ref b) ∧ Fld Z h a "java/lang/String" "coder" "B" (.int (own_cod cs)) ∧ own_Ary Z h b .byte (own_ints (own_enc cs))
theorem own_Str.ext {Z : State} {h h' : Heap} {a : Addr} {cs : List Int32} (F : own_Str Z h a cs) (E : Ext h h') : own_Str Z h' a cs := by
  obtain ⟨h1, h2, h3, b, h4, h5, h6⟩ := F
  exact ⟨h1.ext E, h2, h3, b, h4.ext E, h5.ext E, h6.ext E⟩
theorem own_Str.keepO {Z : State} {h h' : Heap} {a t : Addr} {cs : List Int32} {C : String} {kk : Nat} {a0 : Array Value} (F : own_Str Z h a cs) (k : Keep h h' [t]) (E : Exa Z h t C) (hC : C ≠ "java/lang/String") (wi : (Jvm.Cond.instantiable C kk).before a0 Z = true) : own_Str Z h' a cs := by
  obtain ⟨h1, h2, h3, b, h4, h5, h6⟩ := F
  have n1 : a ∉ [t] := ninS (ne_exa h1 E (Ne.symm hC)) nin0
  have n2 : b ∉ [t] := ninS (fun q => by obtain ⟨c, A, -⟩ := h6; exact ne_arr E wi A q.symm) nin0
  exact ⟨h1.keep k, h2, h3, b, h4.keep k n1, h5.keep k n1, h6.keep k n2⟩
theorem own_Str.lt {Z : State} {h : Heap} {a : Addr} {cs : List Int32} (F : own_Str Z h a cs) : a < h.size := F.1.lt
theorem own_ext_keep {h0 h h' : Heap} {ws : List Addr} (E : Ext h0 h) (k : Keep h h' ws) (q : ∀ x ∈ ws, h0.size ≤ x) : Ext h0 h' :=
  ⟨Nat.le_trans E.1 k.1, fun x c z => k.2.1 x c (E.2 x c z) fun m => by
    have := q x m
    have := (Array.getElem?_eq_some_iff.mp z).1
    omega⟩
theorem own_lit (n : Nat) (q : n < 2 ^ 31) : (n.toInt32).toInt = n := Int32.toInt_ofNat_small q
theorem own_add {x y : Int32} {a b : Int} (hx : x.toInt = a) (hy : y.toInt = b) (h1 : -2147483648 ≤ a + b) (h2 : a + b < 2147483648) : (x + y).toInt = a + b := by
  have := c_iadd x y
  have := rng32 (x + y)
  omega
theorem own_sub {x y : Int32} {a b : Int} (hx : x.toInt = a) (hy : y.toInt = b) (h1 : -2147483648 ≤ a - b) (h2 : a - b < 2147483648) : (x - y).toInt = a - b := by
  have := c_isub x y
  have := rng32 (x - y)
  omega
theorem own_setmid {α : Type} (L : List α) (z v : α) (k : Nat) : (L ++ List.replicate (k + 1) z).set L.length v = (L ++ [v]) ++ List.replicate k z := by
  simp [List.replicate_succ]
theorem own_bt_nar (c : Int32) : nar .byte (c.toInt8.toInt32) = own_bt c := by
  show (c.toInt8.toInt32).toInt8.toInt32 = c.toInt8.toInt32
  simp
theorem own_lat_get {cs : List Int32} (q : own_lat cs = true) {i : Nat} {c : Int32} (hc : cs[i]? = some c) : c.toInt < 256 := by
  have := List.all_eq_true.mp q c (List.mem_of_getElem? hc)
  simpa using this
theorem own_lat_snoc {cs : List Int32} {i : Nat} {c : Int32} (hc : cs[i]? = some c) (q : own_lat (cs.take i) = true) (hl : c.toInt < 256) : own_lat (cs.take (i + 1)) = true := by
  have e : cs.take (i + 1) = cs.take i ++ [c] := by rw [List.take_add_one, hc]; rfl
  rw [e]
  simp only [own_lat, List.all_append, Bool.and_eq_true] at q ⊢
  exact ⟨q, by simp [hl]⟩
theorem own_lat_no {cs : List Int32} {i : Nat} {c : Int32} (hc : cs[i]? = some c) (hl : ¬ c.toInt < 256) : own_lat cs = false := by
  cases q : own_lat cs
  · rfl
  · exact absurd (own_lat_get q hc) hl
theorem own_cod_byte (cs : List Int32) : narrow .byte (.int (own_cod cs)) = .int (own_cod cs) ∧ fits .byte (.int (own_cod cs)) = true := by
  unfold own_cod; split <;> exact ⟨rfl, rfl⟩
theorem own_enc_lat {cs : List Int32} (q : own_lat cs = true) : own_enc cs = cs.map own_bt ∧ own_cod cs = 0 := by simp [own_enc, own_cod, q]
theorem own_enc_utf {cs : List Int32} (q : own_lat cs = false) : own_enc cs = own_two cs ∧ own_cod cs = 1 := by simp [own_enc, own_cod, q]
theorem own_two_len (cs : List Int32) : (own_two cs).length = 2 * cs.length := by
  induction cs with
  | nil => rfl
  | cons c r ih => simp [own_two] at ih ⊢; omega
theorem own_ushr31 {x : Int32} (q : x.toInt < 0) : XT.ushr x 31 = 1 := by
  apply Int32.toInt_inj.mp
  have := c_iushr x 31 31 (by decide) (by decide)
  have r := rng32 x
  have e : (XT.ushr x 31).toInt = (x.toInt % 4294967296) / (2 ^ 31 : Nat) := this
  rw [e]
  have : (1 : Int32).toInt = 1 := rfl
  omega
theorem own_shr0 (x : Int32) : x >>> ((0 : Int32) &&& 31) = x := by
  apply Int32.toInt_inj.mp
  have := c_ishr x 0 0 (by decide)
  rw [this]; simp
theorem own_shl0 (x : Int32) : x <<< ((0 : Int32) &&& 31) = x := by
  apply Int32.toInt_inj.mp
  have := c_ishl x 0 0 (by decide)
  have := rng32 (x <<< ((0 : Int32) &&& 31))
  have := rng32 x
  omega
theorem own_i2c_id {x : Int32} (h0 : 0 ≤ x.toInt) (h1 : x.toInt < 65536) : x.toUInt32.toUInt16.toUInt32.toInt32 = x := by
  apply Int32.toInt_inj.mp
  have := c_i2c x
  omega
theorem d_cp5_0 : decode jdk_52_method_21_code 0 = .ok (.iconst 0, 1) := by decide +kernel
theorem d_cp5_1 : decode jdk_52_method_21_code 1 = .ok (.istore 5, 2) := by decide +kernel
theorem d_cp5_3 : decode jdk_52_method_21_code 3 = .ok (.iload 5, 2) := by decide +kernel
theorem d_cp5_5 : decode jdk_52_method_21_code 5 = .ok (.iload 4, 2) := by decide +kernel
theorem d_cp5_7 : decode jdk_52_method_21_code 7 = .ok (.if_icmp .ge 37, 3) := by decide +kernel
theorem d_cp5_10 : decode jdk_52_method_21_code 10 = .ok (.aload_n 0, 1) := by decide +kernel
theorem d_cp5_11 : decode jdk_52_method_21_code 11 = .ok (.iload_n 1, 1) := by decide +kernel
theorem d_cp5_12 : decode jdk_52_method_21_code 12 = .ok (.caload, 1) := by decide +kernel
theorem d_cp5_13 : decode jdk_52_method_21_code 13 = .ok (.istore 6, 2) := by decide +kernel
theorem d_cp5_15 : decode jdk_52_method_21_code 15 = .ok (.iload 6, 2) := by decide +kernel
theorem d_cp5_17 : decode jdk_52_method_21_code 17 = .ok (.sipush 255, 3) := by decide +kernel
theorem d_cp5_20 : decode jdk_52_method_21_code 20 = .ok (.if_icmp .le 6, 3) := by decide +kernel
theorem d_cp5_23 : decode jdk_52_method_21_code 23 = .ok (.iload 5, 2) := by decide +kernel
theorem d_cp5_25 : decode jdk_52_method_21_code 25 = .ok (.ireturn, 1) := by decide +kernel
theorem d_cp5_26 : decode jdk_52_method_21_code 26 = .ok (.aload_n 2, 1) := by decide +kernel
theorem d_cp5_27 : decode jdk_52_method_21_code 27 = .ok (.iload_n 3, 1) := by decide +kernel
theorem d_cp5_28 : decode jdk_52_method_21_code 28 = .ok (.iload 6, 2) := by decide +kernel
theorem d_cp5_30 : decode jdk_52_method_21_code 30 = .ok (.i2b, 1) := by decide +kernel
theorem d_cp5_31 : decode jdk_52_method_21_code 31 = .ok (.bastore, 1) := by decide +kernel
theorem d_cp5_32 : decode jdk_52_method_21_code 32 = .ok (.iinc 1 1, 3) := by decide +kernel
theorem d_cp5_35 : decode jdk_52_method_21_code 35 = .ok (.iinc 3 1, 3) := by decide +kernel
theorem d_cp5_38 : decode jdk_52_method_21_code 38 = .ok (.iinc 5 1, 3) := by decide +kernel
theorem d_cp5_41 : decode jdk_52_method_21_code 41 = .ok (.goto (-38), 3) := by decide +kernel
theorem d_cp5_44 : decode jdk_52_method_21_code 44 = .ok (.iload 4, 2) := by decide +kernel
theorem d_cp5_46 : decode jdk_52_method_21_code 46 = .ok (.ireturn, 1) := by decide +kernel
abbrev M_cp5 : own_Mi := ((⟨"java/lang/StringUTF16", "compress", "([CI[BII)I"⟩ : MethodName), jdk_52_method_21_code, 7, (Option.some FieldType.int), ({ frames := 0, cells := 0, slots := 0, locals := 0 } : Room))
theorem pn_cp5 : plainFor (own_Mi.y M_cp5) = true := plainFor_of_name (by first | (simp [plainName, overriddenIn]; done) | decide +kernel)
def Q_cp5 (K : own_Cx) (b : Addr) (n : Int32) (cs : List Int32) (h : Heap) : own_Q := own_ret fun w h' _ => ∃ r : Int32, w = .int r ∧ Keep h h' [b] ∧ ((own_lat cs = true ∧ r = n ∧ own_Ary K.Z h' b .byte (own_ints (cs.map own_bt))) ∨ (own_lat cs = false ∧ ∃ (i : Nat) (c : Int32), r.toInt = i ∧ cs[i]? = some c ∧ 256 ≤ c.toInt))
set_option maxRecDepth 65536 in
set_option maxHeartbeats 40000000 in
theorem c_cp5 (K : own_Cx) (a0 : Array Value) (hw : ∀ d ∈ tables_1, d.before a0 K.Z = true) (a b : Addr) (n : Int32) (cs : List Int32) (h : Heap) (hn : n.toInt = cs.length) (hcs : own_Chs cs) (A : own_Ary K.Z h a .char (own_ints cs)) (Bq : own_Ary K.Z h b .byte (List.replicate cs.length (.int 0))) (hab : a ≠ b) :
    own_Met K M_cp5 #[.ref a, .int 0, .ref b, .int 0, .int n] [b] h (Q_cp5 K b n cs h) := by
  have hlen := rng32 n
  refine own_met_5_2 (M := M_cp5) pn_cp5 rfl (by first | rfl | exact own_cat (by assumption)) (by first | rfl | exact own_cat (by assumption)) (by first | rfl | exact own_cat (by assumption)) (by first | rfl | exact own_cat (by assumption)) (by first | rfl | exact own_cat (by assumption)) ?_
  refine own_iconst (v := (0 : Int32)) (pc' := 1) rfl d_cp5_0 rfl ?_
  refine own_istore_5 (pc' := 3) rfl d_cp5_1 (by first | exact One.u | exact One.val rfl | assumption | exact One.val (by assumption)) ?_
  suffices key : ∀ (k i : Nat) (j : Int32) (h1 : Heap) (o : Slot), i + k = cs.length → j.toInt = i → One o → Keep h h1 [b] → own_lat (cs.take i) = true → own_Ary K.Z h1 b .byte (own_ints ((cs.take i).map own_bt) ++ List.replicate k (.int 0)) → own_WP K M_cp5 (Q_cp5 K b n cs h) 3 [.val (.ref a), .val (.int j), .val (.ref b), .val (.int j), .val (.int n), .val (.int j), o] [] [b] h1 0 0 from
    key cs.length 0 0 h .unset (by simp) rfl One.u (Keep.refl _ _) (by simp [own_lat]) (by simpa using Bq)
  intro k
  induction k with
  | zero =>
    intro i j h1 o hik hj ho hk hl hA
    refine own_iload (pc' := 5) rfl d_cp5_3 rfl ?_
    refine own_iload (pc' := 7) rfl d_cp5_5 rfl ?_
    refine own_icmpge (pcT := 44) (pcF := 10) d_cp5_7 (by decide) (by decide) rfl (fun q => ?_) (fun q => ?_)
    · skip
      refine own_iload (pc' := 46) rfl d_cp5_44 rfl ?_
      refine own_ireturn rfl d_cp5_46 rfl rfl ?_
      have e : cs.take i = cs := List.take_of_length_le (by omega)
      rw [e] at hl hA
      exact ⟨n, rfl, hk, Or.inl ⟨hl, rfl, by simpa using hA⟩⟩
    · rw [Int32.lt_iff_toInt_lt] at q
      omega
  | succ k ih =>
    intro i j h1 o hik hj ho hk hl hA
    have hi : i < cs.length := by omega
    obtain ⟨c, hc⟩ : ∃ c, cs[i]? = some c := ⟨cs[i], by simp [hi]⟩
    have hcr := hcs c (List.mem_of_getElem? hc)
    refine own_iload (pc' := 5) rfl d_cp5_3 rfl ?_
    refine own_iload (pc' := 7) rfl d_cp5_5 rfl ?_
    refine own_icmpge (pcT := 44) (pcF := 10) d_cp5_7 (by decide) (by decide) rfl (fun q => ?_) (fun q => ?_)
    · exact absurd (by rw [Int32.lt_iff_toInt_lt]; omega) q
    · skip
      refine own_aload_n (pc' := 11) rfl d_cp5_10 rfl (by first | rfl | assumption) ?_
      refine own_iload_n (pc' := 12) rfl d_cp5_11 rfl ?_
      refine own_caload (pc' := 13) rfl d_cp5_12 (A.keep hk (ninS hab nin0)) (i := i) hj (by first | exact own_ints_get hc | exact own_ints_getM hc) ?_
      refine own_istore_6 (pc' := 15) rfl d_cp5_13 (by first | exact One.u | exact One.val rfl | assumption | exact One.val (by assumption)) ?_
      refine own_iload (pc' := 17) rfl d_cp5_15 rfl ?_
      refine own_sipush (v := (255 : Int32)) (pc' := 20) rfl d_cp5_17 rfl ?_
      refine own_icmple (pcT := 26) (pcF := 23) d_cp5_20 (by decide) (by decide) rfl (fun q2 => ?_) (fun q2 => ?_)
      · have hc2 : c.toInt < 256 := by
          rw [Int32.lt_iff_toInt_lt] at q2
          have : (255 : Int32).toInt = 255 := rfl
          omega
        refine own_aload_n (pc' := 27) rfl d_cp5_26 rfl (by first | rfl | assumption) ?_
        refine own_iload_n (pc' := 28) rfl d_cp5_27 rfl ?_
        refine own_iload (pc' := 30) rfl d_cp5_28 rfl ?_
        refine own_i2b (pc' := 31) rfl d_cp5_30 ?_
        refine own_bastore (pc' := 32) rfl d_cp5_31 hA (i := i) hj (by simp; omega) (own_bt_nar c) (by simp) ?_
        intro h2 k2 hA2
        refine own_iinc_1 (z := (1 : Int32)) (pc' := 35) rfl d_cp5_32 rfl ?_
        refine own_iinc_3 (z := (1 : Int32)) (pc' := 38) rfl d_cp5_35 rfl ?_
        refine own_iinc_5 (z := (1 : Int32)) (pc' := 41) rfl d_cp5_38 rfl ?_
        refine own_goto (pc' := 3) d_cp5_41 (by decide) (by decide) ?_
        have e1 : i = (own_ints ((cs.take i).map own_bt)).length := by simp; omega
        have e2 : own_ints ((cs.take (i + 1)).map own_bt) = own_ints ((cs.take i).map own_bt) ++ [.int (own_bt c)] := by
          have e : cs.take (i + 1) = cs.take i ++ [c] := by rw [List.take_add_one, hc]; rfl
          rw [e]; simp [own_ints]
        refine ih (i + 1) (j + 1) h2 _ (by omega) (by rw [own_add hj (by rfl : (1 : Int32).toInt = 1)] <;> omega) (One.val rfl) (hk.trans k2 (fun x hx => Or.inl hx)) (own_lat_snoc hc hl hc2) ?_
        rw [e2, ← own_setmid, ← e1]
        exact hA2
      · skip
        refine own_iload (pc' := 25) rfl d_cp5_23 rfl ?_
        refine own_ireturn rfl d_cp5_25 rfl rfl ?_
        have hc2 : 256 ≤ c.toInt := by
          rw [Int32.lt_iff_toInt_lt] at q2
          have : (255 : Int32).toInt = 255 := rfl
          omega
        exact ⟨j, rfl, hk, Or.inr ⟨own_lat_no hc (by omega), i, c, hj, hc, hc2⟩⟩
theorem d_cfa_0 : decode jdk_52_method_15_code 0 = .ok (.iload_n 1, 1) := by decide +kernel
theorem d_cfa_1 : decode jdk_52_method_15_code 1 = .ok (.aload_n 0, 1) := by decide +kernel
theorem d_cfa_2 : decode jdk_52_method_15_code 2 = .ok (.arraylength, 1) := by decide +kernel
theorem d_cfa_3 : decode jdk_52_method_15_code 3 = .ok (.isub, 1) := by decide +kernel
theorem d_cfa_4 : decode jdk_52_method_15_code 4 = .ok (.bipush 31, 2) := by decide +kernel
theorem d_cfa_6 : decode jdk_52_method_15_code 6 = .ok (.iushr, 1) := by decide +kernel
theorem d_cfa_7 : decode jdk_52_method_15_code 7 = .ok (.i2b, 1) := by decide +kernel
theorem d_cfa_8 : decode jdk_52_method_15_code 8 = .ok (.ireturn, 1) := by decide +kernel
abbrev M_cfa : own_Mi := ((⟨"java/lang/StringUTF16", "coderFromArrayLen", "([BI)B"⟩ : MethodName), jdk_52_method_15_code, 2, (Option.some FieldType.byte), ({ frames := 0, cells := 0, slots := 0, locals := 0 } : Room))
theorem pn_cfa : plainFor (own_Mi.y M_cfa) = true := plainFor_of_name (by first | (simp [plainName, overriddenIn]; done) | decide +kernel)
set_option maxRecDepth 65536 in
set_option maxHeartbeats 40000000 in
theorem c_cfa (K : own_Cx) (a0 : Array Value) (hw : ∀ d ∈ tables_1, d.before a0 K.Z = true) (b : Addr) (n : Int32) (cs : List Int32) (h : Heap) (hn : n.toInt = cs.length) (hl : cs.length < 2 ^ 30) (hp : 0 < cs.length) (Bq : own_Ary K.Z h b .byte (own_ints (own_enc cs))) :
    own_Met K M_cfa #[.ref b, .int n] [] h (own_ret fun w h' _ => w = .int (own_cod cs) ∧ h' = h) := by
  cases ql : own_lat cs
  · have hz : ((2 * cs.length).toInt32).toInt = ((2 * cs.length : Nat) : Int) := own_lit _ (by omega)
    refine own_met_2_0 (M := M_cfa) pn_cfa rfl (by first | rfl | exact own_cat (by assumption)) (by first | rfl | exact own_cat (by assumption)) ?_
    refine own_iload_n (pc' := 1) rfl d_cfa_0 rfl ?_
    refine own_aload_n (pc' := 2) rfl d_cfa_1 rfl (by first | rfl | assumption) ?_
    refine own_arrlen (z := (2 * cs.length).toInt32) (pc' := 3) rfl d_cfa_2 Bq (by rw [hz]; simp [(own_enc_utf ql).1, own_two_len]) ?_
    refine own_isub (pc' := 4) rfl d_cfa_3 ?_
    refine own_bipush (v := (31 : Int32)) (pc' := 6) rfl d_cfa_4 rfl ?_
    refine own_iushr (pc' := 7) rfl d_cfa_6 ?_
    refine own_i2b (pc' := 8) rfl d_cfa_7 ?_
    have e : XT.ushr (n - (2 * cs.length).toInt32) 31 = 1 := own_ushr31 (by rw [own_sub hn hz] <;> omega)
    rw [e]
    refine own_ireturnN (t := .byte) rfl (by simp) (z' := 1) rfl d_cfa_8 rfl rfl ?_
    exact ⟨by rw [(own_enc_utf ql).2], rfl⟩
  · skip
    refine own_met_2_0 (M := M_cfa) pn_cfa rfl (by first | rfl | exact own_cat (by assumption)) (by first | rfl | exact own_cat (by assumption)) ?_
    refine own_iload_n (pc' := 1) rfl d_cfa_0 rfl ?_
    refine own_aload_n (pc' := 2) rfl d_cfa_1 rfl (by first | rfl | assumption) ?_
    refine own_arrlen (z := n) (pc' := 3) rfl d_cfa_2 Bq (by rw [hn]; simp [(own_enc_lat ql).1]) ?_
    refine own_isub (pc' := 4) rfl d_cfa_3 ?_
    refine own_bipush (v := (31 : Int32)) (pc' := 6) rfl d_cfa_4 rfl ?_
    refine own_iushr (pc' := 7) rfl d_cfa_6 ?_
    refine own_i2b (pc' := 8) rfl d_cfa_7 ?_
    have e : XT.ushr (n - n) 31 = 0 := by rw [Int32.sub_self]; decide
    rw [e]
    refine own_ireturnN (t := .byte) rfl (by simp) (z' := 0) rfl d_cfa_8 rfl rfl ?_
    exact ⟨by rw [(own_enc_lat ql).2], rfl⟩
theorem d_cp3_0 : decode jdk_52_method_16_code 0 = .ok (.iload_n 2, 1) := by decide +kernel
theorem d_cp3_1 : decode jdk_52_method_16_code 1 = .ok (.newarray .byte, 2) := by decide +kernel
theorem d_cp3_3 : decode jdk_52_method_16_code 3 = .ok (.astore_n 3, 1) := by decide +kernel
theorem d_cp3_4 : decode jdk_52_method_16_code 4 = .ok (.aload_n 0, 1) := by decide +kernel
theorem d_cp3_5 : decode jdk_52_method_16_code 5 = .ok (.iload_n 1, 1) := by decide +kernel
theorem d_cp3_6 : decode jdk_52_method_16_code 6 = .ok (.aload_n 3, 1) := by decide +kernel
theorem d_cp3_7 : decode jdk_52_method_16_code 7 = .ok (.iconst 0, 1) := by decide +kernel
theorem d_cp3_8 : decode jdk_52_method_16_code 8 = .ok (.iload_n 2, 1) := by decide +kernel
theorem d_cp3_9 : decode jdk_52_method_16_code 9 = .ok (.invokestatic 115, 3) := by decide +kernel
theorem d_cp3_12 : decode jdk_52_method_16_code 12 = .ok (.istore 4, 2) := by decide +kernel
theorem d_cp3_14 : decode jdk_52_method_16_code 14 = .ok (.iload 4, 2) := by decide +kernel
theorem d_cp3_16 : decode jdk_52_method_16_code 16 = .ok (.iload_n 2, 1) := by decide +kernel
theorem d_cp3_17 : decode jdk_52_method_16_code 17 = .ok (.if_icmp .eq 40, 3) := by decide +kernel
theorem d_cp3_57 : decode jdk_52_method_16_code 57 = .ok (.aload_n 3, 1) := by decide +kernel
theorem d_cp3_58 : decode jdk_52_method_16_code 58 = .ok (.areturn, 1) := by decide +kernel
abbrev M_cp3 : own_Mi := ((⟨"java/lang/StringUTF16", "compress", "([CII)[B"⟩ : MethodName), jdk_52_method_16_code, 6, (Option.some (FieldType.array FieldType.byte)), ({ frames := 1, cells := 1, slots := 3, locals := 24 } : Room))
theorem pn_cp3 : plainFor (own_Mi.y M_cp3) = true := plainFor_of_name (by first | (simp [plainName, overriddenIn]; done) | decide +kernel)
set_option maxRecDepth 65536 in
set_option maxHeartbeats 40000000 in
theorem c_cp3 (K : own_Cx) (a0 : Array Value) (hw : ∀ d ∈ tables_1, d.before a0 K.Z = true)
    (a : Addr) (n : Int32) (cs : List Int32) (h : Heap) (hn : n.toInt = cs.length) (hcap : cs.length ≤ 3) (hcs : own_Chs cs) (A : own_Ary K.Z h a .char (own_ints cs))
    (hl : own_lat cs = true)
    : own_Met K M_cp3 #[.ref a, .int 0, .int n] [] h (own_ret fun w h' _ => ∃ b : Addr, w = .ref b ∧ Ext h h' ∧ h.size ≤ b ∧ own_Ary K.Z h' b .byte (own_ints (own_enc cs))) := by
  refine own_met_3_3 (M := M_cp3) pn_cp3 rfl (by first | rfl | exact own_cat (by assumption)) (by first | rfl | exact own_cat (by assumption)) (by first | rfl | exact own_cat (by assumption)) ?_
  refine own_iload_n (pc' := 1) rfl d_cp3_0 rfl ?_
  refine own_newarray (pc' := 3) rfl d_cp3_1 (tw_27 hw) (N := cs.length) (cap := 3) hn hcap rfl rfl rfl ?_
  intro b h1 eb E1 B1
  have hab : a ≠ b := by show @Ne Nat a b; have : @LT.lt Nat _ _ _ := A.lt; omega
  refine own_astore_n3 (pc' := 4) rfl d_cp3_3 (by first | exact One.u | exact One.val rfl | assumption | exact One.val (by assumption)) (by first | rfl | assumption) ?_
  refine own_aload_n (pc' := 5) rfl d_cp3_4 rfl (by first | rfl | assumption) ?_
  refine own_iload_n (pc' := 6) rfl d_cp3_5 rfl ?_
  refine own_aload_n (pc' := 7) rfl d_cp3_6 rfl (by first | rfl | assumption) ?_
  refine own_iconst (v := (0 : Int32)) (pc' := 8) rfl d_cp3_7 rfl ?_
  refine own_iload_n (pc' := 9) rfl d_cp3_8 rfl ?_
  refine own_static5v (M' := M_cp5) d_cp3_9 (pc' := 12) rfl (tw_28 hw) (tw_29 hw) (tw_25 hw) (tw_30 hw) (by decide) rfl (own_lenOf pd_0 rfl) rfl rfl rfl rfl (c_cp5 K a0 hw a b n cs h1 hn hcs (A.ext E1) B1 hab) (by simp) ?_
  rintro w h2 xs ⟨r, rfl, k2, q⟩
  have E2 := own_ext_keep E1 k2 (by intro x hx; cases List.mem_singleton.mp hx; omega)
  refine own_istore_4 (pc' := 14) rfl d_cp3_12 (by first | exact One.u | exact One.val rfl | assumption | exact One.val (by assumption)) ?_
  refine own_iload (pc' := 16) rfl d_cp3_14 rfl ?_
  refine own_iload_n (pc' := 17) rfl d_cp3_16 rfl ?_
  refine own_icmpeq (pcT := 57) (pcF := 20) d_cp3_17 (by decide) (by decide) rfl (fun z => ?_) (fun z => ?_)
  · rcases q with ⟨q1, q2, q3⟩ | ⟨q1, i, c, q2, q3, q4⟩
    · skip
      refine own_aload_n (pc' := 58) rfl d_cp3_57 rfl (by first | rfl | assumption) ?_
      refine own_areturn rfl rfl (by first | rfl | assumption) d_cp3_58 rfl rfl ?_
      exact ⟨b, rfl, E2, by omega, by rw [(own_enc_lat q1).1]; exact q3⟩
    · have := (List.getElem?_eq_some_iff.mp q3).1
      rw [z] at q2
      omega
  · rcases q with ⟨q1, q2, q3⟩ | ⟨q1, i, c, q2, q3, q4⟩
    · exact absurd q2 z
    · rw [hl] at q1; cases q1
theorem own_atoms {a0 : Array Value} {Z : State} (hw : ∀ d ∈ tables_1, d.before a0 Z = true) : ∀ a ∈ Bundle.stringAtoms, a.before a0 Z = true := by
  intro a ha
  simp only [Bundle.stringAtoms, List.mem_cons, List.not_mem_nil, or_false] at ha
  rcases ha with rfl | rfl | rfl | rfl | rfl | rfl | rfl
  · exact (tw_11 hw)
  · exact (tw_10 hw)
  · exact (tw_27 hw)
  · exact (tw_37 hw)
  · exact (tw_35 hw)
  · exact (tw_51 hw)
  · exact (tw_52 hw)
theorem own_ofArv {Z : State} {h : Heap} {b : Addr} {k : ClassId} {ty : FieldType} {z : Int32} {vs : List Value} {d : Value} (A : Arv Z h b k ty z vs d) (hl : z.toNatClampNeg = vs.length) : own_Ary Z h b ty vs := by
  obtain ⟨c, h1, -, h3, h4, h5, -⟩ := A
  refine ⟨c, h1, ?_, by rw [← hl]; exact (back32 h4).2⟩
  apply Array.ext
  · simp [h3, hl]
  · intro i hi1 hi2
    have := h5 i hi1
    have hi3 : i < vs.length := by simpa using hi2
    simp [hi1, hi3] at this
    simpa using this
/-- what a constant's text spells -/
def own_us (text : String) : List Int32 := text.toList.map fun c => c.toNat.toInt32
theorem own_ldcS {K : own_Cx} {M : own_Mi} {Q : own_Q} {pc pc' : Nat} {Ls : List Slot} {St : List Value} {sf : List Addr} {h : Heap} {cs sl : Nat} {a0 : Array Value} {index n : Nat} {text : String}
    (hnw : K.nw = false) (hp : pc + 2 = pc') (hd : decode M.b pc = .ok (.ldc index, 2)) (w : (Jvm.Cond.stringLink M.y.cls index text).before a0 K.Z = true) (wS : ∀ a ∈ Bundle.stringAtoms, a.before a0 K.Z = true) (hEL : EW K.Z a0 K.E) (hmem : (M.y.cls, index) ∈ K.E)
    (ht : (∀ c ∈ text.toList, c.toNat < 256) ∧ text.toList.map (fun c => Value.int (Jvm.Lit.byteI c.toNat.toUInt16)) = own_ints (own_enc (own_us text))) (hlat : own_lat (own_us text) = true) (hcs : own_Chs (own_us text)) (hz : ¬ ((own_us text).length.toInt32) < 0) (hl : ((own_us text).length.toInt32).toNatClampNeg = (own_ints (own_enc (own_us text))).length) (hlen : (own_us text).length < 2 ^ 30)
    (hn : Nat.ble (4 * text.toList.length) n = true) (hbig : Nat.ble n 536870912 = true) (hc : Nat.ble (cs + 2) M.R.cells = true) (hs : Nat.ble (sl + (n + 4)) M.R.slots = true)
    (k : ∀ (a : Addr) (h' : Heap), Ext h h' → own_Str K.Z h' a (own_us text) → own_WP K M Q pc' Ls (.ref a :: St) sf h' (cs + 2) (sl + (n + 4))) : own_WP K M Q pc Ls St sf h cs sl := by
  subst hp
  intro p e s vm0 k0 m args below meth c T locs cs' sl' B X hc' hs' eT N I
  obtain ⟨i1, i2, i3, i4, i5, i6⟩ := I
  obtain ⟨b1, b2, b3, b4, b5, b6, b7, b8, b9⟩ := B
  have q3 := Nat.le_of_ble_eq_true hc
  have q4 := Nat.le_of_ble_eq_true hs
  obtain ⟨a, T', h', k1, b, kk, X', e', E, S', hk', Z', O', A1, A2, A3, A4, -, -, C, -, -, st⟩ := ldcCH X b1 b8 b4 w wS eT i1 i2 hEL hmem i4.1 ht hz hl (g := mkF m pc Ls.toArray St) rfl (hb b2 hd) (Nat.le_of_ble_eq_true hn) (Nat.le_of_ble_eq_true hbig) (by omega) (by omega)
  obtain ⟨s₂, o, h1, r⟩ := k a h' E ⟨A1, hcs, hlen, b, A3, by rw [(own_enc_lat hlat).2]; exact A2, own_ofArv A4 hl⟩ p e s T'.vm k1 m args below meth c T' locs _ _ ⟨b1, b2, b3, O', b5, b6, b7, Z', b9⟩ X' (by omega) (by omega) e' N
    ⟨S', hk', (fun q => by rw [hnw] at q; cases q), i4.trans C, fun x hx => ⟨(i5 x hx).1, Nat.lt_of_lt_of_le (i5 x hx).2.1 C.2.1, C.safe (i5 x hx).2.1 (i5 x hx).2.2⟩, own_ext_trans i6 E⟩
  exact ⟨s₂, o, st _ h1, r⟩
theorem d_si4_0 : decode jdk_42_method_149_code 0 = .ok (.aload_n 0, 1) := by decide +kernel
theorem d_si4_1 : decode jdk_42_method_149_code 1 = .ok (.invokespecial 1, 3) := by decide +kernel
theorem d_si4_4 : decode jdk_42_method_149_code 4 = .ok (.iload_n 3, 1) := by decide +kernel
theorem d_si4_5 : decode jdk_42_method_149_code 5 = .ok (.ifCond .ne 22, 3) := by decide +kernel
theorem d_si4_8 : decode jdk_42_method_149_code 8 = .ok (.aload_n 0, 1) := by decide +kernel
theorem d_si4_9 : decode jdk_42_method_149_code 9 = .ok (.ldc 7, 2) := by decide +kernel
theorem d_si4_11 : decode jdk_42_method_149_code 11 = .ok (.getfield 9, 3) := by decide +kernel
theorem d_si4_14 : decode jdk_42_method_149_code 14 = .ok (.putfield 9, 3) := by decide +kernel
theorem d_si4_17 : decode jdk_42_method_149_code 17 = .ok (.aload_n 0, 1) := by decide +kernel
theorem d_si4_18 : decode jdk_42_method_149_code 18 = .ok (.ldc 7, 2) := by decide +kernel
theorem d_si4_20 : decode jdk_42_method_149_code 20 = .ok (.getfield 15, 3) := by decide +kernel
theorem d_si4_23 : decode jdk_42_method_149_code 23 = .ok (.putfield 15, 3) := by decide +kernel
theorem d_si4_26 : decode jdk_42_method_149_code 26 = .ok (.return_, 1) := by decide +kernel
theorem d_si4_27 : decode jdk_42_method_149_code 27 = .ok (.getstatic 38, 3) := by decide +kernel
theorem d_si4_30 : decode jdk_42_method_149_code 30 = .ok (.ifCond .eq 28, 3) := by decide +kernel
theorem d_si4_33 : decode jdk_42_method_149_code 33 = .ok (.aload_n 1, 1) := by decide +kernel
theorem d_si4_34 : decode jdk_42_method_149_code 34 = .ok (.iload_n 2, 1) := by decide +kernel
theorem d_si4_35 : decode jdk_42_method_149_code 35 = .ok (.iload_n 3, 1) := by decide +kernel
theorem d_si4_36 : decode jdk_42_method_149_code 36 = .ok (.invokestatic 177, 3) := by decide +kernel
theorem d_si4_39 : decode jdk_42_method_149_code 39 = .ok (.astore 5, 2) := by decide +kernel
theorem d_si4_41 : decode jdk_42_method_149_code 41 = .ok (.aload_n 0, 1) := by decide +kernel
theorem d_si4_42 : decode jdk_42_method_149_code 42 = .ok (.aload 5, 2) := by decide +kernel
theorem d_si4_44 : decode jdk_42_method_149_code 44 = .ok (.iload_n 3, 1) := by decide +kernel
theorem d_si4_45 : decode jdk_42_method_149_code 45 = .ok (.invokestatic 47, 3) := by decide +kernel
theorem d_si4_48 : decode jdk_42_method_149_code 48 = .ok (.putfield 15, 3) := by decide +kernel
theorem d_si4_51 : decode jdk_42_method_149_code 51 = .ok (.aload_n 0, 1) := by decide +kernel
theorem d_si4_52 : decode jdk_42_method_149_code 52 = .ok (.aload 5, 2) := by decide +kernel
theorem d_si4_54 : decode jdk_42_method_149_code 54 = .ok (.putfield 9, 3) := by decide +kernel
theorem d_si4_57 : decode jdk_42_method_149_code 57 = .ok (.return_, 1) := by decide +kernel
abbrev M_si4 : own_Mi := ((⟨"java/lang/String", "<init>", "([CIILjava/lang/Void;)V"⟩ : MethodName), jdk_42_method_149_code, 6, (Option.none : Option FieldType), ({ frames := 2, cells := 4, slots := 8, locals := 42 } : Room))
theorem pn_si4 : plainFor (own_Mi.y M_si4) = true := plainFor_of_name (by first | (simp [plainName, overriddenIn]; done) | decide +kernel)
set_option maxRecDepth 65536 in
set_option maxHeartbeats 40000000 in
theorem c_si4 (K : own_Cx) (a0 : Array Value) (hw : ∀ d ∈ tables_1, d.before a0 K.Z = true)
    (hnw : K.nw = false) (hEL : EW K.Z a0 K.E) (hme : ("java/lang/String", 7) ∈ K.E)
    (x a : Addr) (n g : Int32) (cs : List Int32) (h : Heap) (hn : n.toInt = cs.length)
    (hcap : cs.length ≤ 3) (hcs : own_Chs cs) (A : own_Ary K.Z h a .char (own_ints cs))
    (E : Exa K.Z h x "java/lang/String") (FV : Fld K.Z h x "java/lang/String" "value" "[B" .null) (FC : Fld K.Z h x "java/lang/String" "coder" "B" (.int 0)) (SC : Sta K.Z K.Z.heap "java/lang/String" "COMPACT_STRINGS" "Z" (.int g)) (hg : ¬ g = 0)
    (hl : own_lat cs = true)
    : own_Met K M_si4 #[.ref x, .ref a, .int 0, .int n, .null] [x] h (own_void fun h' _ => Keep h h' [x] ∧ own_Str K.Z h' x cs) := by
  refine own_met_5_1 (M := M_si4) pn_si4 rfl (by first | rfl | exact own_cat (by assumption)) (by first | rfl | exact own_cat (by assumption)) (by first | rfl | exact own_cat (by assumption)) (by first | rfl | exact own_cat (by assumption)) (by first | rfl | exact own_cat (by assumption)) ?_
  refine own_aload_n (pc' := 1) rfl d_si4_0 rfl (by first | rfl | assumption) ?_
  refine own_initO (pc' := 4) rfl d_si4_1 (tw_19 hw) (tw_20 hw) (tw_21 hw) rfl rfl rfl ?_
  refine own_iload_n (pc' := 5) rfl d_si4_4 rfl ?_
  refine own_ifne (pcT := 27) (pcF := 8) d_si4_5 (by decide) (by decide) rfl (fun z => ?_) (fun z => ?_)
  · skip
    refine own_getS (pc' := 30) rfl d_si4_27 (tw_22 hw) Via.refl (by assumption) ?_
    refine own_ifeq (pcT := 58) (pcF := 33) d_si4_30 (by decide) (by decide) rfl (fun z2 => ?_) (fun z2 => ?_)
    · exact absurd z2 hg
    · skip
      refine own_aload_n (pc' := 34) rfl d_si4_33 rfl (by first | rfl | assumption) ?_
      refine own_iload_n (pc' := 35) rfl d_si4_34 rfl ?_
      refine own_iload_n (pc' := 36) rfl d_si4_35 rfl ?_
      refine own_static3v (M' := M_cp3) d_si4_36 (pc' := 39) rfl (tw_23 hw) (tw_24 hw) (tw_25 hw) (tw_26 hw) (by decide) rfl (own_lenOf pd_1 rfl) rfl rfl rfl rfl (c_cp3 K a0 hw a n cs h hn hcap hcs A hl) (by simp) ?_
      rintro w h1 xs ⟨b, rfl, E1, hb1, B1⟩
      have hxb : b ≠ x := by show @Ne Nat b x; have : @LT.lt Nat _ _ _ := E.lt; omega
      refine own_astore_5 (pc' := 41) rfl d_si4_39 (by first | exact One.u | exact One.val rfl | assumption | exact One.val (by assumption)) (by first | rfl | assumption) ?_
      refine own_aload_n (pc' := 42) rfl d_si4_41 rfl (by first | rfl | assumption) ?_
      refine own_aload (pc' := 44) rfl d_si4_42 rfl (by first | rfl | assumption) ?_
      refine own_iload_n (pc' := 45) rfl d_si4_44 rfl ?_
      have hp : 0 < cs.length := by
        rcases Nat.eq_zero_or_pos cs.length with e | e
        · exact absurd (Int32.toInt_inj.mp (by rw [hn, e]; rfl)) z
        · exact e
      refine own_static2v (M' := M_cfa) d_si4_45 (pc' := 48) rfl (tw_31 hw) (tw_32 hw) (tw_25 hw) (tw_33 hw) (by decide) rfl (own_lenOf pd_2 rfl) rfl rfl rfl rfl (c_cfa K a0 hw b n cs h1 hn (by omega) hp B1) (by simp) ?_
      rintro w h2 xs2 ⟨rfl, rfl⟩
      refine own_putF (pc' := 51) rfl d_si4_48 (tw_34 hw) Via.refl (Or.inr ⟨(tw_35 hw), rfl, rfl⟩) (tw_10 hw) (ty := .byte) (by decide) (own_cod_byte cs).1 (own_cod_byte cs).2 (FC.ext E1) (E.ext E1) (by simp) ?_
      intro h3 W3
      have sne : RoadKit.slotOf K.Z "java/lang/String" "value" "[B" ≠ RoadKit.slotOf K.Z "java/lang/String" "coder" "B" := slot_ne (Or.inr (tw_37 hw)) (Or.inr (tw_35 hw)) (by decide) (t := .array .byte) (t' := .byte) (by decide) (by decide)
      have FV3 := (FV.ext E1).other W3 (Or.inr sne)
      have FC3 := (FC.ext E1).same W3
      have E3 := (E.ext E1).wr W3
      have B3 := B1.other W3 hxb
      refine own_aload_n (pc' := 52) rfl d_si4_51 rfl (by first | rfl | assumption) ?_
      refine own_aload (pc' := 54) rfl d_si4_52 rfl (by first | rfl | assumption) ?_
      refine own_putF (pc' := 57) rfl d_si4_54 (tw_36 hw) Via.refl (Or.inr ⟨(tw_37 hw), rfl, rfl⟩) (tw_10 hw) (ty := (.array .byte)) (by decide) rfl rfl FV3 E3 (by simp) ?_
      intro h4 W4
      refine own_return rfl d_si4_57 rfl rfl ?_
      refine ⟨(((Keep.refl h [x]).ext E1).wr W3 (Or.inl (List.mem_singleton.mpr rfl))).wr W4 (Or.inl (List.mem_singleton.mpr rfl)), E3.wr W4, hcs, by omega, b, FV3.same W4, FC3.other W4 (Or.inr (Ne.symm sne)), B3.other W4 hxb⟩
  · have hcs0 : cs = [] := by
      rw [z] at hn
      have : (0 : Int32).toInt = 0 := rfl
      exact List.eq_nil_of_length_eq_zero (by omega)
    subst hcs0
    have hen : own_ints (own_enc []) = [] := rfl
    refine own_aload_n (pc' := 9) rfl d_si4_8 rfl (by first | rfl | assumption) ?_
    refine own_ldcS (n := 0) hnw (pc' := 11) rfl d_si4_9 (hw _ (List.mem_of_getElem? (i := 210) rfl)) (own_atoms hw) hEL hme (by decide +kernel) (by decide +kernel) (by decide +kernel) (by decide +kernel) (by decide +kernel) (by decide +kernel) (by decide +kernel) rfl rfl rfl ?_
    intro e1 h1 E1 S1
    obtain ⟨G1, -, -, b1, GV1, GC1, GB1⟩ := S1
    refine own_getF (pc' := 14) rfl d_si4_11 (tw_36 hw) Via.refl GV1 ?_
    refine own_putF (pc' := 17) rfl d_si4_14 (tw_36 hw) Via.refl (Or.inr ⟨(tw_37 hw), rfl, rfl⟩) (tw_10 hw) (ty := (.array .byte)) (by decide) rfl rfl (FV.ext E1) (E.ext E1) (by simp) ?_
    intro h2 W2
    have sne : RoadKit.slotOf K.Z "java/lang/String" "value" "[B" ≠ RoadKit.slotOf K.Z "java/lang/String" "coder" "B" := slot_ne (Or.inr (tw_37 hw)) (Or.inr (tw_35 hw)) (by decide) (t := .array .byte) (t' := .byte) (by decide) (by decide)
    have FV2 := (FV.ext E1).same W2
    have FC2 := (FC.ext E1).other W2 (Or.inr (Ne.symm sne))
    have E2 := (E.ext E1).wr W2
    have hxb : b1 ≠ x := by obtain ⟨c, A, -⟩ := GB1; exact fun q => ne_arr (E.ext E1) (tw_10 hw) A q.symm
    have B2 := GB1.other W2 hxb
    refine own_aload_n (pc' := 18) rfl d_si4_17 rfl (by first | rfl | assumption) ?_
    refine own_ldcS (n := 0) hnw (pc' := 20) rfl d_si4_18 (hw _ (List.mem_of_getElem? (i := 210) rfl)) (own_atoms hw) hEL hme (by decide +kernel) (by decide +kernel) (by decide +kernel) (by decide +kernel) (by decide +kernel) (by decide +kernel) (by decide +kernel) rfl rfl rfl ?_
    intro e3 h3 E3 S3
    obtain ⟨G3, -, -, b3, GV3, GC3, GB3⟩ := S3
    refine own_getF (pc' := 23) rfl d_si4_20 (tw_34 hw) Via.refl GC3 ?_
    refine own_putF (pc' := 26) rfl d_si4_23 (tw_34 hw) Via.refl (Or.inr ⟨(tw_35 hw), rfl, rfl⟩) (tw_10 hw) (ty := .byte) (by decide) rfl rfl (FC2.ext E3) (E2.ext E3) (by simp) ?_
    intro h4 W4
    refine own_return rfl d_si4_26 rfl rfl ?_
    exact ⟨(((((Keep.refl h [x]).ext E1).wr W2 (Or.inl (List.mem_singleton.mpr rfl))).ext E3).wr W4 (Or.inl (List.mem_singleton.mpr rfl))), (E2.ext E3).wr W4, hcs, by simp, b1, (FV2.ext E3).other W4 (Or.inr sne), (FC2.ext E3).same W4, (B2.ext E3).other W4 hxb⟩
theorem d_si1_0 : decode jdk_42_method_3_code 0 = .ok (.aload_n 0, 1) := by decide +kernel
theorem d_si1_1 : decode jdk_42_method_3_code 1 = .ok (.aload_n 1, 1) := by decide +kernel
theorem d_si1_2 : decode jdk_42_method_3_code 2 = .ok (.iconst 0, 1) := by decide +kernel
theorem d_si1_3 : decode jdk_42_method_3_code 3 = .ok (.aload_n 1, 1) := by decide +kernel
theorem d_si1_4 : decode jdk_42_method_3_code 4 = .ok (.arraylength, 1) := by decide +kernel
theorem d_si1_5 : decode jdk_42_method_3_code 5 = .ok (.aconst_null, 1) := by decide +kernel
theorem d_si1_6 : decode jdk_42_method_3_code 6 = .ok (.invokespecial 27, 3) := by decide +kernel
theorem d_si1_9 : decode jdk_42_method_3_code 9 = .ok (.return_, 1) := by decide +kernel
abbrev M_si1 : own_Mi := ((⟨"java/lang/String", "<init>", "([C)V"⟩ : MethodName), jdk_42_method_3_code, 2, (Option.none : Option FieldType), ({ frames := 3, cells := 4, slots := 8, locals := 59 } : Room))
theorem pn_si1 : plainFor (own_Mi.y M_si1) = true := plainFor_of_name (by first | (simp [plainName, overriddenIn]; done) | decide +kernel)
set_option maxRecDepth 65536 in
set_option maxHeartbeats 40000000 in
theorem c_si1 (K : own_Cx) (a0 : Array Value) (hw : ∀ d ∈ tables_1, d.before a0 K.Z = true)
    (hnw : K.nw = false) (hEL : EW K.Z a0 K.E) (hme : ("java/lang/String", 7) ∈ K.E)
    (x a : Addr) (g : Int32) (cs : List Int32) (h : Heap)
    (hcap : cs.length ≤ 3) (hcs : own_Chs cs) (A : own_Ary K.Z h a .char (own_ints cs))
    (E : Exa K.Z h x "java/lang/String") (FV : Fld K.Z h x "java/lang/String" "value" "[B" .null) (FC : Fld K.Z h x "java/lang/String" "coder" "B" (.int 0)) (SC : Sta K.Z K.Z.heap "java/lang/String" "COMPACT_STRINGS" "Z" (.int g)) (hg : ¬ g = 0)
    (hl : own_lat cs = true)
    : own_Met K M_si1 #[.ref x, .ref a] [x] h (own_void fun h' _ => Keep h h' [x] ∧ own_Str K.Z h' x cs) := by
  have hz : (cs.length.toInt32).toInt = cs.length := own_lit _ (by omega)
  refine own_met_2_0 (M := M_si1) pn_si1 rfl (by first | rfl | exact own_cat (by assumption)) (by first | rfl | exact own_cat (by assumption)) ?_
  refine own_aload_n (pc' := 1) rfl d_si1_0 rfl (by first | rfl | assumption) ?_
  refine own_aload_n (pc' := 2) rfl d_si1_1 rfl (by first | rfl | assumption) ?_
  refine own_iconst (v := (0 : Int32)) (pc' := 3) rfl d_si1_2 rfl ?_
  refine own_aload_n (pc' := 4) rfl d_si1_3 rfl (by first | rfl | assumption) ?_
  refine own_arrlen (z := cs.length.toInt32) (pc' := 5) rfl d_si1_4 A (by rw [hz]; simp) ?_
  refine own_aconst_null (pc' := 6) rfl d_si1_5 ?_
  refine own_special4n (M' := M_si4) d_si1_6 (pc' := 9) rfl rfl rfl (tw_15 hw) (tw_16 hw) (tw_11 hw) (tw_18 hw) (by decide) rfl (own_lenOf pd_3 rfl) rfl rfl rfl rfl (c_si4 K a0 hw  hnw hEL hme x a _ g cs h hz  hcap hcs A E FV FC SC hg hl) (by simp) ?_
  intro h1 xs q
  refine own_return rfl d_si1_9 rfl rfl ?_
  exact q
theorem own_r255 (c : Int32) : 0 ≤ (c &&& 255).toInt ∧ (c &&& 255).toInt < 256 ∧ (c &&& 255).toInt < 65536 := by
  have := c_mask c 255 8 (by decide) (by decide)
  rw [this]
  omega
def own_ch (c : Int32) : Int32 := c.toUInt32.toUInt16.toUInt32.toInt32
/-! STRINGS, their methods -/
abbrev own_sC : String := "java/lang/String"
theorem own_len_enc {cs : List Int32} : (own_lat cs = true → (own_ints (own_enc cs)).length = cs.length) ∧ (own_lat cs = false → (own_ints (own_enc cs)).length = 2 * cs.length) :=
  ⟨fun q => by simp [(own_enc_lat q).1], fun q => by simp [(own_enc_utf q).1, own_two_len]⟩
theorem own_lat_byte {c : Int32} (h0 : 0 ≤ c.toInt) (h1 : c.toInt < 256) : own_bt c &&& 255 = c := by
  apply Int32.toInt_inj.mp
  have b1 := c_mask (own_bt c) 255 8 (by decide) (by decide)
  have b2 := (c_i2b c).1
  have : (own_bt c).toInt = c.toInt8.toInt32.toInt := rfl
  omega
theorem d_cdr_0 : decode jdk_42_method_152_code 0 = .ok (.getstatic 38, 3) := by decide +kernel
theorem d_cdr_3 : decode jdk_42_method_152_code 3 = .ok (.ifCond .eq 10, 3) := by decide +kernel
theorem d_cdr_6 : decode jdk_42_method_152_code 6 = .ok (.aload_n 0, 1) := by decide +kernel
theorem d_cdr_7 : decode jdk_42_method_152_code 7 = .ok (.getfield 15, 3) := by decide +kernel
theorem d_cdr_10 : decode jdk_42_method_152_code 10 = .ok (.goto 4, 3) := by decide +kernel
theorem d_cdr_14 : decode jdk_42_method_152_code 14 = .ok (.ireturn, 1) := by decide +kernel
abbrev M_cdr : own_Mi := ((⟨"java/lang/String", "coder", "()B"⟩ : MethodName), jdk_42_method_152_code, 1, (Option.some FieldType.byte), ({ frames := 0, cells := 0, slots := 0, locals := 0 } : Room))
theorem pn_cdr : plainFor (own_Mi.y M_cdr) = true := plainFor_of_name (by first | (simp [plainName, overriddenIn]; done) | decide +kernel)
set_option maxRecDepth 65536 in
set_option maxHeartbeats 40000000 in
theorem c_cdr (K : own_Cx) (a0 : Array Value) (hw : ∀ d ∈ tables_1, d.before a0 K.Z = true) (g : Int32) (SC : Sta K.Z K.Z.heap own_sC "COMPACT_STRINGS" "Z" (.int g)) (hg : ¬ g = 0) (x : Addr) (cs : List Int32) (h : Heap) (S : own_Str K.Z h x cs) :
    own_Met K M_cdr #[.ref x] [] h (own_ret fun w h' _ => w = .int (own_cod cs) ∧ h' = h) := by
  obtain ⟨E, hcs, hl, b, FV, FC, B⟩ := S
  refine own_met_1_0 (M := M_cdr) pn_cdr rfl (by first | rfl | exact own_cat (by assumption)) ?_
  refine own_getS (pc' := 3) rfl d_cdr_0 (tw_22 hw) Via.refl (by assumption) ?_
  refine own_ifeq (pcT := 13) (pcF := 6) d_cdr_3 (by decide) (by decide) rfl (fun q => ?_) (fun q => ?_)
  · exact absurd q hg
  · skip
    refine own_aload_n (pc' := 7) rfl d_cdr_6 rfl (by first | rfl | assumption) ?_
    refine own_getF (pc' := 10) rfl d_cdr_7 (tw_34 hw) Via.refl (by assumption) ?_
    refine own_goto (pc' := 14) d_cdr_10 (by decide) (by decide) ?_
    refine own_ireturnN (t := .byte) rfl (by simp) (z' := own_cod cs) (by unfold own_cod; split <;> rfl) d_cdr_14 rfl rfl ?_
    exact ⟨rfl, rfl⟩
theorem d_sl_0 : decode jdk_42_method_54_code 0 = .ok (.aload_n 0, 1) := by decide +kernel
theorem d_sl_1 : decode jdk_42_method_54_code 1 = .ok (.getfield 9, 3) := by decide +kernel
theorem d_sl_4 : decode jdk_42_method_54_code 4 = .ok (.arraylength, 1) := by decide +kernel
theorem d_sl_5 : decode jdk_42_method_54_code 5 = .ok (.aload_n 0, 1) := by decide +kernel
theorem d_sl_6 : decode jdk_42_method_54_code 6 = .ok (.invokevirtual 335, 3) := by decide +kernel
theorem d_sl_9 : decode jdk_42_method_54_code 9 = .ok (.ishr, 1) := by decide +kernel
theorem d_sl_10 : decode jdk_42_method_54_code 10 = .ok (.ireturn, 1) := by decide +kernel
abbrev M_sl : own_Mi := ((⟨"java/lang/String", "length", "()I"⟩ : MethodName), jdk_42_method_54_code, 1, (Option.some FieldType.int), ({ frames := 1, cells := 0, slots := 0, locals := 14 } : Room))
theorem pn_sl : plainFor (own_Mi.y M_sl) = true := plainFor_of_name (by first | (simp [plainName, overriddenIn]; done) | decide +kernel)
set_option maxRecDepth 65536 in
set_option maxHeartbeats 40000000 in
theorem c_sl (K : own_Cx) (a0 : Array Value) (hw : ∀ d ∈ tables_1, d.before a0 K.Z = true) (g : Int32) (SC : Sta K.Z K.Z.heap own_sC "COMPACT_STRINGS" "Z" (.int g)) (hg : ¬ g = 0) (x : Addr) (cs : List Int32) (h : Heap) (S : own_Str K.Z h x cs) :
    own_Met K M_sl #[.ref x] [] h (own_ret fun w h' _ => w = .int cs.length.toInt32 ∧ h' = h) := by
  have S' := S
  obtain ⟨E, hcs, hl, b, FV, FC, B⟩ := S'
  have hn : (cs.length.toInt32).toInt = cs.length := own_lit _ (by omega)
  cases ql : own_lat cs
  · have hz : ((2 * cs.length).toInt32).toInt = ((2 * cs.length : Nat) : Int) := own_lit _ (by omega)
    refine own_met_1_0 (M := M_sl) pn_sl rfl (by first | rfl | exact own_cat (by assumption)) ?_
    refine own_aload_n (pc' := 1) rfl d_sl_0 rfl (by first | rfl | assumption) ?_
    refine own_getF (pc' := 4) rfl d_sl_1 (tw_36 hw) Via.refl (by assumption) ?_
    refine own_arrlen (z := (2 * cs.length).toInt32) (pc' := 5) rfl d_sl_4 B (by rw [hz, own_len_enc.2 ql]) ?_
    refine own_aload_n (pc' := 6) rfl d_sl_5 rfl (by first | rfl | assumption) ?_
    refine own_virtual0v (M' := M_cdr) d_sl_6 (pc' := 9) rfl (tw_107 hw) (tw_108 hw) (tw_110 hw) (tw_109 hw) (tw_11 hw) (tw_111 hw) (by decide) rfl (own_lenOf pd_4 rfl) rfl rfl rfl rfl E (c_cdr K a0 hw g SC hg x cs h S) (by simp) ?_
    rintro w h1 xs ⟨rfl, rfl⟩
    refine own_ishr (pc' := 10) rfl d_sl_9 ?_
    refine own_ireturn rfl d_sl_10 rfl rfl ?_
    refine ⟨?_, rfl⟩
    rw [(own_enc_utf ql).2]
    congr 1
    apply Int32.toInt_inj.mp
    have := c_ishr (2 * cs.length).toInt32 1 1 (by decide)
    rw [this, hn, hz]
    omega
  · skip
    refine own_met_1_0 (M := M_sl) pn_sl rfl (by first | rfl | exact own_cat (by assumption)) ?_
    refine own_aload_n (pc' := 1) rfl d_sl_0 rfl (by first | rfl | assumption) ?_
    refine own_getF (pc' := 4) rfl d_sl_1 (tw_36 hw) Via.refl (by assumption) ?_
    refine own_arrlen (z := cs.length.toInt32) (pc' := 5) rfl d_sl_4 B (by rw [hn, own_len_enc.1 ql]) ?_
    refine own_aload_n (pc' := 6) rfl d_sl_5 rfl (by first | rfl | assumption) ?_
    refine own_virtual0v (M' := M_cdr) d_sl_6 (pc' := 9) rfl (tw_107 hw) (tw_108 hw) (tw_110 hw) (tw_109 hw) (tw_11 hw) (tw_111 hw) (by decide) rfl (own_lenOf pd_4 rfl) rfl rfl rfl rfl E (c_cdr K a0 hw g SC hg x cs h S) (by simp) ?_
    rintro w h1 xs ⟨rfl, rfl⟩
    refine own_ishr (pc' := 10) rfl d_sl_9 ?_
    refine own_ireturn rfl d_sl_10 rfl rfl ?_
    exact ⟨by rw [(own_enc_lat ql).2, own_shr0], rfl⟩
theorem d_isl_0 : decode jdk_42_method_154_code 0 = .ok (.getstatic 38, 3) := by decide +kernel
theorem d_isl_3 : decode jdk_42_method_154_code 3 = .ok (.ifCond .eq 14, 3) := by decide +kernel
theorem d_isl_6 : decode jdk_42_method_154_code 6 = .ok (.aload_n 0, 1) := by decide +kernel
theorem d_isl_7 : decode jdk_42_method_154_code 7 = .ok (.getfield 15, 3) := by decide +kernel
theorem d_isl_10 : decode jdk_42_method_154_code 10 = .ok (.ifCond .ne 7, 3) := by decide +kernel
theorem d_isl_13 : decode jdk_42_method_154_code 13 = .ok (.iconst 1, 1) := by decide +kernel
theorem d_isl_14 : decode jdk_42_method_154_code 14 = .ok (.goto 4, 3) := by decide +kernel
theorem d_isl_17 : decode jdk_42_method_154_code 17 = .ok (.iconst 0, 1) := by decide +kernel
theorem d_isl_18 : decode jdk_42_method_154_code 18 = .ok (.ireturn, 1) := by decide +kernel
abbrev M_isl : own_Mi := ((⟨"java/lang/String", "isLatin1", "()Z"⟩ : MethodName), jdk_42_method_154_code, 1, (Option.some FieldType.boolean), ({ frames := 0, cells := 0, slots := 0, locals := 0 } : Room))
theorem pn_isl : plainFor (own_Mi.y M_isl) = true := plainFor_of_name (by first | (simp [plainName, overriddenIn]; done) | decide +kernel)
set_option maxRecDepth 65536 in
set_option maxHeartbeats 40000000 in
theorem c_isl (K : own_Cx) (a0 : Array Value) (hw : ∀ d ∈ tables_1, d.before a0 K.Z = true) (g : Int32) (SC : Sta K.Z K.Z.heap own_sC "COMPACT_STRINGS" "Z" (.int g)) (hg : ¬ g = 0) (x : Addr) (cs : List Int32) (h : Heap) (S : own_Str K.Z h x cs) :
    own_Met K M_isl #[.ref x] [] h (own_ret fun w h' _ => w = .int (if own_lat cs then 1 else 0) ∧ h' = h) := by
  obtain ⟨E, hcs, hl, b, FV, FC, B⟩ := S
  refine own_met_1_0 (M := M_isl) pn_isl rfl (by first | rfl | exact own_cat (by assumption)) ?_
  refine own_getS (pc' := 3) rfl d_isl_0 (tw_22 hw) Via.refl (by assumption) ?_
  refine own_ifeq (pcT := 17) (pcF := 6) d_isl_3 (by decide) (by decide) rfl (fun q => ?_) (fun q => ?_)
  · exact absurd q hg
  · skip
    refine own_aload_n (pc' := 7) rfl d_isl_6 rfl (by first | rfl | assumption) ?_
    refine own_getF (pc' := 10) rfl d_isl_7 (tw_34 hw) Via.refl (by assumption) ?_
    refine own_ifne (pcT := 17) (pcF := 13) d_isl_10 (by decide) (by decide) rfl (fun q2 => ?_) (fun q2 => ?_)
    · skip
      refine own_iconst (v := (0 : Int32)) (pc' := 18) rfl d_isl_17 rfl ?_
      refine own_ireturnN (t := .boolean) rfl (by simp) (by first | exact own_nb0 | exact own_nb1 | rfl) d_isl_18 rfl rfl ?_
      refine ⟨?_, rfl⟩
      cases ql : own_lat cs
      · rfl
      · exact absurd (own_enc_lat ql).2 q2
    · skip
      refine own_iconst (v := (1 : Int32)) (pc' := 14) rfl d_isl_13 rfl ?_
      refine own_goto (pc' := 18) d_isl_14 (by decide) (by decide) ?_
      refine own_ireturnN (t := .boolean) rfl (by simp) (by first | exact own_nb0 | exact own_nb1 | rfl) d_isl_18 rfl rfl ?_
      refine ⟨?_, rfl⟩
      cases ql : own_lat cs
      · rw [(own_enc_utf ql).2] at q2; cases q2
      · rfl
theorem d_pci_0 : decode jdk_41_method_11_code 0 = .ok (.iload_n 0, 1) := by decide +kernel
theorem d_pci_1 : decode jdk_41_method_11_code 1 = .ok (.ifCond .lt 8, 3) := by decide +kernel
theorem d_pci_4 : decode jdk_41_method_11_code 4 = .ok (.iload_n 0, 1) := by decide +kernel
theorem d_pci_5 : decode jdk_41_method_11_code 5 = .ok (.iload_n 1, 1) := by decide +kernel
theorem d_pci_6 : decode jdk_41_method_11_code 6 = .ok (.if_icmp .lt 10, 3) := by decide +kernel
theorem d_pci_16 : decode jdk_41_method_11_code 16 = .ok (.iload_n 0, 1) := by decide +kernel
theorem d_pci_17 : decode jdk_41_method_11_code 17 = .ok (.ireturn, 1) := by decide +kernel
abbrev M_pci : own_Mi := ((⟨"jdk/internal/util/Preconditions", "checkIndex", "(IILjava/util/function/BiFunction;)I"⟩ : MethodName), jdk_41_method_11_code, 3, (Option.some FieldType.int), ({ frames := 0, cells := 0, slots := 0, locals := 0 } : Room))
theorem pn_pci : plainFor (own_Mi.y M_pci) = true := plainFor_of_name (by first | (simp [plainName, overriddenIn]; done) | decide +kernel)
set_option maxRecDepth 65536 in
set_option maxHeartbeats 40000000 in
theorem c_pci (K : own_Cx) (a0 : Array Value) (hw : ∀ d ∈ tables_1, d.before a0 K.Z = true) (rf : Value) (hrf : rf.isRef = true) (i n : Int32) (h : Heap) (h0 : 0 ≤ i.toInt) (h1 : i.toInt < n.toInt) :
    own_Met K M_pci #[.int i, .int n, rf] [] h (own_ret fun w h' _ => w = .int i ∧ h' = h) := by
  have z0 : (0 : Int32).toInt = 0 := rfl
  rcases ref_cases hrf with rfl | ⟨r, rfl⟩
  all_goals
    refine own_met_3_0 (M := M_pci) pn_pci rfl (by first | rfl | exact own_cat (by assumption)) (by first | rfl | exact own_cat (by assumption)) (by first | rfl | exact own_cat (by assumption)) ?_
    refine own_iload_n (pc' := 1) rfl d_pci_0 rfl ?_
    refine own_iflt (pcT := 9) (pcF := 4) d_pci_1 (by decide) (by decide) rfl (fun q => ?_) (fun q => ?_)
    · rw [Int32.lt_iff_toInt_lt] at q; omega
    · skip
      refine own_iload_n (pc' := 5) rfl d_pci_4 rfl ?_
      refine own_iload_n (pc' := 6) rfl d_pci_5 rfl ?_
      refine own_icmplt (pcT := 16) (pcF := 9) d_pci_6 (by decide) (by decide) rfl (fun q2 => ?_) (fun q2 => ?_)
      · skip
        refine own_iload_n (pc' := 17) rfl d_pci_16 rfl ?_
        refine own_ireturn rfl d_pci_17 rfl rfl ?_
        exact ⟨rfl, rfl⟩
      · rw [Int32.lt_iff_toInt_lt] at q2; omega
theorem d_ski_0 : decode jdk_42_method_155_code 0 = .ok (.iload_n 0, 1) := by decide +kernel
theorem d_ski_1 : decode jdk_42_method_155_code 1 = .ok (.iload_n 1, 1) := by decide +kernel
theorem d_ski_2 : decode jdk_42_method_155_code 2 = .ok (.getstatic 1053, 3) := by decide +kernel
theorem d_ski_5 : decode jdk_42_method_155_code 5 = .ok (.invokestatic 1059, 3) := by decide +kernel
theorem d_ski_8 : decode jdk_42_method_155_code 8 = .ok (.pop, 1) := by decide +kernel
theorem d_ski_9 : decode jdk_42_method_155_code 9 = .ok (.return_, 1) := by decide +kernel
abbrev M_ski : own_Mi := ((⟨"java/lang/String", "checkIndex", "(II)V"⟩ : MethodName), jdk_42_method_155_code, 2, (Option.none : Option FieldType), ({ frames := 1, cells := 0, slots := 0, locals := 14 } : Room))
theorem pn_ski : plainFor (own_Mi.y M_ski) = true := plainFor_of_name (by first | (simp [plainName, overriddenIn]; done) | decide +kernel)
set_option maxRecDepth 65536 in
set_option maxHeartbeats 40000000 in
theorem c_ski (K : own_Cx) (a0 : Array Value) (hw : ∀ d ∈ tables_1, d.before a0 K.Z = true) (rf : Value) (hrf : rf.isRef = true) (SF : Sta K.Z K.Z.heap "jdk/internal/util/Preconditions" "SIOOBE_FORMATTER" "Ljava/util/function/BiFunction;" rf) (i n : Int32) (h : Heap) (h0 : 0 ≤ i.toInt) (h1 : i.toInt < n.toInt) :
    own_Met K M_ski #[.int i, .int n] [] h (own_void fun h' _ => h' = h) := by
  refine own_met_2_0 (M := M_ski) pn_ski rfl (by first | rfl | exact own_cat (by assumption)) (by first | rfl | exact own_cat (by assumption)) ?_
  refine own_iload_n (pc' := 1) rfl d_ski_0 rfl ?_
  refine own_iload_n (pc' := 2) rfl d_ski_1 rfl ?_
  refine own_getS (pc' := 5) rfl d_ski_2 (tw_203 hw) Via.refl (by assumption) ?_
  refine own_static3v (M' := M_pci) d_ski_5 (pc' := 8) rfl (tw_205 hw) (tw_206 hw) (tw_204 hw) (tw_207 hw) (by decide) rfl (own_lenOf pd_5 rfl) rfl rfl rfl rfl (c_pci K a0 hw rf hrf i n h h0 h1) (by simp) ?_
  rintro w h2 xs ⟨rfl, rfl⟩
  refine own_pop (pc' := 9) rfl d_ski_8 (by first | rfl | assumption) ?_
  refine own_return rfl d_ski_9 rfl rfl ?_
  rfl
theorem d_lca_0 : decode jdk_43_method_2_code 0 = .ok (.iload_n 1, 1) := by decide +kernel
theorem d_lca_1 : decode jdk_43_method_2_code 1 = .ok (.aload_n 0, 1) := by decide +kernel
theorem d_lca_2 : decode jdk_43_method_2_code 2 = .ok (.arraylength, 1) := by decide +kernel
theorem d_lca_3 : decode jdk_43_method_2_code 3 = .ok (.invokestatic 9, 3) := by decide +kernel
theorem d_lca_6 : decode jdk_43_method_2_code 6 = .ok (.aload_n 0, 1) := by decide +kernel
theorem d_lca_7 : decode jdk_43_method_2_code 7 = .ok (.iload_n 1, 1) := by decide +kernel
theorem d_lca_8 : decode jdk_43_method_2_code 8 = .ok (.baload, 1) := by decide +kernel
theorem d_lca_9 : decode jdk_43_method_2_code 9 = .ok (.sipush 255, 3) := by decide +kernel
theorem d_lca_12 : decode jdk_43_method_2_code 12 = .ok (.iand, 1) := by decide +kernel
theorem d_lca_13 : decode jdk_43_method_2_code 13 = .ok (.i2c, 1) := by decide +kernel
theorem d_lca_14 : decode jdk_43_method_2_code 14 = .ok (.ireturn, 1) := by decide +kernel
abbrev M_lca : own_Mi := ((⟨"java/lang/StringLatin1", "charAt", "([BI)C"⟩ : MethodName), jdk_43_method_2_code, 2, (Option.some FieldType.char), ({ frames := 2, cells := 0, slots := 0, locals := 27 } : Room))
theorem pn_lca : plainFor (own_Mi.y M_lca) = true := plainFor_of_name (by first | (simp [plainName, overriddenIn]; done) | decide +kernel)
set_option maxRecDepth 65536 in
set_option maxHeartbeats 40000000 in
theorem c_lca (K : own_Cx) (a0 : Array Value) (hw : ∀ d ∈ tables_1, d.before a0 K.Z = true) (rf : Value) (hrf : rf.isRef = true) (SF : Sta K.Z K.Z.heap "jdk/internal/util/Preconditions" "SIOOBE_FORMATTER" "Ljava/util/function/BiFunction;" rf) (b : Addr) (cs : List Int32) (j : Int32) (i : Nat) (c : Int32) (h : Heap) (hcs : own_Chs cs) (hl : cs.length < 2 ^ 30) (ql : own_lat cs = true) (B : own_Ary K.Z h b .byte (own_ints (cs.map own_bt))) (hj : j.toInt = i) (hc : cs[i]? = some c) :
    own_Met K M_lca #[.ref b, .int j] [] h (own_ret fun w h' _ => w = .int c ∧ h' = h) := by
  have hi := (List.getElem?_eq_some_iff.mp hc).1
  have hn : (cs.length.toInt32).toInt = cs.length := own_lit _ (by omega)
  have hcr := hcs c (List.mem_of_getElem? hc)
  have hc2 := own_lat_get ql hc
  refine own_met_2_0 (M := M_lca) pn_lca rfl (by first | rfl | exact own_cat (by assumption)) (by first | rfl | exact own_cat (by assumption)) ?_
  refine own_iload_n (pc' := 1) rfl d_lca_0 rfl ?_
  refine own_aload_n (pc' := 2) rfl d_lca_1 rfl (by first | rfl | assumption) ?_
  refine own_arrlen (z := cs.length.toInt32) (pc' := 3) rfl d_lca_2 B (by rw [hn]; simp) ?_
  refine own_static2n (M' := M_ski) d_lca_3 (pc' := 6) rfl (tw_200 hw) (tw_201 hw) (tw_11 hw) (tw_202 hw) (by decide) rfl (own_lenOf pd_6 rfl) rfl rfl rfl rfl (c_ski K a0 hw rf hrf SF j _ h (by omega) (by omega)) (by simp) ?_
  rintro h1 xs rfl
  refine own_aload_n (pc' := 7) rfl d_lca_6 rfl (by first | rfl | assumption) ?_
  refine own_iload_n (pc' := 8) rfl d_lca_7 rfl ?_
  refine own_baload (pc' := 9) rfl d_lca_8 B (i := i) hj (by first | exact own_ints_get hc | exact own_ints_getM hc) ?_
  refine own_sipush (v := (255 : Int32)) (pc' := 12) rfl d_lca_9 rfl ?_
  refine own_iand (pc' := 13) rfl d_lca_12 ?_
  refine own_i2c (pc' := 14) rfl d_lca_13 ?_
  rw [own_lat_byte hcr.1 hc2, own_i2c_id hcr.1 hcr.2]
  refine own_ireturnN (t := .char) rfl (by simp) (own_i2c_id hcr.1 hcr.2) d_lca_14 rfl rfl ?_
  exact ⟨rfl, rfl⟩
theorem d_sca_0 : decode jdk_42_method_56_code 0 = .ok (.aload_n 0, 1) := by decide +kernel
theorem d_sca_1 : decode jdk_42_method_56_code 1 = .ok (.invokevirtual 492, 3) := by decide +kernel
theorem d_sca_4 : decode jdk_42_method_56_code 4 = .ok (.ifCond .eq 12, 3) := by decide +kernel
theorem d_sca_7 : decode jdk_42_method_56_code 7 = .ok (.aload_n 0, 1) := by decide +kernel
theorem d_sca_8 : decode jdk_42_method_56_code 8 = .ok (.getfield 9, 3) := by decide +kernel
theorem d_sca_11 : decode jdk_42_method_56_code 11 = .ok (.iload_n 1, 1) := by decide +kernel
theorem d_sca_12 : decode jdk_42_method_56_code 12 = .ok (.invokestatic 495, 3) := by decide +kernel
theorem d_sca_15 : decode jdk_42_method_56_code 15 = .ok (.ireturn, 1) := by decide +kernel
abbrev M_sca : own_Mi := ((⟨"java/lang/String", "charAt", "(I)C"⟩ : MethodName), jdk_42_method_56_code, 2, (Option.some FieldType.char), ({ frames := 3, cells := 0, slots := 0, locals := 40 } : Room))
theorem pn_sca : plainFor (own_Mi.y M_sca) = true := plainFor_of_name (by first | (simp [plainName, overriddenIn]; done) | decide +kernel)
set_option maxRecDepth 65536 in
set_option maxHeartbeats 40000000 in
theorem c_sca (K : own_Cx) (a0 : Array Value) (hw : ∀ d ∈ tables_1, d.before a0 K.Z = true)
    (g : Int32) (SC : Sta K.Z K.Z.heap own_sC "COMPACT_STRINGS" "Z" (.int g)) (hg : ¬ g = 0) (rf : Value) (hrf : rf.isRef = true) (SF : Sta K.Z K.Z.heap "jdk/internal/util/Preconditions" "SIOOBE_FORMATTER" "Ljava/util/function/BiFunction;" rf) (x : Addr) (cs : List Int32) (j : Int32) (i : Nat) (c : Int32) (h : Heap) (S : own_Str K.Z h x cs) (hl2 : cs.length < 2 ^ 29) (hj : j.toInt = i) (hc : cs[i]? = some c)
    (ql : own_lat cs = true)
    : own_Met K M_sca #[.ref x, .int j] [] h (own_ret fun w h' _ => w = .int c ∧ h' = h) := by
  have S' := S
  obtain ⟨E, hcs, hl, b, FV, FC, B⟩ := S'
  have hcr := hcs c (List.mem_of_getElem? hc)
  refine own_met_2_0 (M := M_sca) pn_sca rfl (by first | rfl | exact own_cat (by assumption)) (by first | rfl | exact own_cat (by assumption)) ?_
  refine own_aload_n (pc' := 1) rfl d_sca_0 rfl (by first | rfl | assumption) ?_
  refine own_virtual0v (M' := M_isl) d_sca_1 (pc' := 4) rfl (tw_191 hw) (tw_192 hw) (tw_194 hw) (tw_193 hw) (tw_11 hw) (tw_195 hw) (by decide) rfl (own_lenOf pd_7 rfl) rfl rfl rfl rfl E (c_isl K a0 hw g SC hg x cs h S) (by simp) ?_
  rintro w h1 xs ⟨rfl, rfl⟩
  rw [ql]
  · skip
    refine own_ifeq (pcT := 16) (pcF := 7) d_sca_4 (by decide) (by decide) rfl (fun q => ?_) (fun q => ?_)
    · exact absurd q (by decide)
    · skip
      refine own_aload_n (pc' := 8) rfl d_sca_7 rfl (by first | rfl | assumption) ?_
      refine own_getF (pc' := 11) rfl d_sca_8 (tw_36 hw) Via.refl (by assumption) ?_
      refine own_iload_n (pc' := 12) rfl d_sca_11 rfl ?_
      refine own_static2v (M' := M_lca) d_sca_12 (pc' := 15) rfl (tw_196 hw) (tw_197 hw) (tw_198 hw) (tw_199 hw) (by decide) rfl (own_lenOf pd_8 rfl) rfl rfl rfl rfl (c_lca K a0 hw rf hrf SF b cs j i c h1 hcs hl ql (by rw [(own_enc_lat ql).1] at B; exact B) hj hc) (by simp) ?_
      rintro w h2 xs2 ⟨rfl, rfl⟩
      refine own_ireturnN (t := .char) rfl (by simp) (own_i2c_id hcr.1 hcr.2) d_sca_15 rfl rfl ?_
      exact ⟨rfl, rfl⟩
/-! System.arraycopy between arrays of one primitive type -/
theorem own_toArv {Z : State} {h : Heap} {b : Addr} {ty : FieldType} {vs : List Value} {d : Value} (F : own_Ary Z h b ty vs) (hf : ∀ v ∈ vs, fits ty v = true) : ∃ k : ClassId, Arv Z h b k ty vs.length.toInt32 vs d := by
  obtain ⟨c, A, r1, r2⟩ := F
  have e1 : (vs.length.toInt32).toInt = vs.length := own_len r2
  have e2 : (vs.length.toInt32).toNatClampNeg = vs.length := by
    have : (vs.length.toInt32).toNatClampNeg = (vs.length.toInt32).toInt.toNat := rfl
    rw [this, e1]; rfl
  refine ⟨c.cls, c, A, rfl, by rw [r1, e2]; simp, fun z => ?_, fun i hi => ?_, fun i hi => ?_⟩
  · rw [Int32.lt_iff_toInt_lt, e1] at z
    have : (0 : Int32).toInt = 0 := rfl
    omega
  · have hi' : i < vs.length := by rw [r1] at hi; simpa using hi
    rw [r1]; simp [hi']
  · have hi' : i < vs.length := by rw [r1] at hi; simpa using hi
    have : vs.getD i d = vs[i] := by simp [hi']
    rw [this]
    exact hf _ (List.getElem_mem hi')
theorem own_cut {vs : List Value} {d : Value} {S N : Nat} (q : S + N ≤ vs.length) : (List.range N).map (fun i => vs.getD (S + i) d) = (vs.drop S).take N := by
  apply List.ext_getElem
  · simp; omega
  · intro i h1 h2
    have : i < N := by simpa using h1
    simp [show S + i < vs.length by omega]
theorem own_acopy {K : own_Cx} {M : own_Mi} {Q : own_Q} {pc pc' : Nat} {Ls : List Slot} {rest : List Value} {sf : List Addr} {h : Heap} {cs sl : Nat} {a0 : Array Value} {index : Nat} {a b : Addr} {ty : FieldType} {vs vd : List Value} {sp dp nn : Int32} {S D N : Nat}
    (hp : pc + 3 = pc') (hd : decode M.b pc = .ok (.invokestatic index, 3)) (w1 : (Jvm.Cond.methodLink M.y.cls index Jvm.Stand.acN).before a0 K.Z = true) (w2 : (Jvm.Cond.native Jvm.Stand.acN).before a0 K.Z = true) (w3 : (Jvm.Cond.static Jvm.Stand.acN).before a0 K.Z = true) (w4 : (Jvm.Cond.initialized "java/lang/System").before a0 K.Z = true)
    (hsz : Ls.length = M.mx) (hf : Nat.ble 1 M.R.frames = true) (hl : Nat.ble ((rest.map fun v => v.category).sum + (nativeFrameWords "java/lang/System" "arraycopy" 5 + 11)) M.R.locals = true) (hty : refKind ty = false)
    (A : own_Ary K.Z h a ty vs) (B : own_Ary K.Z h b ty vd) (fa : ∀ v ∈ vs, fits ty v = true) (fb : ∀ v ∈ vd, fits ty v = true) (hS : sp.toInt = S) (hD : dp.toInt = D) (hN : nn.toInt = N) (h4 : S + N ≤ vs.length) (h5 : D + N ≤ vd.length) (hbs : b ∈ sf)
    (k : ∀ h', Keep h h' [b] → own_Ary K.Z h' b ty (vd.take D ++ (vs.drop S).take N ++ vd.drop (D + N)) → own_WP K M Q pc' Ls rest sf h' cs sl) : own_WP K M Q pc Ls (.int nn :: .int dp :: .ref b :: .int sp :: .ref a :: rest) sf h cs sl := by
  subst hp
  intro p e s vm0 k0 m args below meth c T locs cs' sl' Bd X hc' hs' eT Fn I
  obtain ⟨i1, i2, i3, i4, i5, i6⟩ := I
  obtain ⟨ka, Aa⟩ := own_toArv (d := .int 0) A fa
  obtain ⟨kb, Ab⟩ := own_toArv (d := .int 0) B fb
  have lv : vs.length < 2 ^ 31 := by obtain ⟨_, _, _, r⟩ := A; exact r
  have ld : vd.length < 2 ^ 31 := by obtain ⟨_, _, _, r⟩ := B; exact r
  have nat : ∀ {x : Int32} {n : Nat}, x.toInt = n → x.toNatClampNeg = n ∧ ¬ x < 0 := fun {x n} q => by
    refine ⟨?_, fun z => ?_⟩
    · have : x.toNatClampNeg = x.toInt.toNat := rfl
      rw [this, q]; rfl
    · rw [Int32.lt_iff_toInt_lt, q] at z
      have : (0 : Int32).toInt = 0 := rfl
      omega
  have z1 := nat hS
  have z2 := nat hD
  have z3 := nat hN
  have z4 := nat (own_len lv)
  have z5 := nat (own_len ld)
  have hn := (i5 b hbs).1
  obtain ⟨T', h', L, X', e', N', kp, A', st⟩ := cpA X Bd.1 Bd.2.2.2.2.2.2.2.1 Bd.2.2.2.1 w1 w2 w3 w4 eT Aa Ab (Or.inl ⟨rfl, hty⟩) z1.2 z2.2 z3.2 (by omega) (by omega) rfl (by omega) Fn hn (g := mkF m pc Ls.toArray (.int nn :: .int dp :: .ref b :: .int sp :: .ref a :: rest)) rfl (by rw [Bd.2.2.1, ← hsz]; simp) rfl (hb Bd.2.1 hd) (Nat.le_of_ble_eq_true hf) (W := (rest.map fun v => v.category).sum) (by show 2 * 0 + _ ≤ _; omega) (Nat.le_of_ble_eq_true hl)
  rw [z1.1, z2.1, z3.1, own_cut h4] at A'
  have sk : ∀ x ∈ [b], Safe K.Z K.E vm0 h x := fun x hx => by cases List.mem_singleton.mp hx; exact (i5 b hbs).2.2
  have A2 : own_Ary K.Z h' b ty (vd.take D ++ (vs.drop S).take N ++ vd.drop (D + N)) := by
    have hl2 : (vd.take D ++ (vs.drop S).take N ++ vd.drop (D + N)).length = vd.length := by simp; omega
    obtain ⟨c, g1, -, g3, g4, g5, -⟩ := A'
    refine ⟨c, g1, ?_, by rw [hl2]; exact ld⟩
    apply Array.ext
    · rw [g3, z5.1]; simp; omega
    · intro i hi1 hi2
      have := g5 i hi1
      have hi3 : i < (vd.take D ++ (vs.drop S).take N ++ vd.drop (D + N)).length := by rw [hl2]; rw [g3, z5.1] at hi1; exact hi1
      simp only [Array.getElem?_eq_getElem hi1, List.getD_eq_getElem?_getD, List.getElem?_eq_getElem hi3, Option.getD_some, Option.some.injEq] at this
      simpa using this
  obtain ⟨s₂, o, h1, r⟩ := k h' kp A2 p e s vm0 k0 m args below meth c T' L cs' sl' Bd X' hc' hs' e' N'
    ⟨i1, Nat.le_trans i2 kp.1, i3, i4.trans (CHr.keep kp sk i4.1), fun x hx => ⟨(i5 x hx).1, Nat.lt_of_lt_of_le (i5 x hx).2.1 kp.1, Safe.keep kp sk i4.1 (i5 x hx).2.2⟩, ⟨Nat.le_trans i6.1 kp.1, fun x cc q => kp.2.1 x cc (i6.2 x cc q) fun hm => by
      have h1 := (Array.getElem?_eq_some_iff.mp q).1
      cases List.mem_singleton.mp hm
      exact Nat.lt_irrefl _ (Nat.lt_of_lt_of_le h1 hn)⟩⟩
  exact ⟨s₂, o, st _ h1, r⟩
/-! calls of private methods, of superclass methods, of a method that a subclass overrides -/
theorem own_decl {Z : State} {a0 : Array Value} {y : MethodName} {b : ByteArray} {mx : Nat} {ret : Option FieldType} (w : (Jvm.Cond.instanceMethod y).before a0 Z = true) (wc : (Jvm.Cond.code y b mx ret).before a0 Z = true) : (Jvm.Cond.declares y).before a0 Z = true := by
  obtain ⟨mk, methM, hnamed, hmethM, hstM, habM⟩ := Cond.instanceMethod_spec w
  obtain ⟨m2, cM, q1, -, -, -, -, -, -, hsig⟩ := Cond.code_spec hnamed wc
  cases hmethM.symm.trans q1
  simp [Cond.before, Cond.holds, Cond.value, hnamed, hmethM, hstM, hsig]
theorem own_nf {s : State} {a0 : Array Value} {C : String} {y y' : MethodName} (w : (Jvm.Cond.selects C y' y').before a0 s = true) (hy : y'.cls = y.cls) : NotFace s y := fun r0 h0 => by
  obtain ⟨c2, r2, m2, q1, q2, q3, q4, kP, hkP, hkPi⟩ := Cond.selects_spec w
  have e1 := findClass_of_methodNamed h0
  have e2 := findClass_of_methodNamed q3
  rw [hy, e1] at e2
  have e3 := Option.some.inj e2
  exact ⟨kP, by rw [e3]; exact hkP, hkPi⟩
theorem own_same {s : State} {a0 : Array Value} {C : String} {y y' : MethodName} (wi : (Jvm.Cond.instanceMethod y).before a0 s = true) (w : (Jvm.Cond.selects C y' y').before a0 s = true) (hy : y'.cls = y.cls) (hx : y.cls ≠ "java/lang/invoke/MethodHandle" ∧ y.cls ≠ "java/lang/invoke/VarHandle") : (Jvm.Cond.sameMethod y.cls y.cls y.name y.desc).before a0 s = true := by
  obtain ⟨mk, methM, hnamed, hmethM, hstM, habM⟩ := Cond.instanceMethod_spec wi
  obtain ⟨kr, h1, h2⟩ := own_nf w hy mk hnamed
  have e1 := findClass_of_methodNamed hnamed
  have e2 := State.methodFound?_of_named hnamed hx
  have e3 : s.methodNamed? ⟨y.cls, y.name, y.desc⟩ = some mk := hnamed
  simp [Cond.before, Cond.holds, Cond.value, e1, e2, e3, h1, h2]
section Calls2
variable {K : own_Cx} {M M' : own_Mi} {Q Q' : own_Q} {pc pc' : Nat} {Ls : List Slot} {St rest : List Value} {sf sf' : List Addr} {h : Heap} {cs sl : Nat} {a0 : Array Value}
theorem own_vz {index : Nat} {a : Addr} {C C' : String} {y y' : MethodName} {argsL : List Value} (hd : decode M.b pc = .ok (.invokevirtual index, 3)) (hp : pc + 3 = pc') (w1 : (Jvm.Cond.methodLink M.y.cls index y).before a0 K.Z = true) (w2 : (Jvm.Cond.declares y).before a0 K.Z = true) (wn : (Jvm.Cond.selects C' y' y').before a0 K.Z = true) (hyy : y'.cls = y.cls) (w5 : (Jvm.Cond.selects C y M'.y).before a0 K.Z = true) (w6 : (Jvm.Cond.instanceMethod M'.y).before a0 K.Z = true) (w3 : (Jvm.Cond.initialized M'.y.cls).before a0 K.Z = true) (w4 : (Jvm.Cond.code M'.y M'.b M'.mx M'.ret).before a0 K.Z = true)
    (hy : y.cls ≠ "java/lang/invoke/MethodHandle" ∧ y.cls ≠ "java/lang/invoke/VarHandle") (hsz : Ls.length = M.mx) (hlen : ∀ sig, parseMethodDescriptor y.desc = some sig → argsL.length = sig.parameters.length) (hst : St = argsL.reverse ++ .ref a :: rest)
    (hf : Nat.ble (M'.R.frames + 1) M.R.frames = true) (hl : Nat.ble ((rest.map fun v => v.category).sum + (M'.mx + 11) + M'.R.locals) M.R.locals = true) (hc : Nat.ble (cs + M'.R.cells) M.R.cells = true) (hs : Nat.ble (sl + M'.R.slots) M.R.slots = true)
    (E : Exa K.Z h a C) (hM : own_Met K M' (.ref a :: argsL).toArray sf' h Q') (hsf : ∀ x ∈ sf', x ∈ sf) (k : ∀ v h' xs, Q' v h' xs → own_WP K M Q pc' Ls (v.toList ++ rest) (xs ++ sf) h' (cs + M'.R.cells) (sl + M'.R.slots)) : own_WP K M Q pc Ls St sf h cs sl := by
  subst hst hp
  intro p e s vm0 k0 m args below meth c T locs cs' sl' B X hc' hs' eT N I
  have q1 := Nat.le_of_ble_eq_true hf
  have q2 := Nat.le_of_ble_eq_true hl
  have q3 := Nat.le_of_ble_eq_true hc
  have q4 := Nat.le_of_ble_eq_true hs
  obtain ⟨cB, kB, r1, r2, r3⟩ := isOf (T := T) B.2.2.2.2.2.2.2.1 eT E
  obtain ⟨v, vm₁, B', -, X', hS, hg, P, st⟩ := X.virtualBackS B.1 (y := y) (z := M'.y) B.2.2.2.1 (mv B.2.2.2.2.2.2.2.1 w1) (mv B.2.2.2.2.2.2.2.1 w2) (own_nf (a0 := #[]) (mv B.2.2.2.2.2.2.2.1 wn) hyy) (mv B.2.2.2.2.2.2.2.1 w5) (mv B.2.2.2.2.2.2.2.1 w6) hy
    (own_back (W := (rest.map fun v => v.category).sum) hM hsf B.2.2.2.2.2.2.2.1 B.2.2.2.2.2.2.2.2 I w4 w3 q1 q2) r1 r3 (g := mkF m pc Ls.toArray (argsL.reverse ++ .ref a :: rest)) rfl (by rw [B.2.2.1, ← hsz]; simp) (Steps.refl _) (argsL := argsL) (rest := rest) hlen rfl (by show 2 * 0 + _ ≤ _; omega) (hb B.2.1 hd)
    (fun vm₁ _ => ⟨rfl, eT, by show cs' + _ ≤ _; omega, by show sl' + _ ≤ _; omega⟩)
  exact own_called k B hc' hs' eT N I X' hS hg P st
theorem own_up {index : Nat} {a : Addr} {C C' : String} {y' : MethodName} {argsL : List Value} (hd : decode M.b pc = .ok (.invokespecial index, 3)) (hp : pc + 3 = pc') (hn : M'.y.name ≠ "<init>") (w1 : (Jvm.Cond.methodLink M.y.cls index M'.y).before a0 K.Z = true) (w2 : (Jvm.Cond.superclass M.y.cls M'.y.cls).before a0 K.Z = true) (wn : (Jvm.Cond.selects C' y' y').before a0 K.Z = true) (hyy : y'.cls = M'.y.cls) (w6 : (Jvm.Cond.instanceMethod M'.y).before a0 K.Z = true) (w3 : (Jvm.Cond.initialized M'.y.cls).before a0 K.Z = true) (w4 : (Jvm.Cond.code M'.y M'.b M'.mx M'.ret).before a0 K.Z = true)
    (hy : M'.y.cls ≠ "java/lang/invoke/MethodHandle" ∧ M'.y.cls ≠ "java/lang/invoke/VarHandle") (hsz : Ls.length = M.mx) (hlen : ∀ sig, parseMethodDescriptor M'.y.desc = some sig → argsL.length = sig.parameters.length) (hst : St = argsL.reverse ++ .ref a :: rest)
    (hf : Nat.ble (M'.R.frames + 1) M.R.frames = true) (hl : Nat.ble ((rest.map fun v => v.category).sum + (M'.mx + 11) + M'.R.locals) M.R.locals = true) (hc : Nat.ble (cs + M'.R.cells) M.R.cells = true) (hs : Nat.ble (sl + M'.R.slots) M.R.slots = true)
    (E : Ins K.Z h a C true) (hM : own_Met K M' (.ref a :: argsL).toArray sf' h Q') (hsf : ∀ x ∈ sf', x ∈ sf) (k : ∀ v h' xs, Q' v h' xs → own_WP K M Q pc' Ls (v.toList ++ rest) (xs ++ sf) h' (cs + M'.R.cells) (sl + M'.R.slots)) : own_WP K M Q pc Ls St sf h cs sl := by
  subst hst hp
  intro p e s vm0 k0 m args below meth c T locs cs' sl' B X hc' hs' eT N I
  have q1 := Nat.le_of_ble_eq_true hf
  have q2 := Nat.le_of_ble_eq_true hl
  have q3 := Nat.le_of_ble_eq_true hc
  have q4 := Nat.le_of_ble_eq_true hs
  obtain ⟨v, vm₁, B', -, X', hS, hg, P, st⟩ := superBackS X B.1 B.2.2.2.2.2.2.2.1 (y := M'.y) B.2.2.2.1 w1 (own_same w6 wn hyy hy) w6 w2 hn
    (own_back (W := (rest.map fun v => v.category).sum) hM hsf B.2.2.2.2.2.2.2.1 B.2.2.2.2.2.2.2.2 I w4 w3 q1 q2) eT E (g := mkF m pc Ls.toArray (argsL.reverse ++ .ref a :: rest)) rfl (by rw [B.2.2.1, ← hsz]; simp) w4 (argsL := argsL) (rest := rest) hlen rfl (by show 2 * 0 + _ ≤ _; omega) (hb B.2.1 hd)
    (fun vm₁ _ => ⟨rfl, eT, by show cs' + _ ≤ _; omega, by show sl' + _ ≤ _; omega⟩)
  exact own_called k B hc' hs' eT N I X' hS hg P st
end Calls2
theorem own_vz0v {K : own_Cx} {M M' : own_Mi} {Q : own_Q} {pc pc' : Nat} {Ls : List Slot} {rest : List Value} {sf sf' : List Addr} {h : Heap} {cs sl : Nat} {a0 : Array Value} {index : Nat} {a : Addr} {C C' : String} {y y' : MethodName} {q' : Value → Heap → List Addr → Prop} (hd : decode M.b pc = .ok (.invokevirtual index, 3)) (hp : pc + 3 = pc') (w1 : (Jvm.Cond.methodLink M.y.cls index y).before a0 K.Z = true) (w2 : (Jvm.Cond.declares y).before a0 K.Z = true) (wn : (Jvm.Cond.selects C' y' y').before a0 K.Z = true) (hyy : y'.cls = y.cls) (w5 : (Jvm.Cond.selects C y M'.y).before a0 K.Z = true) (w6 : (Jvm.Cond.instanceMethod M'.y).before a0 K.Z = true) (w3 : (Jvm.Cond.initialized M'.y.cls).before a0 K.Z = true) (w4 : (Jvm.Cond.code M'.y M'.b M'.mx M'.ret).before a0 K.Z = true) (hy : y.cls ≠ "java/lang/invoke/MethodHandle" ∧ y.cls ≠ "java/lang/invoke/VarHandle") (hsz : Ls.length = M.mx) (hlen : ∀ sig, parseMethodDescriptor y.desc = some sig → 0 = sig.parameters.length)
    (hf : Nat.ble (M'.R.frames + 1) M.R.frames = true) (hl : Nat.ble ((rest.map fun v => v.category).sum + (M'.mx + 11) + M'.R.locals) M.R.locals = true) (hc : Nat.ble (cs + M'.R.cells) M.R.cells = true) (hs : Nat.ble (sl + M'.R.slots) M.R.slots = true) (E : Exa K.Z h a C) (hM : own_Met K M' #[.ref a] sf' h (own_ret q')) (hsf : ∀ x ∈ sf', x ∈ sf) (k : ∀ w h' xs, q' w h' xs → own_WP K M Q pc' Ls (w :: rest) (xs ++ sf) h' (cs + M'.R.cells) (sl + M'.R.slots)) :
    own_WP K M Q pc Ls (.ref a :: rest) sf h cs sl := own_vz (argsL := []) hd hp w1 w2 wn hyy w5 w6 w3 w4 hy hsz hlen rfl hf hl hc hs E hM hsf (fun v h' xs ⟨w, e, q⟩ => by subst e; exact k w h' xs q)
theorem own_up0v {K : own_Cx} {M M' : own_Mi} {Q : own_Q} {pc pc' : Nat} {Ls : List Slot} {rest : List Value} {sf sf' : List Addr} {h : Heap} {cs sl : Nat} {a0 : Array Value} {index : Nat} {a : Addr} {C C' : String} {y' : MethodName} {q' : Value → Heap → List Addr → Prop} (hd : decode M.b pc = .ok (.invokespecial index, 3)) (hp : pc + 3 = pc') (hn : M'.y.name ≠ "<init>") (w1 : (Jvm.Cond.methodLink M.y.cls index M'.y).before a0 K.Z = true) (w2 : (Jvm.Cond.superclass M.y.cls M'.y.cls).before a0 K.Z = true) (wn : (Jvm.Cond.selects C' y' y').before a0 K.Z = true) (hyy : y'.cls = M'.y.cls) (w6 : (Jvm.Cond.instanceMethod M'.y).before a0 K.Z = true) (w3 : (Jvm.Cond.initialized M'.y.cls).before a0 K.Z = true) (w4 : (Jvm.Cond.code M'.y M'.b M'.mx M'.ret).before a0 K.Z = true) (hy : M'.y.cls ≠ "java/lang/invoke/MethodHandle" ∧ M'.y.cls ≠ "java/lang/invoke/VarHandle") (hsz : Ls.length = M.mx) (hlen : ∀ sig, parseMethodDescriptor M'.y.desc = some sig → 0 = sig.parameters.length)
    (hf : Nat.ble (M'.R.frames + 1) M.R.frames = true) (hl : Nat.ble ((rest.map fun v => v.category).sum + (M'.mx + 11) + M'.R.locals) M.R.locals = true) (hc : Nat.ble (cs + M'.R.cells) M.R.cells = true) (hs : Nat.ble (sl + M'.R.slots) M.R.slots = true) (E : Ins K.Z h a C true) (hM : own_Met K M' #[.ref a] sf' h (own_ret q')) (hsf : ∀ x ∈ sf', x ∈ sf) (k : ∀ w h' xs, q' w h' xs → own_WP K M Q pc' Ls (w :: rest) (xs ++ sf) h' (cs + M'.R.cells) (sl + M'.R.slots)) :
    own_WP K M Q pc Ls (.ref a :: rest) sf h cs sl := own_up (argsL := []) hd hp hn w1 w2 wn hyy w6 w3 w4 hy hsz hlen rfl hf hl hc hs E hM hsf (fun v h' xs ⟨w, e, q⟩ => by subst e; exact k w h' xs q)
theorem own_up1v {K : own_Cx} {M M' : own_Mi} {Q : own_Q} {pc pc' : Nat} {Ls : List Slot} {rest : List Value} {sf sf' : List Addr} {h : Heap} {cs sl : Nat} {a0 : Array Value} {index : Nat} {a : Addr} {C C' : String} {y' : MethodName} {v0 : Value} {q' : Value → Heap → List Addr → Prop} (hd : decode M.b pc = .ok (.invokespecial index, 3)) (hp : pc + 3 = pc') (hn : M'.y.name ≠ "<init>") (w1 : (Jvm.Cond.methodLink M.y.cls index M'.y).before a0 K.Z = true) (w2 : (Jvm.Cond.superclass M.y.cls M'.y.cls).before a0 K.Z = true) (wn : (Jvm.Cond.selects C' y' y').before a0 K.Z = true) (hyy : y'.cls = M'.y.cls) (w6 : (Jvm.Cond.instanceMethod M'.y).before a0 K.Z = true) (w3 : (Jvm.Cond.initialized M'.y.cls).before a0 K.Z = true) (w4 : (Jvm.Cond.code M'.y M'.b M'.mx M'.ret).before a0 K.Z = true) (hy : M'.y.cls ≠ "java/lang/invoke/MethodHandle" ∧ M'.y.cls ≠ "java/lang/invoke/VarHandle") (hsz : Ls.length = M.mx) (hlen : ∀ sig, parseMethodDescriptor M'.y.desc = some sig → 1 = sig.parameters.length)
    (hf : Nat.ble (M'.R.frames + 1) M.R.frames = true) (hl : Nat.ble ((rest.map fun v => v.category).sum + (M'.mx + 11) + M'.R.locals) M.R.locals = true) (hc : Nat.ble (cs + M'.R.cells) M.R.cells = true) (hs : Nat.ble (sl + M'.R.slots) M.R.slots = true) (E : Ins K.Z h a C true) (hM : own_Met K M' #[.ref a, v0] sf' h (own_ret q')) (hsf : ∀ x ∈ sf', x ∈ sf) (k : ∀ w h' xs, q' w h' xs → own_WP K M Q pc' Ls (w :: rest) (xs ++ sf) h' (cs + M'.R.cells) (sl + M'.R.slots)) :
    own_WP K M Q pc Ls (v0 :: .ref a :: rest) sf h cs sl := own_up (argsL := [v0]) hd hp hn w1 w2 wn hyy w6 w3 w4 hy hsz hlen rfl hf hl hc hs E hM hsf (fun v h' xs ⟨w, e, q⟩ => by subst e; exact k w h' xs q)
theorem d_mmn_0 : decode jdk_29_method_69_code 0 = .ok (.iload_n 0, 1) := by decide +kernel
theorem d_mmn_1 : decode jdk_29_method_69_code 1 = .ok (.iload_n 1, 1) := by decide +kernel
theorem d_mmn_2 : decode jdk_29_method_69_code 2 = .ok (.if_icmp .gt 7, 3) := by decide +kernel
theorem d_mmn_5 : decode jdk_29_method_69_code 5 = .ok (.iload_n 0, 1) := by decide +kernel
theorem d_mmn_6 : decode jdk_29_method_69_code 6 = .ok (.goto 4, 3) := by decide +kernel
theorem d_mmn_9 : decode jdk_29_method_69_code 9 = .ok (.iload_n 1, 1) := by decide +kernel
theorem d_mmn_10 : decode jdk_29_method_69_code 10 = .ok (.ireturn, 1) := by decide +kernel
abbrev M_mmn : own_Mi := ((⟨"java/lang/Math", "min", "(II)I"⟩ : MethodName), jdk_29_method_69_code, 2, (Option.some FieldType.int), ({ frames := 0, cells := 0, slots := 0, locals := 0 } : Room))
theorem pn_mmn : plainFor (own_Mi.y M_mmn) = true := Jvm.Free.JP.mathPlain rfl (by decide +kernel)
set_option maxRecDepth 65536 in
set_option maxHeartbeats 40000000 in
theorem c_mmn (K : own_Cx) (a0 : Array Value) (hw : ∀ d ∈ tables_1, d.before a0 K.Z = true) (x y : Int32) (h : Heap) :
    own_Met K M_mmn #[.int x, .int y] [] h (own_ret fun w h' _ => ∃ r : Int32, w = .int r ∧ ((y.toInt < x.toInt ∧ r = y) ∨ (x.toInt ≤ y.toInt ∧ r = x)) ∧ h' = h) := by
  refine own_met_2_0 (M := M_mmn) pn_mmn rfl (by first | rfl | exact own_cat (by assumption)) (by first | rfl | exact own_cat (by assumption)) ?_
  refine own_iload_n (pc' := 1) rfl d_mmn_0 rfl ?_
  refine own_iload_n (pc' := 2) rfl d_mmn_1 rfl ?_
  refine own_icmpgt (pcT := 9) (pcF := 5) d_mmn_2 (by decide) (by decide) rfl (fun q => ?_) (fun q => ?_)
  · rw [Int32.lt_iff_toInt_lt] at q
    refine own_iload_n (pc' := 10) rfl d_mmn_9 rfl ?_
    refine own_ireturn rfl d_mmn_10 rfl rfl ?_
    exact ⟨y, rfl, Or.inl ⟨q, rfl⟩, rfl⟩
  · rw [Int32.lt_iff_toInt_lt] at q
    refine own_iload_n (pc' := 6) rfl d_mmn_5 rfl ?_
    refine own_goto (pc' := 10) d_mmn_6 (by decide) (by decide) ?_
    refine own_ireturn rfl d_mmn_10 rfl rfl ?_
    exact ⟨x, rfl, Or.inr ⟨by omega, rfl⟩, rfl⟩
/-! Arrays.copyOfRange of bytes, where it does not take the whole array -/
theorem own_fits_bt (xs : List Int32) (q : ∀ x ∈ xs, ∃ c : Int32, x = c.toInt8.toInt32) : ∀ v ∈ own_ints xs, fits .byte v = true := by
  intro v hv
  obtain ⟨x, hx, rfl⟩ := List.mem_map.mp hv
  obtain ⟨c, rfl⟩ := q x hx
  exact fits_nar_byte c
def own_Bys (vs : List Value) : Prop := ∀ v ∈ vs, fits .byte v = true
theorem own_Bys.app {vs ws : List Value} (h1 : own_Bys vs) (h2 : own_Bys ws) : own_Bys (vs ++ ws) := fun v hv => (List.mem_append.mp hv).elim (h1 v) (h2 v)
theorem own_Bys.zero (n : Nat) : own_Bys (List.replicate n (.int 0)) := fun v hv => by
  cases (List.mem_replicate.mp hv).2
  rfl
theorem own_Bys.lat (cs : List Int32) : own_Bys (own_ints (cs.map own_bt)) := own_fits_bt _ (fun x hx => by obtain ⟨c, -, rfl⟩ := List.mem_map.mp hx; exact ⟨c, rfl⟩)
theorem own_Bys.two (cs : List Int32) : own_Bys (own_ints (own_two cs)) := own_fits_bt _ (fun x hx => by
  obtain ⟨c, -, hc⟩ := List.mem_flatMap.mp hx
  simp only [List.mem_cons, List.not_mem_nil, or_false] at hc
  rcases hc with rfl | rfl
  · exact ⟨c, rfl⟩
  · exact ⟨_, rfl⟩)
theorem own_Bys.enc (cs : List Int32) : own_Bys (own_ints (own_enc cs)) := by
  unfold own_enc
  split
  · exact own_Bys.lat cs
  · exact own_Bys.two cs
theorem d_ckl_0 : decode jdk_65_method_131_code 0 = .ok (.iload_n 1, 1) := by decide +kernel
theorem d_ckl_1 : decode jdk_65_method_131_code 1 = .ok (.iload_n 0, 1) := by decide +kernel
theorem d_ckl_2 : decode jdk_65_method_131_code 2 = .ok (.if_icmp .ge 35, 3) := by decide +kernel
theorem d_ckl_37 : decode jdk_65_method_131_code 37 = .ok (.return_, 1) := by decide +kernel
abbrev M_ckl : own_Mi := ((⟨"java/util/Arrays", "checkLength", "(II)V"⟩ : MethodName), jdk_65_method_131_code, 2, (Option.none : Option FieldType), ({ frames := 0, cells := 0, slots := 0, locals := 0 } : Room))
theorem pn_ckl : plainFor (own_Mi.y M_ckl) = true := plainFor_of_name (by first | (simp [plainName, overriddenIn]; done) | decide +kernel)
set_option maxRecDepth 65536 in
set_option maxHeartbeats 40000000 in
theorem c_ckl (K : own_Cx) (a0 : Array Value) (hw : ∀ d ∈ tables_1, d.before a0 K.Z = true) (f t : Int32) (h : Heap) (q : f.toInt ≤ t.toInt) :
    own_Met K M_ckl #[.int f, .int t] [] h (own_void fun h' _ => h' = h) := by
  refine own_met_2_0 (M := M_ckl) pn_ckl rfl (by first | rfl | exact own_cat (by assumption)) (by first | rfl | exact own_cat (by assumption)) ?_
  refine own_iload_n (pc' := 1) rfl d_ckl_0 rfl ?_
  refine own_iload_n (pc' := 2) rfl d_ckl_1 rfl ?_
  refine own_icmpge (pcT := 37) (pcF := 5) d_ckl_2 (by decide) (by decide) rfl (fun z => ?_) (fun z => ?_)
  · skip
    refine own_return rfl d_ckl_37 rfl rfl ?_
    rfl
  · rw [Int32.lt_iff_toInt_lt] at z
    omega
theorem d_cob_0 : decode jdk_65_method_133_code 0 = .ok (.iload_n 1, 1) := by decide +kernel
theorem d_cob_1 : decode jdk_65_method_133_code 1 = .ok (.iload_n 2, 1) := by decide +kernel
theorem d_cob_2 : decode jdk_65_method_133_code 2 = .ok (.invokestatic 343, 3) := by decide +kernel
theorem d_cob_5 : decode jdk_65_method_133_code 5 = .ok (.iload_n 2, 1) := by decide +kernel
theorem d_cob_6 : decode jdk_65_method_133_code 6 = .ok (.iload_n 1, 1) := by decide +kernel
theorem d_cob_7 : decode jdk_65_method_133_code 7 = .ok (.isub, 1) := by decide +kernel
theorem d_cob_8 : decode jdk_65_method_133_code 8 = .ok (.istore_n 3, 1) := by decide +kernel
theorem d_cob_9 : decode jdk_65_method_133_code 9 = .ok (.iload_n 3, 1) := by decide +kernel
theorem d_cob_10 : decode jdk_65_method_133_code 10 = .ok (.newarray .byte, 2) := by decide +kernel
theorem d_cob_12 : decode jdk_65_method_133_code 12 = .ok (.astore 4, 2) := by decide +kernel
theorem d_cob_14 : decode jdk_65_method_133_code 14 = .ok (.aload_n 0, 1) := by decide +kernel
theorem d_cob_15 : decode jdk_65_method_133_code 15 = .ok (.iload_n 1, 1) := by decide +kernel
theorem d_cob_16 : decode jdk_65_method_133_code 16 = .ok (.aload 4, 2) := by decide +kernel
theorem d_cob_18 : decode jdk_65_method_133_code 18 = .ok (.iconst 0, 1) := by decide +kernel
theorem d_cob_19 : decode jdk_65_method_133_code 19 = .ok (.aload_n 0, 1) := by decide +kernel
theorem d_cob_20 : decode jdk_65_method_133_code 20 = .ok (.arraylength, 1) := by decide +kernel
theorem d_cob_21 : decode jdk_65_method_133_code 21 = .ok (.iload_n 1, 1) := by decide +kernel
theorem d_cob_22 : decode jdk_65_method_133_code 22 = .ok (.isub, 1) := by decide +kernel
theorem d_cob_23 : decode jdk_65_method_133_code 23 = .ok (.iload_n 3, 1) := by decide +kernel
theorem d_cob_24 : decode jdk_65_method_133_code 24 = .ok (.invokestatic 304, 3) := by decide +kernel
theorem d_cob_27 : decode jdk_65_method_133_code 27 = .ok (.invokestatic 150, 3) := by decide +kernel
theorem d_cob_30 : decode jdk_65_method_133_code 30 = .ok (.aload 4, 2) := by decide +kernel
theorem d_cob_32 : decode jdk_65_method_133_code 32 = .ok (.areturn, 1) := by decide +kernel
abbrev M_cob : own_Mi := ((⟨"java/util/Arrays", "copyOfRangeByte", "([BII)[B"⟩ : MethodName), jdk_65_method_133_code, 5, (Option.some (FieldType.array FieldType.byte)), ({ frames := 1, cells := 1, slots := 16, locals := 40 } : Room))
theorem pn_cob : plainFor (own_Mi.y M_cob) = true := plainFor_of_name (by first | (simp [plainName, overriddenIn]; done) | decide +kernel)
set_option maxRecDepth 65536 in
set_option maxHeartbeats 40000000 in
theorem c_cob (K : own_Cx) (a0 : Array Value) (hw : ∀ d ∈ tables_1, d.before a0 K.Z = true) (b : Addr) (f t : Int32) (F T : Nat) (vs : List Value) (h : Heap) (hf : f.toInt = F) (ht : t.toInt = T) (hFT : F ≤ T) (hT : T ≤ vs.length) (hcap : T - F ≤ 16) (hby : own_Bys vs) (B : own_Ary K.Z h b .byte vs) :
    own_Met K M_cob #[.ref b, .int f, .int t] [] h (own_ret fun w h' xs => ∃ b' : Addr, w = .ref b' ∧ Ext h h' ∧ h.size ≤ b' ∧ b' ∈ xs ∧ own_Ary K.Z h' b' .byte ((vs.drop F).take (T - F))) := by
  have hlv : vs.length < 2 ^ 31 := by obtain ⟨_, _, _, r⟩ := B; exact r
  have hz : (vs.length.toInt32).toInt = vs.length := own_lit _ hlv
  have hd : (t - f).toInt = ((T - F : Nat) : Int) := by rw [own_sub ht hf] <;> omega
  have hd2 : (vs.length.toInt32 - f).toInt = ((vs.length - F : Nat) : Int) := by rw [own_sub hz hf] <;> omega
  refine own_met_3_2 (M := M_cob) pn_cob rfl (by first | rfl | exact own_cat (by assumption)) (by first | rfl | exact own_cat (by assumption)) (by first | rfl | exact own_cat (by assumption)) ?_
  refine own_iload_n (pc' := 1) rfl d_cob_0 rfl ?_
  refine own_iload_n (pc' := 2) rfl d_cob_1 rfl ?_
  refine own_static2n (M' := M_ckl) d_cob_2 (pc' := 5) rfl (tw_177 hw) (tw_178 hw) (tw_172 hw) (tw_179 hw) (by decide) rfl (own_lenOf pd_6 rfl) rfl rfl rfl rfl (c_ckl K a0 hw f t h (by omega)) (by simp) ?_
  rintro h1 xs rfl
  refine own_iload_n (pc' := 6) rfl d_cob_5 rfl ?_
  refine own_iload_n (pc' := 7) rfl d_cob_6 rfl ?_
  refine own_isub (pc' := 8) rfl d_cob_7 ?_
  refine own_istore_n3 (pc' := 9) rfl d_cob_8 (by first | exact One.u | exact One.val rfl | assumption | exact One.val (by assumption)) ?_
  refine own_iload_n (pc' := 10) rfl d_cob_9 rfl ?_
  refine own_newarray (pc' := 12) rfl d_cob_10 (tw_27 hw) (N := (T - F)) (cap := 16) hd hcap rfl rfl rfl ?_
  intro b2 h2 eb2 E2 B2
  refine own_astore_4 (pc' := 14) rfl d_cob_12 (by first | exact One.u | exact One.val rfl | assumption | exact One.val (by assumption)) (by first | rfl | assumption) ?_
  refine own_aload_n (pc' := 15) rfl d_cob_14 rfl (by first | rfl | assumption) ?_
  refine own_iload_n (pc' := 16) rfl d_cob_15 rfl ?_
  refine own_aload (pc' := 18) rfl d_cob_16 rfl (by first | rfl | assumption) ?_
  refine own_iconst (v := (0 : Int32)) (pc' := 19) rfl d_cob_18 rfl ?_
  refine own_aload_n (pc' := 20) rfl d_cob_19 rfl (by first | rfl | assumption) ?_
  refine own_arrlen (z := vs.length.toInt32) (pc' := 21) rfl d_cob_20 (B.ext E2) hz ?_
  refine own_iload_n (pc' := 22) rfl d_cob_21 rfl ?_
  refine own_isub (pc' := 23) rfl d_cob_22 ?_
  refine own_iload_n (pc' := 24) rfl d_cob_23 rfl ?_
  refine own_static2v (M' := M_mmn) d_cob_24 (pc' := 27) rfl (tw_180 hw) (tw_181 hw) (tw_182 hw) (tw_183 hw) (by decide) rfl (own_lenOf pd_9 rfl) rfl rfl rfl rfl (c_mmn K a0 hw (vs.length.toInt32 - f) (t - f) h2) (by simp) ?_
  rintro w h3 xs3 ⟨r, rfl, hr, rfl⟩
  have hr' : r.toInt = ((T - F : Nat) : Int) := by rcases hr with ⟨z, rfl⟩ | ⟨z, rfl⟩ <;> omega
  refine own_acopy (pc' := 30) rfl d_cob_27 (tw_184 hw) (tw_138 hw) (tw_136 hw) (tw_137 hw) rfl rfl rfl rfl (B.ext E2) B2 hby (own_Bys.zero _) (S := F) (D := 0) (N := (T - F)) hf rfl hr' (by omega) (by simp) (by simp) ?_
  intro h4 k4 B4
  refine own_aload (pc' := 32) rfl d_cob_30 rfl (by first | rfl | assumption) ?_
  refine own_areturn rfl rfl (by first | rfl | assumption) d_cob_32 rfl rfl ?_
  refine ⟨b2, rfl, own_ext_keep E2 k4 (by intro x hx; cases List.mem_singleton.mp hx; omega), by omega, by simp, ?_⟩
  have e : ((List.replicate (T - F) (Value.int 0)).take 0 ++ (vs.drop F).take (T - F) ++ (List.replicate (T - F) (Value.int 0)).drop (0 + (T - F))) = (vs.drop F).take (T - F) := by simp
  rw [← e]
  exact B4
theorem d_cor_0 : decode jdk_65_method_132_code 0 = .ok (.iload_n 1, 1) := by decide +kernel
theorem d_cor_1 : decode jdk_65_method_132_code 1 = .ok (.ifCond .ne 9, 3) := by decide +kernel
theorem d_cor_4 : decode jdk_65_method_132_code 4 = .ok (.iload_n 2, 1) := by decide +kernel
theorem d_cor_5 : decode jdk_65_method_132_code 5 = .ok (.aload_n 0, 1) := by decide +kernel
theorem d_cor_6 : decode jdk_65_method_132_code 6 = .ok (.arraylength, 1) := by decide +kernel
theorem d_cor_7 : decode jdk_65_method_132_code 7 = .ok (.if_icmp .eq 10, 3) := by decide +kernel
theorem d_cor_10 : decode jdk_65_method_132_code 10 = .ok (.aload_n 0, 1) := by decide +kernel
theorem d_cor_11 : decode jdk_65_method_132_code 11 = .ok (.iload_n 1, 1) := by decide +kernel
theorem d_cor_12 : decode jdk_65_method_132_code 12 = .ok (.iload_n 2, 1) := by decide +kernel
theorem d_cor_13 : decode jdk_65_method_132_code 13 = .ok (.invokestatic 339, 3) := by decide +kernel
theorem d_cor_16 : decode jdk_65_method_132_code 16 = .ok (.areturn, 1) := by decide +kernel
abbrev M_cor : own_Mi := ((⟨"java/util/Arrays", "copyOfRange", "([BII)[B"⟩ : MethodName), jdk_65_method_132_code, 3, (Option.some (FieldType.array FieldType.byte)), ({ frames := 2, cells := 1, slots := 16, locals := 56 } : Room))
theorem pn_cor : plainFor (own_Mi.y M_cor) = true := plainFor_of_name (by first | (simp [plainName, overriddenIn]; done) | decide +kernel)
set_option maxRecDepth 65536 in
set_option maxHeartbeats 40000000 in
theorem c_cor (K : own_Cx) (a0 : Array Value) (hw : ∀ d ∈ tables_1, d.before a0 K.Z = true) (b : Addr) (f t : Int32) (F T : Nat) (vs : List Value) (h : Heap) (hf : f.toInt = F) (ht : t.toInt = T) (hFT : F ≤ T) (hT : T ≤ vs.length) (hne : F = 0 → T ≠ vs.length) (hcap : T - F ≤ 16) (hby : own_Bys vs) (B : own_Ary K.Z h b .byte vs) :
    own_Met K M_cor #[.ref b, .int f, .int t] [] h (own_ret fun w h' xs => ∃ b' : Addr, w = .ref b' ∧ Ext h h' ∧ h.size ≤ b' ∧ b' ∈ xs ∧ own_Ary K.Z h' b' .byte ((vs.drop F).take (T - F))) := by
  have hlv : vs.length < 2 ^ 31 := by obtain ⟨_, _, _, r⟩ := B; exact r
  have hz : (vs.length.toInt32).toInt = vs.length := own_lit _ hlv
  have key : own_WP K M_cor (own_ret fun w h' xs => ∃ b' : Addr, w = .ref b' ∧ Ext h h' ∧ h.size ≤ b' ∧ b' ∈ xs ∧ own_Ary K.Z h' b' .byte ((vs.drop F).take (T - F))) 10 [.val (.ref b), .val (.int f), .val (.int t)] [] [] h 0 0 := by
    refine own_aload_n (pc' := 11) rfl d_cor_10 rfl (by first | rfl | assumption) ?_
    refine own_iload_n (pc' := 12) rfl d_cor_11 rfl ?_
    refine own_iload_n (pc' := 13) rfl d_cor_12 rfl ?_
    refine own_static3v (M' := M_cob) d_cor_13 (pc' := 16) rfl (tw_174 hw) (tw_175 hw) (tw_172 hw) (tw_176 hw) (by decide) rfl (own_lenOf pd_10 rfl) rfl rfl rfl rfl (c_cob K a0 hw b f t F T vs h hf ht hFT hT hcap hby B) (by simp) ?_
    rintro w h1 xs ⟨b', rfl, E1, hb', hx, B'⟩
    refine own_areturn rfl rfl (by first | rfl | assumption) d_cor_16 rfl rfl ?_
    exact ⟨b', rfl, E1, hb', by simp [hx], B'⟩
  refine own_met_3_0 (M := M_cor) pn_cor rfl (by first | rfl | exact own_cat (by assumption)) (by first | rfl | exact own_cat (by assumption)) (by first | rfl | exact own_cat (by assumption)) ?_
  refine own_iload_n (pc' := 1) rfl d_cor_0 rfl ?_
  refine own_ifne (pcT := 10) (pcF := 4) d_cor_1 (by decide) (by decide) rfl (fun q => ?_) (fun q => ?_)
  · exact key
  · have hF0 : F = 0 := by rw [q] at hf; have : (0 : Int32).toInt = 0 := rfl; omega
    refine own_iload_n (pc' := 5) rfl d_cor_4 rfl ?_
    refine own_aload_n (pc' := 6) rfl d_cor_5 rfl (by first | rfl | assumption) ?_
    refine own_arrlen (z := vs.length.toInt32) (pc' := 7) rfl d_cor_6 B hz ?_
    refine own_icmpeq (pcT := 17) (pcF := 10) d_cor_7 (by decide) (by decide) rfl (fun q2 => ?_) (fun q2 => ?_)
    · exfalso
      rw [q2, hz] at ht
      exact hne hF0 (by omega)
    · exact key
/-! StringBuilder of bytes (each char below 256) -/
abbrev own_bC : String := "java/lang/StringBuilder"
abbrev own_bA : String := "java/lang/AbstractStringBuilder"
def own_SB (Z : State) (h : Heap) (t b : Addr) (cs : List Int32) (cap : Nat) : Prop := Exa Z h t own_bC ∧ own_Chs cs ∧ cs.length ≤ cap ∧ cap < 2 ^ 28 ∧ own_lat cs = true ∧ Fld Z h t own_bA "value" "[B" (.ref b) ∧ Fld Z h t own_bA "coder" "B" (.int 0) ∧ Fld Z h t own_bA "count" "I" (.int cs.length.toInt32) ∧ own_Ary Z h b .byte (own_ints (cs.map own_bt) ++ List.replicate (cap - cs.length) (.int 0))
theorem own_SB.ext {Z : State} {h h' : Heap} {t b : Addr} {cs : List Int32} {cap : Nat} (F : own_SB Z h t b cs cap) (E : Ext h h') : own_SB Z h' t b cs cap := by
  obtain ⟨h1, h2, h3, h4, h5, h6, h7, h8, h9⟩ := F
  exact ⟨h1.ext E, h2, h3, h4, h5, h6.ext E, h7.ext E, h8.ext E, h9.ext E⟩
theorem own_lat_app {cs ds : List Int32} (h1 : own_lat cs = true) (h2 : own_lat ds = true) : own_lat (cs ++ ds) = true := by
  simp only [own_lat, List.all_append, Bool.and_eq_true] at h1 h2 ⊢
  exact ⟨h1, h2⟩
theorem own_chs_app {cs ds : List Int32} (h1 : own_Chs cs) (h2 : own_Chs ds) : own_Chs (cs ++ ds) := fun c hc => (List.mem_append.mp hc).elim (h1 c) (h2 c)
/-- what arraycopy leaves -/
theorem own_put_end {L R : List Value} {z : Value} {n : Nat} (q : R.length ≤ n) : (L ++ List.replicate n z).take L.length ++ (R.drop 0).take R.length ++ (L ++ List.replicate n z).drop (L.length + R.length) = L ++ R ++ List.replicate (n - R.length) z := by
  simp [List.drop_append, List.drop_replicate]
theorem own_nadd {x y : Int32} {m n : Nat} (hx : x.toInt = m) (hy : y.toInt = n) (q : m + n < 2 ^ 31) : x + y = (m + n).toInt32 := by
  apply Int32.toInt_inj.mp
  rw [own_lit _ q, own_add hx hy] <;> omega
theorem own_sslots {Z : State} {a0 : Array Value} (hw : ∀ d ∈ tables_1, d.before a0 Z = true) : RoadKit.slotOf Z own_bA "value" "[B" ≠ RoadKit.slotOf Z own_bA "coder" "B" ∧ RoadKit.slotOf Z own_bA "value" "[B" ≠ RoadKit.slotOf Z own_bA "count" "I" ∧ RoadKit.slotOf Z own_bA "coder" "B" ≠ RoadKit.slotOf Z own_bA "count" "I" := by
  have L1 : Laid Z a0 own_bC own_bA "value" "[B" := Or.inl (tw_82 hw)
  have L2 : Laid Z a0 own_bC own_bA "coder" "B" := Or.inl (tw_84 hw)
  have L3 : Laid Z a0 own_bC own_bA "count" "I" := Or.inl (tw_113 hw)
  exact ⟨slot_ne L1 L2 (by decide) (t := .array .byte) (t' := .byte) (by decide) (by decide), slot_ne L1 L3 (by decide) (t := .array .byte) (t' := .int) (by decide) (by decide), slot_ne L2 L3 (by decide) (t := .byte) (t' := .int) (by decide) (by decide)⟩
theorem d_abi_0 : decode jdk_68_method_2_code 0 = .ok (.aload_n 0, 1) := by decide +kernel
theorem d_abi_1 : decode jdk_68_method_2_code 1 = .ok (.invokespecial 3, 3) := by decide +kernel
theorem d_abi_4 : decode jdk_68_method_2_code 4 = .ok (.getstatic 18, 3) := by decide +kernel
theorem d_abi_7 : decode jdk_68_method_2_code 7 = .ok (.ifCond .eq 18, 3) := by decide +kernel
theorem d_abi_10 : decode jdk_68_method_2_code 10 = .ok (.aload_n 0, 1) := by decide +kernel
theorem d_abi_11 : decode jdk_68_method_2_code 11 = .ok (.iload_n 1, 1) := by decide +kernel
theorem d_abi_12 : decode jdk_68_method_2_code 12 = .ok (.newarray .byte, 2) := by decide +kernel
theorem d_abi_14 : decode jdk_68_method_2_code 14 = .ok (.putfield 15, 3) := by decide +kernel
theorem d_abi_17 : decode jdk_68_method_2_code 17 = .ok (.aload_n 0, 1) := by decide +kernel
theorem d_abi_18 : decode jdk_68_method_2_code 18 = .ok (.iconst 0, 1) := by decide +kernel
theorem d_abi_19 : decode jdk_68_method_2_code 19 = .ok (.putfield 22, 3) := by decide +kernel
theorem d_abi_22 : decode jdk_68_method_2_code 22 = .ok (.goto 16, 3) := by decide +kernel
theorem d_abi_38 : decode jdk_68_method_2_code 38 = .ok (.return_, 1) := by decide +kernel
abbrev M_abi : own_Mi := ((⟨"java/lang/AbstractStringBuilder", "<init>", "(I)V"⟩ : MethodName), jdk_68_method_2_code, 2, (Option.none : Option FieldType), ({ frames := 1, cells := 1, slots := 16, locals := 12 } : Room))
theorem pn_abi : plainFor (own_Mi.y M_abi) = true := plainFor_of_name (by first | (simp [plainName, overriddenIn]; done) | decide +kernel)
set_option maxRecDepth 65536 in
set_option maxHeartbeats 40000000 in
theorem c_abi (K : own_Cx) (a0 : Array Value) (hw : ∀ d ∈ tables_1, d.before a0 K.Z = true) (g : Int32) (SC : Sta K.Z K.Z.heap own_sC "COMPACT_STRINGS" "Z" (.int g)) (hg : ¬ g = 0) (t : Addr) (n : Int32) (cap : Nat) (h : Heap) (hn : n.toInt = cap) (hcap : cap ≤ 16) (E : Exa K.Z h t own_bC) (F1 : Fld K.Z h t own_bA "value" "[B" .null) (F2 : Fld K.Z h t own_bA "coder" "B" (.int 0)) (F3 : Fld K.Z h t own_bA "count" "I" (.int 0)) :
    own_Met K M_abi #[.ref t, .int n] [t] h (own_void fun h' xs => Keep h h' [t] ∧ ∃ b : Addr, b ∈ xs ∧ h.size ≤ b ∧ own_SB K.Z h' t b [] cap) := by
  obtain ⟨s12, s13, s23⟩ := own_sslots hw
  refine own_met_2_0 (M := M_abi) pn_abi rfl (by first | rfl | exact own_cat (by assumption)) (by first | rfl | exact own_cat (by assumption)) ?_
  refine own_aload_n (pc' := 1) rfl d_abi_0 rfl (by first | rfl | assumption) ?_
  refine own_initO (pc' := 4) rfl d_abi_1 (tw_79 hw) (tw_20 hw) (tw_21 hw) rfl rfl rfl ?_
  refine own_getS (pc' := 7) rfl d_abi_4 (tw_80 hw) Via.refl (by assumption) ?_
  refine own_ifeq (pcT := 25) (pcF := 10) d_abi_7 (by decide) (by decide) rfl (fun q => ?_) (fun q => ?_)
  · exact absurd q hg
  · skip
    refine own_aload_n (pc' := 11) rfl d_abi_10 rfl (by first | rfl | assumption) ?_
    refine own_iload_n (pc' := 12) rfl d_abi_11 rfl ?_
    refine own_newarray (pc' := 14) rfl d_abi_12 (tw_27 hw) (N := cap) (cap := 16) hn hcap rfl rfl rfl ?_
    intro b h1 eb E1 B1
    have tb : b ≠ t := by show @Ne Nat b t; have : @LT.lt Nat _ _ _ := E.lt; omega
    refine own_putF (pc' := 17) rfl d_abi_14 (tw_81 hw) Via.refl (Or.inl (tw_82 hw)) (tw_68 hw) (ty := (.array .byte)) (by decide) rfl rfl (F1.ext E1) (E.ext E1) (by simp) ?_
    intro h2 W2
    have G1 := (F1.ext E1).same W2
    have G2 := (F2.ext E1).other W2 (Or.inr (Ne.symm s12))
    have G3 := (F3.ext E1).other W2 (Or.inr (Ne.symm s13))
    have E2 := (E.ext E1).wr W2
    have B2 := B1.other W2 tb
    refine own_aload_n (pc' := 18) rfl d_abi_17 rfl (by first | rfl | assumption) ?_
    refine own_iconst (v := (0 : Int32)) (pc' := 19) rfl d_abi_18 rfl ?_
    refine own_putF (pc' := 22) rfl d_abi_19 (tw_83 hw) Via.refl (Or.inl (tw_84 hw)) (tw_68 hw) (ty := .byte) (by decide) rfl rfl G2 E2 (by simp) ?_
    intro h3 W3
    refine own_goto (pc' := 38) d_abi_22 (by decide) (by decide) ?_
    refine own_return rfl d_abi_38 rfl rfl ?_
    exact ⟨((((Keep.refl h [t]).ext E1).wr W2 (Or.inl (List.mem_singleton.mpr rfl))).wr W3 (Or.inl (List.mem_singleton.mpr rfl))), b, by simp, by omega, E2.wr W3, (fun c hc => nomatch hc), Nat.zero_le _, by omega, rfl, G1.other W3 (Or.inr s12), G2.same W3, G3.other W3 (Or.inr (Ne.symm s23)), B2.other W3 tb⟩
theorem d_sb0_0 : decode jdk_67_method_1_code 0 = .ok (.aload_n 0, 1) := by decide +kernel
theorem d_sb0_1 : decode jdk_67_method_1_code 1 = .ok (.bipush 16, 2) := by decide +kernel
theorem d_sb0_3 : decode jdk_67_method_1_code 3 = .ok (.invokespecial 1, 3) := by decide +kernel
theorem d_sb0_6 : decode jdk_67_method_1_code 6 = .ok (.return_, 1) := by decide +kernel
abbrev M_sb0 : own_Mi := ((⟨"java/lang/StringBuilder", "<init>", "()V"⟩ : MethodName), jdk_67_method_1_code, 1, (Option.none : Option FieldType), ({ frames := 2, cells := 1, slots := 16, locals := 25 } : Room))
theorem pn_sb0 : plainFor (own_Mi.y M_sb0) = true := plainFor_of_name (by first | (simp [plainName, overriddenIn]; done) | decide +kernel)
set_option maxRecDepth 65536 in
set_option maxHeartbeats 40000000 in
theorem c_sb0 (K : own_Cx) (a0 : Array Value) (hw : ∀ d ∈ tables_1, d.before a0 K.Z = true) (g : Int32) (SC : Sta K.Z K.Z.heap own_sC "COMPACT_STRINGS" "Z" (.int g)) (hg : ¬ g = 0) (t : Addr) (h : Heap) (E : Exa K.Z h t own_bC) (F1 : Fld K.Z h t own_bA "value" "[B" .null) (F2 : Fld K.Z h t own_bA "coder" "B" (.int 0)) (F3 : Fld K.Z h t own_bA "count" "I" (.int 0)) :
    own_Met K M_sb0 #[.ref t] [t] h (own_void fun h' xs => Keep h h' [t] ∧ ∃ b : Addr, b ∈ xs ∧ h.size ≤ b ∧ own_SB K.Z h' t b [] 16) := by
  refine own_met_1_0 (M := M_sb0) pn_sb0 rfl (by first | rfl | exact own_cat (by assumption)) ?_
  refine own_aload_n (pc' := 1) rfl d_sb0_0 rfl (by first | rfl | assumption) ?_
  refine own_bipush (v := (16 : Int32)) (pc' := 3) rfl d_sb0_1 rfl ?_
  refine own_special1n (M' := M_abi) d_sb0_3 (pc' := 6) rfl rfl rfl (tw_73 hw) (tw_74 hw) (tw_77 hw) (tw_78 hw) (by decide) rfl (own_lenOf pd_11 rfl) rfl rfl rfl rfl (c_abi K a0 hw g SC hg t 16 16 h rfl (by decide) E F1 F2 F3) (by simp) ?_
  rintro h1 xs ⟨k1, b, hb1, hb2, S1⟩
  refine own_return rfl d_sb0_6 rfl rfl ?_
  exact ⟨k1, b, by simp [hb1], hb2, S1⟩
theorem d_ens_0 : decode jdk_68_method_9_code 0 = .ok (.aload_n 0, 1) := by decide +kernel
theorem d_ens_1 : decode jdk_68_method_9_code 1 = .ok (.getfield 15, 3) := by decide +kernel
theorem d_ens_4 : decode jdk_68_method_9_code 4 = .ok (.arraylength, 1) := by decide +kernel
theorem d_ens_5 : decode jdk_68_method_9_code 5 = .ok (.aload_n 0, 1) := by decide +kernel
theorem d_ens_6 : decode jdk_68_method_9_code 6 = .ok (.getfield 22, 3) := by decide +kernel
theorem d_ens_9 : decode jdk_68_method_9_code 9 = .ok (.ishr, 1) := by decide +kernel
theorem d_ens_10 : decode jdk_68_method_9_code 10 = .ok (.istore_n 2, 1) := by decide +kernel
theorem d_ens_11 : decode jdk_68_method_9_code 11 = .ok (.iload_n 1, 1) := by decide +kernel
theorem d_ens_12 : decode jdk_68_method_9_code 12 = .ok (.iload_n 2, 1) := by decide +kernel
theorem d_ens_13 : decode jdk_68_method_9_code 13 = .ok (.isub, 1) := by decide +kernel
theorem d_ens_14 : decode jdk_68_method_9_code 14 = .ok (.ifCond .le 24, 3) := by decide +kernel
theorem d_ens_38 : decode jdk_68_method_9_code 38 = .ok (.return_, 1) := by decide +kernel
abbrev M_ens : own_Mi := ((⟨"java/lang/AbstractStringBuilder", "ensureCapacityInternal", "(I)V"⟩ : MethodName), jdk_68_method_9_code, 3, (Option.none : Option FieldType), ({ frames := 0, cells := 0, slots := 0, locals := 0 } : Room))
theorem pn_ens : plainFor (own_Mi.y M_ens) = true := plainFor_of_name (by first | (simp [plainName, overriddenIn]; done) | decide +kernel)
set_option maxRecDepth 65536 in
set_option maxHeartbeats 40000000 in
theorem c_ens (K : own_Cx) (a0 : Array Value) (hw : ∀ d ∈ tables_1, d.before a0 K.Z = true) (t b : Addr) (cs : List Int32) (cap : Nat) (m : Int32) (h : Heap) (S : own_SB K.Z h t b cs cap) (h0 : 0 ≤ m.toInt) (hm : m.toInt ≤ cap) :
    own_Met K M_ens #[.ref t, .int m] [] h (own_void fun h' _ => h' = h) := by
  obtain ⟨E, hcs, hle, hcap, hlat, F1, F2, F3, B⟩ := S
  have hz : (cap.toInt32).toInt = cap := own_lit _ (by omega)
  refine own_met_2_1 (M := M_ens) pn_ens rfl (by first | rfl | exact own_cat (by assumption)) (by first | rfl | exact own_cat (by assumption)) ?_
  refine own_aload_n (pc' := 1) rfl d_ens_0 rfl (by first | rfl | assumption) ?_
  refine own_getF (pc' := 4) rfl d_ens_1 (tw_81 hw) Via.refl F1 ?_
  refine own_arrlen (z := cap.toInt32) (pc' := 5) rfl d_ens_4 B (by rw [hz]; simp; omega) ?_
  refine own_aload_n (pc' := 6) rfl d_ens_5 rfl (by first | rfl | assumption) ?_
  refine own_getF (pc' := 9) rfl d_ens_6 (tw_83 hw) Via.refl F2 ?_
  refine own_ishr (pc' := 10) rfl d_ens_9 ?_
  refine own_istore_n2 (pc' := 11) rfl d_ens_10 (by first | exact One.u | exact One.val rfl | assumption | exact One.val (by assumption)) ?_
  refine own_iload_n (pc' := 12) rfl d_ens_11 rfl ?_
  refine own_iload_n (pc' := 13) rfl d_ens_12 rfl ?_
  refine own_isub (pc' := 14) rfl d_ens_13 ?_
  rw [own_shr0]
  refine own_ifle (pcT := 38) (pcF := 17) d_ens_14 (by decide) (by decide) rfl (fun q => ?_) (fun q => ?_)
  · skip
    refine own_return rfl d_ens_38 rfl rfl ?_
    rfl
  · exfalso
    rw [Int32.lt_iff_toInt_lt, own_sub (x := m) rfl hz (by omega) (by omega)] at q
    have : (0 : Int32).toInt = 0 := rfl
    omega
theorem d_gby_0 : decode jdk_42_method_147_code 0 = .ok (.aload_n 0, 1) := by decide +kernel
theorem d_gby_1 : decode jdk_42_method_147_code 1 = .ok (.invokevirtual 335, 3) := by decide +kernel
theorem d_gby_4 : decode jdk_42_method_147_code 4 = .ok (.iload_n 3, 1) := by decide +kernel
theorem d_gby_5 : decode jdk_42_method_147_code 5 = .ok (.if_icmp .ne 23, 3) := by decide +kernel
theorem d_gby_8 : decode jdk_42_method_147_code 8 = .ok (.aload_n 0, 1) := by decide +kernel
theorem d_gby_9 : decode jdk_42_method_147_code 9 = .ok (.getfield 9, 3) := by decide +kernel
theorem d_gby_12 : decode jdk_42_method_147_code 12 = .ok (.iconst 0, 1) := by decide +kernel
theorem d_gby_13 : decode jdk_42_method_147_code 13 = .ok (.aload_n 1, 1) := by decide +kernel
theorem d_gby_14 : decode jdk_42_method_147_code 14 = .ok (.iload_n 2, 1) := by decide +kernel
theorem d_gby_15 : decode jdk_42_method_147_code 15 = .ok (.iload_n 3, 1) := by decide +kernel
theorem d_gby_16 : decode jdk_42_method_147_code 16 = .ok (.ishl, 1) := by decide +kernel
theorem d_gby_17 : decode jdk_42_method_147_code 17 = .ok (.aload_n 0, 1) := by decide +kernel
theorem d_gby_18 : decode jdk_42_method_147_code 18 = .ok (.getfield 9, 3) := by decide +kernel
theorem d_gby_21 : decode jdk_42_method_147_code 21 = .ok (.arraylength, 1) := by decide +kernel
theorem d_gby_22 : decode jdk_42_method_147_code 22 = .ok (.invokestatic 212, 3) := by decide +kernel
theorem d_gby_25 : decode jdk_42_method_147_code 25 = .ok (.goto 18, 3) := by decide +kernel
theorem d_gby_43 : decode jdk_42_method_147_code 43 = .ok (.return_, 1) := by decide +kernel
abbrev M_gby : own_Mi := ((⟨"java/lang/String", "getBytes", "([BIB)V"⟩ : MethodName), jdk_42_method_147_code, 4, (Option.none : Option FieldType), ({ frames := 1, cells := 0, slots := 0, locals := 40 } : Room))
theorem pn_gby : plainFor (own_Mi.y M_gby) = true := plainFor_of_name (by first | (simp [plainName, overriddenIn]; done) | decide +kernel)
set_option maxRecDepth 65536 in
set_option maxHeartbeats 40000000 in
theorem c_gby (K : own_Cx) (a0 : Array Value) (hw : ∀ d ∈ tables_1, d.before a0 K.Z = true) (g : Int32) (SC : Sta K.Z K.Z.heap own_sC "COMPACT_STRINGS" "Z" (.int g)) (hg : ¬ g = 0) (x b : Addr) (L : List Value) (ds : List Int32) (n : Nat) (i : Int32) (h : Heap) (S : own_Str K.Z h x ds) (hl : own_lat ds = true) (hi : i.toInt = L.length) (hn : ds.length ≤ n) (hby : own_Bys L) (B : own_Ary K.Z h b .byte (L ++ List.replicate n (.int 0))) :
    own_Met K M_gby #[.ref x, .ref b, .int i, .int 0] [b] h (own_void fun h' _ => Keep h h' [b] ∧ own_Ary K.Z h' b .byte (L ++ own_ints (ds.map own_bt) ++ List.replicate (n - ds.length) (.int 0))) := by
  have S' := S
  obtain ⟨E, hcs, hlt, b0, FV, FC, B0⟩ := S
  have hz : (ds.length.toInt32).toInt = ds.length := own_lit _ (by omega)
  rw [(own_enc_lat hl).1] at B0
  refine own_met_4_0 (M := M_gby) pn_gby rfl (by first | rfl | exact own_cat (by assumption)) (by first | rfl | exact own_cat (by assumption)) (by first | rfl | exact own_cat (by assumption)) (by first | rfl | exact own_cat (by assumption)) ?_
  refine own_aload_n (pc' := 1) rfl d_gby_0 rfl (by first | rfl | assumption) ?_
  refine own_virtual0v (M' := M_cdr) d_gby_1 (pc' := 4) rfl (tw_107 hw) (tw_108 hw) (tw_110 hw) (tw_109 hw) (tw_11 hw) (tw_111 hw) (by decide) rfl (own_lenOf pd_4 rfl) rfl rfl rfl rfl E (c_cdr K a0 hw g SC hg x ds h S') (by simp) ?_
  rintro w h1 xs ⟨rfl, rfl⟩
  rw [(own_enc_lat hl).2]
  refine own_iload_n (pc' := 5) rfl d_gby_4 rfl ?_
  refine own_icmpne (pcT := 28) (pcF := 8) d_gby_5 (by decide) (by decide) rfl (fun q => ?_) (fun q => ?_)
  · exact absurd rfl q
  · skip
    refine own_aload_n (pc' := 9) rfl d_gby_8 rfl (by first | rfl | assumption) ?_
    refine own_getF (pc' := 12) rfl d_gby_9 (tw_36 hw) Via.refl FV ?_
    refine own_iconst (v := (0 : Int32)) (pc' := 13) rfl d_gby_12 rfl ?_
    refine own_aload_n (pc' := 14) rfl d_gby_13 rfl (by first | rfl | assumption) ?_
    refine own_iload_n (pc' := 15) rfl d_gby_14 rfl ?_
    refine own_iload_n (pc' := 16) rfl d_gby_15 rfl ?_
    refine own_ishl (pc' := 17) rfl d_gby_16 ?_
    refine own_aload_n (pc' := 18) rfl d_gby_17 rfl (by first | rfl | assumption) ?_
    rw [own_shl0]
    refine own_getF (pc' := 21) rfl d_gby_18 (tw_36 hw) Via.refl FV ?_
    refine own_arrlen (z := ds.length.toInt32) (pc' := 22) rfl d_gby_21 B0 (by rw [hz]; simp) ?_
    refine own_acopy (pc' := 25) rfl d_gby_22 (tw_135 hw) (tw_138 hw) (tw_136 hw) (tw_137 hw) rfl rfl rfl rfl B0 B (own_Bys.lat ds) (hby.app (own_Bys.zero _)) (S := 0) (D := L.length) (N := ds.length) rfl hi hz (by simp) (by simp; omega) (by simp) ?_
    intro h4 k4 B4
    refine own_goto (pc' := 43) d_gby_25 (by decide) (by decide) ?_
    refine own_return rfl d_gby_43 rfl rfl ?_
    refine ⟨k4, ?_⟩
    have e := own_put_end (L := L) (R := own_ints (ds.map own_bt)) (z := .int 0) (n := n) (by simpa using hn)
    have e2 : (own_ints (ds.map own_bt)).length = ds.length := by simp
    rw [e2] at e
    rw [← e]
    exact B4
theorem d_iin_0 : decode jdk_68_method_71_code 0 = .ok (.getstatic 18, 3) := by decide +kernel
theorem d_iin_3 : decode jdk_68_method_71_code 3 = .ok (.ifCond .eq 18, 3) := by decide +kernel
theorem d_iin_6 : decode jdk_68_method_71_code 6 = .ok (.aload_n 0, 1) := by decide +kernel
theorem d_iin_7 : decode jdk_68_method_71_code 7 = .ok (.getfield 22, 3) := by decide +kernel
theorem d_iin_10 : decode jdk_68_method_71_code 10 = .ok (.aload_n 1, 1) := by decide +kernel
theorem d_iin_11 : decode jdk_68_method_71_code 11 = .ok (.invokevirtual 40, 3) := by decide +kernel
theorem d_iin_14 : decode jdk_68_method_71_code 14 = .ok (.if_icmp .eq 7, 3) := by decide +kernel
theorem d_iin_21 : decode jdk_68_method_71_code 21 = .ok (.return_, 1) := by decide +kernel
abbrev M_iin : own_Mi := ((⟨"java/lang/AbstractStringBuilder", "inflateIfNeededFor", "(Ljava/lang/String;)V"⟩ : MethodName), jdk_68_method_71_code, 2, (Option.none : Option FieldType), ({ frames := 1, cells := 0, slots := 0, locals := 14 } : Room))
theorem pn_iin : plainFor (own_Mi.y M_iin) = true := plainFor_of_name (by first | (simp [plainName, overriddenIn]; done) | decide +kernel)
set_option maxRecDepth 65536 in
set_option maxHeartbeats 40000000 in
theorem c_iin (K : own_Cx) (a0 : Array Value) (hw : ∀ d ∈ tables_1, d.before a0 K.Z = true) (g : Int32) (SC : Sta K.Z K.Z.heap own_sC "COMPACT_STRINGS" "Z" (.int g)) (hg : ¬ g = 0) (t b x : Addr) (cs ds : List Int32) (cap : Nat) (h : Heap) (T : own_SB K.Z h t b cs cap) (S : own_Str K.Z h x ds) (hl : own_lat ds = true) :
    own_Met K M_iin #[.ref t, .ref x] [] h (own_void fun h' _ => h' = h) := by
  obtain ⟨E, hcs, hle, hcap, hlat, F1, F2, F3, B⟩ := T
  refine own_met_2_0 (M := M_iin) pn_iin rfl (by first | rfl | exact own_cat (by assumption)) (by first | rfl | exact own_cat (by assumption)) ?_
  refine own_getS (pc' := 3) rfl d_iin_0 (tw_80 hw) Via.refl (by assumption) ?_
  refine own_ifeq (pcT := 21) (pcF := 6) d_iin_3 (by decide) (by decide) rfl (fun q => ?_) (fun q => ?_)
  · exact absurd q hg
  · skip
    refine own_aload_n (pc' := 7) rfl d_iin_6 rfl (by first | rfl | assumption) ?_
    refine own_getF (pc' := 10) rfl d_iin_7 (tw_83 hw) Via.refl F2 ?_
    refine own_aload_n (pc' := 11) rfl d_iin_10 rfl (by first | rfl | assumption) ?_
    refine own_virtual0v (M' := M_cdr) d_iin_11 (pc' := 14) rfl (tw_129 hw) (tw_108 hw) (tw_110 hw) (tw_109 hw) (tw_11 hw) (tw_111 hw) (by decide) rfl (own_lenOf pd_4 rfl) rfl rfl rfl rfl S.1 (c_cdr K a0 hw g SC hg x ds h S) (by simp) ?_
    rintro w h1 xs ⟨rfl, rfl⟩
    rw [(own_enc_lat hl).2]
    refine own_icmpeq (pcT := 21) (pcF := 17) d_iin_14 (by decide) (by decide) rfl (fun q2 => ?_) (fun q2 => ?_)
    · skip
      refine own_return rfl d_iin_21 rfl rfl ?_
      rfl
    · exact absurd rfl q2
theorem d_psa_0 : decode jdk_68_method_73_code 0 = .ok (.aload_n 0, 1) := by decide +kernel
theorem d_psa_1 : decode jdk_68_method_73_code 1 = .ok (.aload_n 2, 1) := by decide +kernel
theorem d_psa_2 : decode jdk_68_method_73_code 2 = .ok (.invokevirtual 397, 3) := by decide +kernel
theorem d_psa_5 : decode jdk_68_method_73_code 5 = .ok (.aload_n 2, 1) := by decide +kernel
theorem d_psa_6 : decode jdk_68_method_73_code 6 = .ok (.aload_n 0, 1) := by decide +kernel
theorem d_psa_7 : decode jdk_68_method_73_code 7 = .ok (.getfield 15, 3) := by decide +kernel
theorem d_psa_10 : decode jdk_68_method_73_code 10 = .ok (.iload_n 1, 1) := by decide +kernel
theorem d_psa_11 : decode jdk_68_method_73_code 11 = .ok (.aload_n 0, 1) := by decide +kernel
theorem d_psa_12 : decode jdk_68_method_73_code 12 = .ok (.getfield 22, 3) := by decide +kernel
theorem d_psa_15 : decode jdk_68_method_73_code 15 = .ok (.invokevirtual 399, 3) := by decide +kernel
theorem d_psa_18 : decode jdk_68_method_73_code 18 = .ok (.return_, 1) := by decide +kernel
abbrev M_psa : own_Mi := ((⟨"java/lang/AbstractStringBuilder", "putStringAt", "(ILjava/lang/String;)V"⟩ : MethodName), jdk_68_method_73_code, 3, (Option.none : Option FieldType), ({ frames := 2, cells := 0, slots := 0, locals := 58 } : Room))
theorem pn_psa : plainFor (own_Mi.y M_psa) = true := plainFor_of_name (by first | (simp [plainName, overriddenIn]; done) | decide +kernel)
set_option maxRecDepth 65536 in
set_option maxHeartbeats 40000000 in
theorem c_psa (K : own_Cx) (a0 : Array Value) (hw : ∀ d ∈ tables_1, d.before a0 K.Z = true) (g : Int32) (SC : Sta K.Z K.Z.heap own_sC "COMPACT_STRINGS" "Z" (.int g)) (hg : ¬ g = 0) (t b x : Addr) (cs ds : List Int32) (cap : Nat) (i : Int32) (h : Heap) (T : own_SB K.Z h t b cs cap) (S : own_Str K.Z h x ds) (hl : own_lat ds = true) (hi : i.toInt = cs.length) (hn : cs.length + ds.length ≤ cap) :
    own_Met K M_psa #[.ref t, .int i, .ref x] [b] h (own_void fun h' _ => Keep h h' [b] ∧ own_Ary K.Z h' b .byte (own_ints (cs.map own_bt) ++ own_ints (ds.map own_bt) ++ List.replicate (cap - cs.length - ds.length) (.int 0))) := by
  have T' := T
  obtain ⟨E, hcs, hle, hcap, hlat, F1, F2, F3, B⟩ := T
  refine own_met_3_0 (M := M_psa) pn_psa rfl (by first | rfl | exact own_cat (by assumption)) (by first | rfl | exact own_cat (by assumption)) (by first | rfl | exact own_cat (by assumption)) ?_
  refine own_aload_n (pc' := 1) rfl d_psa_0 rfl (by first | rfl | assumption) ?_
  refine own_aload_n (pc' := 2) rfl d_psa_1 rfl (by first | rfl | assumption) ?_
  refine own_virtual1n (M' := M_iin) d_psa_2 (pc' := 5) rfl (tw_124 hw) (own_decl (tw_125 hw) (tw_128 hw)) (tw_127 hw) (tw_125 hw) (tw_77 hw) (tw_128 hw) (by decide) rfl (own_lenOf pd_12 rfl) rfl rfl rfl rfl E (c_iin K a0 hw g SC hg t b x cs ds cap h T' S hl) (by simp) ?_
  rintro h1 xs rfl
  refine own_aload_n (pc' := 6) rfl d_psa_5 rfl (by first | rfl | assumption) ?_
  refine own_aload_n (pc' := 7) rfl d_psa_6 rfl (by first | rfl | assumption) ?_
  refine own_getF (pc' := 10) rfl d_psa_7 (tw_81 hw) Via.refl F1 ?_
  refine own_iload_n (pc' := 11) rfl d_psa_10 rfl ?_
  refine own_aload_n (pc' := 12) rfl d_psa_11 rfl (by first | rfl | assumption) ?_
  refine own_getF (pc' := 15) rfl d_psa_12 (tw_83 hw) Via.refl F2 ?_
  refine own_virtual3n (M' := M_gby) d_psa_15 (pc' := 18) rfl (tw_130 hw) (tw_131 hw) (tw_133 hw) (tw_132 hw) (tw_11 hw) (tw_134 hw) (by decide) rfl (own_lenOf pd_13 rfl) rfl rfl rfl rfl S.1 (c_gby K a0 hw g SC hg x b (own_ints (cs.map own_bt)) ds (cap - cs.length) i _ S hl (by rw [hi]; simp) (by omega) (own_Bys.lat cs) B) (by simp) ?_
  rintro h2 xs2 q
  refine own_return rfl d_psa_18 rfl rfl ?_
  exact q
theorem d_aas_0 : decode jdk_68_method_22_code 0 = .ok (.aload_n 1, 1) := by decide +kernel
theorem d_aas_1 : decode jdk_68_method_22_code 1 = .ok (.ifnonnull 8, 3) := by decide +kernel
theorem d_aas_9 : decode jdk_68_method_22_code 9 = .ok (.aload_n 1, 1) := by decide +kernel
theorem d_aas_10 : decode jdk_68_method_22_code 10 = .ok (.invokevirtual 32, 3) := by decide +kernel
theorem d_aas_13 : decode jdk_68_method_22_code 13 = .ok (.istore_n 2, 1) := by decide +kernel
theorem d_aas_14 : decode jdk_68_method_22_code 14 = .ok (.aload_n 0, 1) := by decide +kernel
theorem d_aas_15 : decode jdk_68_method_22_code 15 = .ok (.aload_n 0, 1) := by decide +kernel
theorem d_aas_16 : decode jdk_68_method_22_code 16 = .ok (.getfield 79, 3) := by decide +kernel
theorem d_aas_19 : decode jdk_68_method_22_code 19 = .ok (.iload_n 2, 1) := by decide +kernel
theorem d_aas_20 : decode jdk_68_method_22_code 20 = .ok (.iadd, 1) := by decide +kernel
theorem d_aas_21 : decode jdk_68_method_22_code 21 = .ok (.invokevirtual 100, 3) := by decide +kernel
theorem d_aas_24 : decode jdk_68_method_22_code 24 = .ok (.aload_n 0, 1) := by decide +kernel
theorem d_aas_25 : decode jdk_68_method_22_code 25 = .ok (.aload_n 0, 1) := by decide +kernel
theorem d_aas_26 : decode jdk_68_method_22_code 26 = .ok (.getfield 79, 3) := by decide +kernel
theorem d_aas_29 : decode jdk_68_method_22_code 29 = .ok (.aload_n 1, 1) := by decide +kernel
theorem d_aas_30 : decode jdk_68_method_22_code 30 = .ok (.invokevirtual 208, 3) := by decide +kernel
theorem d_aas_33 : decode jdk_68_method_22_code 33 = .ok (.aload_n 0, 1) := by decide +kernel
theorem d_aas_34 : decode jdk_68_method_22_code 34 = .ok (.dup, 1) := by decide +kernel
theorem d_aas_35 : decode jdk_68_method_22_code 35 = .ok (.getfield 79, 3) := by decide +kernel
theorem d_aas_38 : decode jdk_68_method_22_code 38 = .ok (.iload_n 2, 1) := by decide +kernel
theorem d_aas_39 : decode jdk_68_method_22_code 39 = .ok (.iadd, 1) := by decide +kernel
theorem d_aas_40 : decode jdk_68_method_22_code 40 = .ok (.putfield 79, 3) := by decide +kernel
theorem d_aas_43 : decode jdk_68_method_22_code 43 = .ok (.aload_n 0, 1) := by decide +kernel
theorem d_aas_44 : decode jdk_68_method_22_code 44 = .ok (.areturn, 1) := by decide +kernel
abbrev M_aas : own_Mi := ((⟨"java/lang/AbstractStringBuilder", "append", "(Ljava/lang/String;)Ljava/lang/AbstractStringBuilder;"⟩ : MethodName), jdk_68_method_22_code, 3, (Option.some (FieldType.object "java/lang/AbstractStringBuilder")), ({ frames := 3, cells := 0, slots := 0, locals := 75 } : Room))
theorem pn_aas : plainFor (own_Mi.y M_aas) = true := plainFor_of_name (by first | (simp [plainName, overriddenIn]; done) | decide +kernel)
set_option maxRecDepth 65536 in
set_option maxHeartbeats 40000000 in
theorem c_aas (K : own_Cx) (a0 : Array Value) (hw : ∀ d ∈ tables_1, d.before a0 K.Z = true) (g : Int32) (SC : Sta K.Z K.Z.heap own_sC "COMPACT_STRINGS" "Z" (.int g)) (hg : ¬ g = 0) (t b x : Addr) (cs ds : List Int32) (cap : Nat) (h : Heap) (T : own_SB K.Z h t b cs cap) (tb : b ≠ t) (S : own_Str K.Z h x ds) (hl : own_lat ds = true) (hn : cs.length + ds.length ≤ cap) :
    own_Met K M_aas #[.ref t, .ref x] [t, b] h (own_ret fun w h' _ => w = .ref t ∧ Keep h h' [t, b] ∧ own_SB K.Z h' t b (cs ++ ds) cap) := by
  have T' := T
  obtain ⟨E, hcs, hle, hcap, hlat, F1, F2, F3, B⟩ := T
  have hzc : (cs.length.toInt32).toInt = cs.length := own_lit _ (by omega)
  have hzd : (ds.length.toInt32).toInt = ds.length := own_lit _ (by omega)
  have hza := own_nadd hzc hzd (by omega)
  have hzs : ((cs.length + ds.length).toInt32).toInt = ((cs.length + ds.length : Nat) : Int) := own_lit _ (by omega)
  have eL : (cs ++ ds).length = cs.length + ds.length := by simp
  refine own_met_2_1 (M := M_aas) pn_aas rfl (by first | rfl | exact own_cat (by assumption)) (by first | rfl | exact own_cat (by assumption)) ?_
  refine own_aload_n (pc' := 1) rfl d_aas_0 rfl (by first | rfl | assumption) ?_
  refine own_ifnonnull_y (pc' := 9) d_aas_1 (by decide) (by decide) ?_
  refine own_aload_n (pc' := 10) rfl d_aas_9 rfl (by first | rfl | assumption) ?_
  refine own_virtual0v (M' := M_sl) d_aas_10 (pc' := 13) rfl (tw_102 hw) (tw_103 hw) (tw_105 hw) (tw_104 hw) (tw_11 hw) (tw_106 hw) (by decide) rfl (own_lenOf pd_14 rfl) rfl rfl rfl rfl S.1 (c_sl K a0 hw g SC hg x ds h S) (by simp) ?_
  rintro w h1 xs ⟨rfl, rfl⟩
  refine own_istore_n2 (pc' := 14) rfl d_aas_13 (by first | exact One.u | exact One.val rfl | assumption | exact One.val (by assumption)) ?_
  refine own_aload_n (pc' := 15) rfl d_aas_14 rfl (by first | rfl | assumption) ?_
  refine own_aload_n (pc' := 16) rfl d_aas_15 rfl (by first | rfl | assumption) ?_
  refine own_getF (pc' := 19) rfl d_aas_16 (tw_112 hw) Via.refl F3 ?_
  refine own_iload_n (pc' := 20) rfl d_aas_19 rfl ?_
  refine own_iadd (pc' := 21) rfl d_aas_20 ?_
  rw [hza]
  refine own_virtual1n (M' := M_ens) d_aas_21 (pc' := 24) rfl (tw_114 hw) (own_decl (tw_115 hw) (tw_118 hw)) (tw_117 hw) (tw_115 hw) (tw_77 hw) (tw_118 hw) (by decide) rfl (own_lenOf pd_11 rfl) rfl rfl rfl rfl E (c_ens K a0 hw t b cs cap _ _ T' (by rw [hzs]; omega) (by rw [hzs]; omega)) (by simp) ?_
  rintro h2 xs2 rfl
  refine own_aload_n (pc' := 25) rfl d_aas_24 rfl (by first | rfl | assumption) ?_
  refine own_aload_n (pc' := 26) rfl d_aas_25 rfl (by first | rfl | assumption) ?_
  refine own_getF (pc' := 29) rfl d_aas_26 (tw_112 hw) Via.refl F3 ?_
  refine own_aload_n (pc' := 30) rfl d_aas_29 rfl (by first | rfl | assumption) ?_
  refine own_virtual2n (M' := M_psa) d_aas_30 (pc' := 33) rfl (tw_119 hw) (own_decl (tw_120 hw) (tw_123 hw)) (tw_122 hw) (tw_120 hw) (tw_77 hw) (tw_123 hw) (by decide) rfl (own_lenOf pd_15 rfl) rfl rfl rfl rfl E (c_psa K a0 hw g SC hg t b x cs ds cap _ _ T' S hl hzc hn) (by simp) ?_
  rintro h3 xs3 ⟨k3, B3⟩
  have nb : t ∉ [b] := ninS (Ne.symm tb) nin0
  refine own_aload_n (pc' := 34) rfl d_aas_33 rfl (by first | rfl | assumption) ?_
  refine own_dup (pc' := 35) rfl d_aas_34 (by first | rfl | assumption) ?_
  refine own_getF (pc' := 38) rfl d_aas_35 (tw_112 hw) Via.refl (F3.keep k3 nb) ?_
  refine own_iload_n (pc' := 39) rfl d_aas_38 rfl ?_
  refine own_iadd (pc' := 40) rfl d_aas_39 ?_
  rw [hza]
  refine own_putF (pc' := 43) rfl d_aas_40 (tw_112 hw) Via.refl (Or.inl (tw_113 hw)) (tw_68 hw) (ty := .int) (by decide) rfl rfl (F3.keep k3 nb) (E.keep k3) (by simp) ?_
  intro h4 W4
  obtain ⟨s12, s13, s23⟩ := own_sslots hw
  refine own_aload_n (pc' := 44) rfl d_aas_43 rfl (by first | rfl | assumption) ?_
  refine own_areturn rfl rfl (by first | rfl | assumption) d_aas_44 rfl rfl ?_
  refine ⟨rfl, ?_, (E.keep k3).wr W4, own_chs_app hcs S.2.1, by omega, hcap, own_lat_app hlat hl, (F1.keep k3 nb).other W4 (Or.inr s13), (F2.keep k3 nb).other W4 (Or.inr s23), ?_, ?_⟩
  · exact ((Keep.refl _ [t, b]).trans k3 (fun z hz => Or.inl (List.mem_cons_of_mem _ hz))).wr W4 (Or.inl (by simp))
  · rw [eL]; exact (F3.keep k3 nb).same W4
  · have e : own_ints ((cs ++ ds).map own_bt) ++ List.replicate (cap - (cs ++ ds).length) (Value.int 0) = own_ints (cs.map own_bt) ++ own_ints (ds.map own_bt) ++ List.replicate (cap - cs.length - ds.length) (.int 0) := by
      rw [eL, Nat.sub_sub]; simp [own_ints]
    rw [e]
    exact B3.other W4 tb
theorem d_sas_0 : decode jdk_67_method_7_code 0 = .ok (.aload_n 0, 1) := by decide +kernel
theorem d_sas_1 : decode jdk_67_method_7_code 1 = .ok (.aload_n 1, 1) := by decide +kernel
theorem d_sas_2 : decode jdk_67_method_7_code 2 = .ok (.invokespecial 29, 3) := by decide +kernel
theorem d_sas_5 : decode jdk_67_method_7_code 5 = .ok (.pop, 1) := by decide +kernel
theorem d_sas_6 : decode jdk_67_method_7_code 6 = .ok (.aload_n 0, 1) := by decide +kernel
theorem d_sas_7 : decode jdk_67_method_7_code 7 = .ok (.areturn, 1) := by decide +kernel
abbrev M_sas : own_Mi := ((⟨"java/lang/StringBuilder", "append", "(Ljava/lang/String;)Ljava/lang/StringBuilder;"⟩ : MethodName), jdk_67_method_7_code, 2, (Option.some (FieldType.object "java/lang/StringBuilder")), ({ frames := 4, cells := 0, slots := 0, locals := 90 } : Room))
theorem pn_sas : plainFor (own_Mi.y M_sas) = true := plainFor_of_name (by first | (simp [plainName, overriddenIn]; done) | decide +kernel)
set_option maxRecDepth 65536 in
set_option maxHeartbeats 40000000 in
theorem c_sas (K : own_Cx) (a0 : Array Value) (hw : ∀ d ∈ tables_1, d.before a0 K.Z = true) (g : Int32) (SC : Sta K.Z K.Z.heap own_sC "COMPACT_STRINGS" "Z" (.int g)) (hg : ¬ g = 0) (t b x : Addr) (cs ds : List Int32) (cap : Nat) (h : Heap) (T : own_SB K.Z h t b cs cap) (tb : b ≠ t) (S : own_Str K.Z h x ds) (hl : own_lat ds = true) (hn : cs.length + ds.length ≤ cap) :
    own_Met K M_sas #[.ref t, .ref x] [t, b] h (own_ret fun w h' _ => w = .ref t ∧ Keep h h' [t, b] ∧ own_SB K.Z h' t b (cs ++ ds) cap) := by
  refine own_met_2_0 (M := M_sas) pn_sas rfl (by first | rfl | exact own_cat (by assumption)) (by first | rfl | exact own_cat (by assumption)) ?_
  refine own_aload_n (pc' := 1) rfl d_sas_0 rfl (by first | rfl | assumption) ?_
  refine own_aload_n (pc' := 2) rfl d_sas_1 rfl (by first | rfl | assumption) ?_
  refine own_up1v (M' := M_aas) d_sas_2 (pc' := 5) rfl (by decide) (tw_97 hw) (tw_99 hw) (tw_117 hw) rfl (tw_98 hw) (tw_77 hw) (tw_101 hw) (by decide) rfl (own_lenOf pd_16 rfl) rfl rfl rfl rfl (Ins.self T.1) (c_aas K a0 hw g SC hg t b x cs ds cap h T tb S hl hn) (by simp) ?_
  rintro w h1 xs ⟨rfl, k1, T1⟩
  refine own_pop (pc' := 6) rfl d_sas_5 (by first | rfl | assumption) ?_
  refine own_aload_n (pc' := 7) rfl d_sas_6 rfl (by first | rfl | assumption) ?_
  refine own_areturn rfl rfl (by first | rfl | assumption) d_sas_7 rfl rfl ?_
  exact ⟨rfl, k1, T1⟩
theorem d_gvl_0 : decode jdk_68_method_64_code 0 = .ok (.aload_n 0, 1) := by decide +kernel
theorem d_gvl_1 : decode jdk_68_method_64_code 1 = .ok (.getfield 15, 3) := by decide +kernel
theorem d_gvl_4 : decode jdk_68_method_64_code 4 = .ok (.areturn, 1) := by decide +kernel
abbrev M_gvl : own_Mi := ((⟨"java/lang/AbstractStringBuilder", "getValue", "()[B"⟩ : MethodName), jdk_68_method_64_code, 1, (Option.some (FieldType.array FieldType.byte)), ({ frames := 0, cells := 0, slots := 0, locals := 0 } : Room))
theorem pn_gvl : plainFor (own_Mi.y M_gvl) = true := plainFor_of_name (by first | (simp [plainName, overriddenIn]; done) | decide +kernel)
set_option maxRecDepth 65536 in
set_option maxHeartbeats 40000000 in
theorem c_gvl (K : own_Cx) (a0 : Array Value) (hw : ∀ d ∈ tables_1, d.before a0 K.Z = true) (t b : Addr) (h : Heap) (F : Fld K.Z h t own_bA "value" "[B" (.ref b)) :
    own_Met K M_gvl #[.ref t] [] h (own_ret fun w h' _ => w = .ref b ∧ h' = h) := by
  refine own_met_1_0 (M := M_gvl) pn_gvl rfl (by first | rfl | exact own_cat (by assumption)) ?_
  refine own_aload_n (pc' := 1) rfl d_gvl_0 rfl (by first | rfl | assumption) ?_
  refine own_getF (pc' := 4) rfl d_gvl_1 (tw_81 hw) Via.refl F ?_
  refine own_areturn rfl rfl (by first | rfl | assumption) d_gvl_4 rfl rfl ?_
  exact ⟨rfl, rfl⟩
theorem d_abl_0 : decode jdk_68_method_6_code 0 = .ok (.aload_n 0, 1) := by decide +kernel
theorem d_abl_1 : decode jdk_68_method_6_code 1 = .ok (.getfield 79, 3) := by decide +kernel
theorem d_abl_4 : decode jdk_68_method_6_code 4 = .ok (.ireturn, 1) := by decide +kernel
abbrev M_abl : own_Mi := ((⟨"java/lang/AbstractStringBuilder", "length", "()I"⟩ : MethodName), jdk_68_method_6_code, 1, (Option.some FieldType.int), ({ frames := 0, cells := 0, slots := 0, locals := 0 } : Room))
theorem pn_abl : plainFor (own_Mi.y M_abl) = true := plainFor_of_name (by first | (simp [plainName, overriddenIn]; done) | decide +kernel)
set_option maxRecDepth 65536 in
set_option maxHeartbeats 40000000 in
theorem c_abl (K : own_Cx) (a0 : Array Value) (hw : ∀ d ∈ tables_1, d.before a0 K.Z = true) (t : Addr) (n : Int32) (h : Heap) (F : Fld K.Z h t own_bA "count" "I" (.int n)) :
    own_Met K M_abl #[.ref t] [] h (own_ret fun w h' _ => w = .int n ∧ h' = h) := by
  refine own_met_1_0 (M := M_abl) pn_abl rfl (by first | rfl | exact own_cat (by assumption)) ?_
  refine own_aload_n (pc' := 1) rfl d_abl_0 rfl (by first | rfl | assumption) ?_
  refine own_getF (pc' := 4) rfl d_abl_1 (tw_112 hw) Via.refl F ?_
  refine own_ireturn rfl d_abl_4 rfl rfl ?_
  exact ⟨rfl, rfl⟩
theorem d_sbl_0 : decode jdk_67_method_93_code 0 = .ok (.aload_n 0, 1) := by decide +kernel
theorem d_sbl_1 : decode jdk_67_method_93_code 1 = .ok (.invokespecial 343, 3) := by decide +kernel
theorem d_sbl_4 : decode jdk_67_method_93_code 4 = .ok (.ireturn, 1) := by decide +kernel
abbrev M_sbl : own_Mi := ((⟨"java/lang/StringBuilder", "length", "()I"⟩ : MethodName), jdk_67_method_93_code, 1, (Option.some FieldType.int), ({ frames := 1, cells := 0, slots := 0, locals := 12 } : Room))
theorem pn_sbl : plainFor (own_Mi.y M_sbl) = true := plainFor_of_name (by first | (simp [plainName, overriddenIn]; done) | decide +kernel)
set_option maxRecDepth 65536 in
set_option maxHeartbeats 40000000 in
theorem c_sbl (K : own_Cx) (a0 : Array Value) (hw : ∀ d ∈ tables_1, d.before a0 K.Z = true) (t : Addr) (n : Int32) (h : Heap) (E : Exa K.Z h t own_bC) (F : Fld K.Z h t own_bA "count" "I" (.int n)) :
    own_Met K M_sbl #[.ref t] [] h (own_ret fun w h' _ => w = .int n ∧ h' = h) := by
  refine own_met_1_0 (M := M_sbl) pn_sbl rfl (by first | rfl | exact own_cat (by assumption)) ?_
  refine own_aload_n (pc' := 1) rfl d_sbl_0 rfl (by first | rfl | assumption) ?_
  refine own_up0v (M' := M_abl) d_sbl_1 (pc' := 4) rfl (by decide) (tw_163 hw) (tw_99 hw) (tw_117 hw) rfl (tw_159 hw) (tw_77 hw) (tw_164 hw) (by decide) rfl (own_lenOf pd_14 rfl) rfl rfl rfl rfl (Ins.self E) (c_abl K a0 hw t n h F) (by simp) ?_
  rintro w h1 xs ⟨rfl, rfl⟩
  refine own_ireturn rfl d_sbl_4 rfl rfl ?_
  exact ⟨rfl, rfl⟩
theorem d_ail_0 : decode jdk_68_method_68_code 0 = .ok (.getstatic 18, 3) := by decide +kernel
theorem d_ail_3 : decode jdk_68_method_68_code 3 = .ok (.ifCond .eq 14, 3) := by decide +kernel
theorem d_ail_6 : decode jdk_68_method_68_code 6 = .ok (.aload_n 0, 1) := by decide +kernel
theorem d_ail_7 : decode jdk_68_method_68_code 7 = .ok (.getfield 22, 3) := by decide +kernel
theorem d_ail_10 : decode jdk_68_method_68_code 10 = .ok (.ifCond .ne 7, 3) := by decide +kernel
theorem d_ail_13 : decode jdk_68_method_68_code 13 = .ok (.iconst 1, 1) := by decide +kernel
theorem d_ail_14 : decode jdk_68_method_68_code 14 = .ok (.goto 4, 3) := by decide +kernel
theorem d_ail_18 : decode jdk_68_method_68_code 18 = .ok (.ireturn, 1) := by decide +kernel
abbrev M_ail : own_Mi := ((⟨"java/lang/AbstractStringBuilder", "isLatin1", "()Z"⟩ : MethodName), jdk_68_method_68_code, 1, (Option.some FieldType.boolean), ({ frames := 0, cells := 0, slots := 0, locals := 0 } : Room))
theorem pn_ail : plainFor (own_Mi.y M_ail) = true := plainFor_of_name (by first | (simp [plainName, overriddenIn]; done) | decide +kernel)
set_option maxRecDepth 65536 in
set_option maxHeartbeats 40000000 in
theorem c_ail (K : own_Cx) (a0 : Array Value) (hw : ∀ d ∈ tables_1, d.before a0 K.Z = true) (g : Int32) (SC : Sta K.Z K.Z.heap own_sC "COMPACT_STRINGS" "Z" (.int g)) (hg : ¬ g = 0) (t : Addr) (h : Heap) (F : Fld K.Z h t own_bA "coder" "B" (.int 0)) :
    own_Met K M_ail #[.ref t] [] h (own_ret fun w h' _ => w = .int 1 ∧ h' = h) := by
  refine own_met_1_0 (M := M_ail) pn_ail rfl (by first | rfl | exact own_cat (by assumption)) ?_
  refine own_getS (pc' := 3) rfl d_ail_0 (tw_80 hw) Via.refl (by assumption) ?_
  refine own_ifeq (pcT := 17) (pcF := 6) d_ail_3 (by decide) (by decide) rfl (fun q => ?_) (fun q => ?_)
  · exact absurd q hg
  · skip
    refine own_aload_n (pc' := 7) rfl d_ail_6 rfl (by first | rfl | assumption) ?_
    refine own_getF (pc' := 10) rfl d_ail_7 (tw_83 hw) Via.refl F ?_
    refine own_ifne (pcT := 17) (pcF := 13) d_ail_10 (by decide) (by decide) rfl (fun q2 => ?_) (fun q2 => ?_)
    · exact absurd rfl q2
    · skip
      refine own_iconst (v := (1 : Int32)) (pc' := 14) rfl d_ail_13 rfl ?_
      refine own_goto (pc' := 18) d_ail_14 (by decide) (by decide) ?_
      refine own_ireturnN (t := .boolean) rfl (by simp) (by first | exact own_nb0 | exact own_nb1 | rfl) d_ail_18 rfl rfl ?_
      exact ⟨rfl, rfl⟩
theorem d_sia_0 : decode jdk_42_method_150_code 0 = .ok (.aload_n 0, 1) := by decide +kernel
theorem d_sia_1 : decode jdk_42_method_150_code 1 = .ok (.invokespecial 1, 3) := by decide +kernel
theorem d_sia_4 : decode jdk_42_method_150_code 4 = .ok (.aload_n 1, 1) := by decide +kernel
theorem d_sia_5 : decode jdk_42_method_150_code 5 = .ok (.invokevirtual 552, 3) := by decide +kernel
theorem d_sia_8 : decode jdk_42_method_150_code 8 = .ok (.astore_n 3, 1) := by decide +kernel
theorem d_sia_9 : decode jdk_42_method_150_code 9 = .ok (.aload_n 1, 1) := by decide +kernel
theorem d_sia_10 : decode jdk_42_method_150_code 10 = .ok (.invokevirtual 549, 3) := by decide +kernel
theorem d_sia_13 : decode jdk_42_method_150_code 13 = .ok (.istore 4, 2) := by decide +kernel
theorem d_sia_15 : decode jdk_42_method_150_code 15 = .ok (.aload_n 1, 1) := by decide +kernel
theorem d_sia_16 : decode jdk_42_method_150_code 16 = .ok (.invokevirtual 1047, 3) := by decide +kernel
theorem d_sia_19 : decode jdk_42_method_150_code 19 = .ok (.ifCond .eq 22, 3) := by decide +kernel
theorem d_sia_22 : decode jdk_42_method_150_code 22 = .ok (.aload_n 0, 1) := by decide +kernel
theorem d_sia_23 : decode jdk_42_method_150_code 23 = .ok (.iconst 0, 1) := by decide +kernel
theorem d_sia_24 : decode jdk_42_method_150_code 24 = .ok (.putfield 15, 3) := by decide +kernel
theorem d_sia_27 : decode jdk_42_method_150_code 27 = .ok (.aload_n 0, 1) := by decide +kernel
theorem d_sia_28 : decode jdk_42_method_150_code 28 = .ok (.aload_n 3, 1) := by decide +kernel
theorem d_sia_29 : decode jdk_42_method_150_code 29 = .ok (.iconst 0, 1) := by decide +kernel
theorem d_sia_30 : decode jdk_42_method_150_code 30 = .ok (.iload 4, 2) := by decide +kernel
theorem d_sia_32 : decode jdk_42_method_150_code 32 = .ok (.invokestatic 54, 3) := by decide +kernel
theorem d_sia_35 : decode jdk_42_method_150_code 35 = .ok (.putfield 9, 3) := by decide +kernel
theorem d_sia_38 : decode jdk_42_method_150_code 38 = .ok (.goto 59, 3) := by decide +kernel
theorem d_sia_97 : decode jdk_42_method_150_code 97 = .ok (.return_, 1) := by decide +kernel
abbrev M_sia : own_Mi := ((⟨"java/lang/String", "<init>", "(Ljava/lang/AbstractStringBuilder;Ljava/lang/Void;)V"⟩ : MethodName), jdk_42_method_150_code, 5, (Option.none : Option FieldType), ({ frames := 3, cells := 1, slots := 16, locals := 71 } : Room))
theorem pn_sia : plainFor (own_Mi.y M_sia) = true := plainFor_of_name (by first | (simp [plainName, overriddenIn]; done) | decide +kernel)
set_option maxRecDepth 65536 in
set_option maxHeartbeats 40000000 in
theorem c_sia (K : own_Cx) (a0 : Array Value) (hw : ∀ d ∈ tables_1, d.before a0 K.Z = true) (g : Int32) (SC : Sta K.Z K.Z.heap own_sC "COMPACT_STRINGS" "Z" (.int g)) (hg : ¬ g = 0) (x t b : Addr) (cs : List Int32) (cap : Nat) (h : Heap) (T : own_SB K.Z h t b cs cap) (hlt : cs.length < cap) (hcb : cap ≤ 16) (E : Exa K.Z h x own_sC) (FV : Fld K.Z h x own_sC "value" "[B" .null) (FC : Fld K.Z h x own_sC "coder" "B" (.int 0)) (hbx : b ≠ x) :
    own_Met K M_sia #[.ref x, .ref t, .null] [x] h (own_void fun h' _ => Keep h h' [x] ∧ own_Str K.Z h' x cs) := by
  obtain ⟨Et, hcs, hle, hcap, hlat, F1, F2, F3, B⟩ := T
  have hzc : (cs.length.toInt32).toInt = cs.length := own_lit _ (by omega)
  have sne : RoadKit.slotOf K.Z own_sC "value" "[B" ≠ RoadKit.slotOf K.Z own_sC "coder" "B" := slot_ne (Or.inr (tw_37 hw)) (Or.inr (tw_35 hw)) (by decide) (t := .array .byte) (t' := .byte) (by decide) (by decide)
  have xt : x ≠ t := ne_exa E Et (by decide)
  refine own_met_3_2 (M := M_sia) pn_sia rfl (by first | rfl | exact own_cat (by assumption)) (by first | rfl | exact own_cat (by assumption)) (by first | rfl | exact own_cat (by assumption)) ?_
  refine own_aload_n (pc' := 1) rfl d_sia_0 rfl (by first | rfl | assumption) ?_
  refine own_initO (pc' := 4) rfl d_sia_1 (tw_19 hw) (tw_20 hw) (tw_21 hw) rfl rfl rfl ?_
  refine own_aload_n (pc' := 5) rfl d_sia_4 rfl (by first | rfl | assumption) ?_
  refine own_virtual0v (M' := M_gvl) d_sia_5 (pc' := 8) rfl (tw_152 hw) (tw_153 hw) (tw_155 hw) (tw_154 hw) (tw_77 hw) (tw_156 hw) (by decide) rfl (own_lenOf pd_17 rfl) rfl rfl rfl rfl Et (c_gvl K a0 hw t b h F1) (by simp) ?_
  rintro w h1 xs1 ⟨rfl, rfl⟩
  refine own_astore_n3 (pc' := 9) rfl d_sia_8 (by first | exact One.u | exact One.val rfl | assumption | exact One.val (by assumption)) (by first | rfl | assumption) ?_
  refine own_aload_n (pc' := 10) rfl d_sia_9 rfl (by first | rfl | assumption) ?_
  refine own_vz0v (M' := M_sbl) d_sia_10 (pc' := 13) rfl (tw_157 hw) (tw_158 hw) (tw_117 hw) rfl (tw_160 hw) (tw_161 hw) (tw_69 hw) (tw_162 hw) (by decide) rfl (own_lenOf pd_14 rfl) rfl rfl rfl rfl Et (c_sbl K a0 hw t _ _ Et F3) (by simp) ?_
  rintro w h2 xs2 ⟨rfl, rfl⟩
  refine own_istore_4 (pc' := 15) rfl d_sia_13 (by first | exact One.u | exact One.val rfl | assumption | exact One.val (by assumption)) ?_
  refine own_aload_n (pc' := 16) rfl d_sia_15 rfl (by first | rfl | assumption) ?_
  refine own_virtual0v (M' := M_ail) d_sia_16 (pc' := 19) rfl (tw_165 hw) (tw_166 hw) (tw_168 hw) (tw_167 hw) (tw_77 hw) (tw_169 hw) (by decide) rfl (own_lenOf pd_7 rfl) rfl rfl rfl rfl Et (c_ail K a0 hw g SC hg t _ F2) (by simp) ?_
  rintro w h3 xs3 ⟨rfl, rfl⟩
  refine own_ifeq (pcT := 41) (pcF := 22) d_sia_19 (by decide) (by decide) rfl (fun q => ?_) (fun q => ?_)
  · exact absurd q (by decide)
  · skip
    refine own_aload_n (pc' := 23) rfl d_sia_22 rfl (by first | rfl | assumption) ?_
    refine own_iconst (v := (0 : Int32)) (pc' := 24) rfl d_sia_23 rfl ?_
    refine own_putF (pc' := 27) rfl d_sia_24 (tw_34 hw) Via.refl (Or.inr ⟨(tw_35 hw), rfl, rfl⟩) (tw_10 hw) (ty := .byte) (by decide) rfl rfl FC E (by simp) ?_
    intro h4 W4
    have B4 := B.other W4 hbx
    refine own_aload_n (pc' := 28) rfl d_sia_27 rfl (by first | rfl | assumption) ?_
    refine own_aload_n (pc' := 29) rfl d_sia_28 rfl (by first | rfl | assumption) ?_
    refine own_iconst (v := (0 : Int32)) (pc' := 30) rfl d_sia_29 rfl ?_
    refine own_iload (pc' := 32) rfl d_sia_30 rfl ?_
    refine own_static3v (M' := M_cor) d_sia_32 (pc' := 35) rfl (tw_170 hw) (tw_171 hw) (tw_172 hw) (tw_173 hw) (by decide) rfl (own_lenOf pd_10 rfl) rfl rfl rfl rfl (c_cor K a0 hw b 0 _ 0 cs.length _ h4 rfl hzc (Nat.zero_le _) (by simp) (fun _ => by simp; omega) (by omega) ((own_Bys.lat cs).app (own_Bys.zero _)) B4) (by simp) ?_
    rintro w h5 xs5 ⟨b5, rfl, E5, hb5, hbx5, B5⟩
    have b5x : b5 ≠ x := by show @Ne Nat b5 x; have : @LT.lt Nat _ _ _ := (E.wr W4).lt; omega
    refine own_putF (pc' := 38) rfl d_sia_35 (tw_36 hw) Via.refl (Or.inr ⟨(tw_37 hw), rfl, rfl⟩) (tw_10 hw) (ty := (.array .byte)) (by decide) rfl rfl ((FV.other W4 (Or.inr sne)).ext E5) ((E.wr W4).ext E5) (by simp) ?_
    intro h6 W6
    refine own_goto (pc' := 97) d_sia_38 (by decide) (by decide) ?_
    refine own_return rfl d_sia_97 rfl rfl ?_
    refine ⟨((((Keep.of_wr W4).ext E5).wr W6 (Or.inl (List.mem_singleton.mpr rfl)))), ((E.wr W4).ext E5).wr W6, hcs, by omega, b5, ((FV.other W4 (Or.inr sne)).ext E5).same W6, ?_, ?_⟩
    · rw [(own_enc_lat hlat).2]
      exact ((FC.same W4).ext E5).other W6 (Or.inr (Ne.symm sne))
    · rw [(own_enc_lat hlat).1]
      have e : ((own_ints (cs.map own_bt) ++ List.replicate (cap - cs.length) (Value.int 0)).drop 0).take (cs.length - 0) = own_ints (cs.map own_bt) := by
        rw [List.drop_zero, Nat.sub_zero, List.take_left' (by simp)]
      rw [← e]
      exact B5.other W6 b5x
theorem d_sis_0 : decode jdk_42_method_53_code 0 = .ok (.aload_n 0, 1) := by decide +kernel
theorem d_sis_1 : decode jdk_42_method_53_code 1 = .ok (.aload_n 1, 1) := by decide +kernel
theorem d_sis_2 : decode jdk_42_method_53_code 2 = .ok (.aconst_null, 1) := by decide +kernel
theorem d_sis_3 : decode jdk_42_method_53_code 3 = .ok (.invokespecial 489, 3) := by decide +kernel
theorem d_sis_6 : decode jdk_42_method_53_code 6 = .ok (.return_, 1) := by decide +kernel
abbrev M_sis : own_Mi := ((⟨"java/lang/String", "<init>", "(Ljava/lang/StringBuilder;)V"⟩ : MethodName), jdk_42_method_53_code, 2, (Option.none : Option FieldType), ({ frames := 4, cells := 1, slots := 16, locals := 87 } : Room))
theorem pn_sis : plainFor (own_Mi.y M_sis) = true := plainFor_of_name (by first | (simp [plainName, overriddenIn]; done) | decide +kernel)
set_option maxRecDepth 65536 in
set_option maxHeartbeats 40000000 in
theorem c_sis (K : own_Cx) (a0 : Array Value) (hw : ∀ d ∈ tables_1, d.before a0 K.Z = true) (g : Int32) (SC : Sta K.Z K.Z.heap own_sC "COMPACT_STRINGS" "Z" (.int g)) (hg : ¬ g = 0) (x t b : Addr) (cs : List Int32) (cap : Nat) (h : Heap) (T : own_SB K.Z h t b cs cap) (hlt : cs.length < cap) (hcb : cap ≤ 16) (E : Exa K.Z h x own_sC) (FV : Fld K.Z h x own_sC "value" "[B" .null) (FC : Fld K.Z h x own_sC "coder" "B" (.int 0)) (hbx : b ≠ x) :
    own_Met K M_sis #[.ref x, .ref t] [x] h (own_void fun h' _ => Keep h h' [x] ∧ own_Str K.Z h' x cs) := by
  refine own_met_2_0 (M := M_sis) pn_sis rfl (by first | rfl | exact own_cat (by assumption)) (by first | rfl | exact own_cat (by assumption)) ?_
  refine own_aload_n (pc' := 1) rfl d_sis_0 rfl (by first | rfl | assumption) ?_
  refine own_aload_n (pc' := 2) rfl d_sis_1 rfl (by first | rfl | assumption) ?_
  refine own_aconst_null (pc' := 3) rfl d_sis_2 ?_
  refine own_special2n (M' := M_sia) d_sis_3 (pc' := 6) rfl rfl rfl (tw_149 hw) (tw_150 hw) (tw_11 hw) (tw_151 hw) (by decide) rfl (own_lenOf pd_18 rfl) rfl rfl rfl rfl (c_sia K a0 hw g SC hg x t b cs cap h T hlt hcb E FV FC hbx) (by simp) ?_
  rintro h1 xs q
  refine own_return rfl d_sis_6 rfl rfl ?_
  exact q
theorem d_tos_0 : decode jdk_67_method_42_code 0 = .ok (.new 18, 3) := by decide +kernel
theorem d_tos_3 : decode jdk_67_method_42_code 3 = .ok (.dup, 1) := by decide +kernel
theorem d_tos_4 : decode jdk_67_method_42_code 4 = .ok (.aload_n 0, 1) := by decide +kernel
theorem d_tos_5 : decode jdk_67_method_42_code 5 = .ok (.invokespecial 137, 3) := by decide +kernel
theorem d_tos_8 : decode jdk_67_method_42_code 8 = .ok (.areturn, 1) := by decide +kernel
abbrev M_tos : own_Mi := ((⟨"java/lang/StringBuilder", "toString", "()Ljava/lang/String;"⟩ : MethodName), jdk_67_method_42_code, 1, (Option.some (FieldType.object "java/lang/String")), ({ frames := 5, cells := 2, slots := 20, locals := 102 } : Room))
theorem pn_tos : plainFor (own_Mi.y M_tos) = true := plainFor_of_name (by first | (simp [plainName, overriddenIn]; done) | decide +kernel)
set_option maxRecDepth 65536 in
set_option maxHeartbeats 40000000 in
theorem c_tos (K : own_Cx) (a0 : Array Value) (hw : ∀ d ∈ tables_1, d.before a0 K.Z = true) (g : Int32) (SC : Sta K.Z K.Z.heap own_sC "COMPACT_STRINGS" "Z" (.int g)) (hg : ¬ g = 0) (t b : Addr) (cs : List Int32) (cap : Nat) (h : Heap) (T : own_SB K.Z h t b cs cap) (hlt : cs.length < cap) (hcb : cap ≤ 16) :
    own_Met K M_tos #[.ref t] [] h (own_ret fun w h' _ => ∃ x : Addr, w = .ref x ∧ Ext h h' ∧ h.size ≤ x ∧ own_Str K.Z h' x cs) := by
  have lb : @LT.lt Nat _ b h.size := by obtain ⟨E, hcs, hle, hcap, hlat, F1, F2, F3, B⟩ := T; exact B.lt
  refine own_met_1_0 (M := M_tos) pn_tos rfl (by first | rfl | exact own_cat (by assumption)) ?_
  refine own_new (pc' := 3) rfl d_tos_0 (tw_145 hw) (tw_10 hw) (tw_11 hw) rfl rfl ?_
  intro x h1 ex E1 X1 D1
  have FV := D1 (Or.inr (tw_37 hw)) (ty := .array .byte) (by decide)
  have FC := D1 (Or.inr (tw_35 hw)) (ty := .byte) (by decide)
  refine own_dup (pc' := 4) rfl d_tos_3 (by first | rfl | assumption) ?_
  refine own_aload_n (pc' := 5) rfl d_tos_4 rfl (by first | rfl | assumption) ?_
  refine own_special1n (M' := M_sis) d_tos_5 (pc' := 8) rfl rfl rfl (tw_146 hw) (tw_147 hw) (tw_11 hw) (tw_148 hw) (by decide) rfl (own_lenOf pd_19 rfl) rfl rfl rfl rfl (c_sis K a0 hw g SC hg x t b cs cap h1 (T.ext E1) hlt hcb X1 FV FC (own_ne (by omega))) (by simp) ?_
  rintro h2 xs ⟨k2, S2⟩
  refine own_areturn rfl rfl (by first | rfl | assumption) d_tos_8 rfl rfl ?_
  exact ⟨x, rfl, own_ext_keep E1 k2 (by intro z hz; cases List.mem_singleton.mp hz; omega), by omega, S2⟩
theorem d_rec_0 : decode jdk_30_method_1_code 0 = .ok (.aload_n 0, 1) := by decide +kernel
theorem d_rec_1 : decode jdk_30_method_1_code 1 = .ok (.invokespecial 1, 3) := by decide +kernel
theorem d_rec_4 : decode jdk_30_method_1_code 4 = .ok (.return_, 1) := by decide +kernel
abbrev M_rec : own_Mi := ((⟨"java/lang/Record", "<init>", "()V"⟩ : MethodName), jdk_30_method_1_code, 1, (Option.none : Option FieldType), ({ frames := 1, cells := 0, slots := 0, locals := 12 } : Room))
theorem pn_rec : plainFor (own_Mi.y M_rec) = true := plainFor_of_name (by first | (simp [plainName, overriddenIn]; done) | decide +kernel)
set_option maxRecDepth 65536 in
set_option maxHeartbeats 40000000 in
theorem c_rec (K : own_Cx) (a0 : Array Value) (hw : ∀ d ∈ tables_1, d.before a0 K.Z = true) (t : Addr) (h : Heap) : own_Met K M_rec #[.ref t] [] h (own_void fun h' _ => h' = h) := by
  refine own_met_1_0 (M := M_rec) pn_rec rfl (by first | rfl | exact own_cat (by assumption)) ?_
  refine own_aload_n (pc' := 1) rfl d_rec_0 rfl (by first | rfl | assumption) ?_
  refine own_initO (pc' := 4) rfl d_rec_1 (tw_49 hw) (tw_20 hw) (tw_21 hw) rfl rfl rfl ?_
  refine own_return rfl d_rec_4 rfl rfl ?_
  rfl
theorem own_Str.as {Z : State} {h : Heap} {a : Addr} {cs ds : List Int32} (S : own_Str Z h a cs) (e : cs = ds) : own_Str Z h a ds := e ▸ S
abbrev own_aC : String := "com/example/protoloom/protoloom/report/Action"
abbrev own_kC : String := "com/example/protoloom/protoloom/report/Action$Kind"
abbrev own_kD : String := "Lcom/example/protoloom/protoloom/report/Action$Kind;"
abbrev own_sD : String := "Ljava/lang/String;"
theorem d_chn_0 : decode method_3_code 0 = .ok (.iload_n 0, 1) := by decide +kernel
theorem d_chn_1 : decode method_3_code 1 = .ok (.ifCond .ne 14, 3) := by decide +kernel
theorem d_chn_4 : decode method_3_code 4 = .ok (.new 33, 3) := by decide +kernel
theorem d_chn_7 : decode method_3_code 7 = .ok (.dup, 1) := by decide +kernel
theorem d_chn_8 : decode method_3_code 8 = .ok (.iconst 0, 1) := by decide +kernel
theorem d_chn_9 : decode method_3_code 9 = .ok (.newarray .char, 2) := by decide +kernel
theorem d_chn_11 : decode method_3_code 11 = .ok (.invokespecial 42, 3) := by decide +kernel
theorem d_chn_14 : decode method_3_code 14 = .ok (.areturn, 1) := by decide +kernel
theorem d_chn_15 : decode method_3_code 15 = .ok (.iload_n 0, 1) := by decide +kernel
theorem d_chn_16 : decode method_3_code 16 = .ok (.iconst 1, 1) := by decide +kernel
theorem d_chn_17 : decode method_3_code 17 = .ok (.if_icmp .ne 23, 3) := by decide +kernel
theorem d_chn_20 : decode method_3_code 20 = .ok (.iconst 1, 1) := by decide +kernel
theorem d_chn_21 : decode method_3_code 21 = .ok (.newarray .char, 2) := by decide +kernel
theorem d_chn_23 : decode method_3_code 23 = .ok (.astore 4, 2) := by decide +kernel
theorem d_chn_25 : decode method_3_code 25 = .ok (.aload 4, 2) := by decide +kernel
theorem d_chn_27 : decode method_3_code 27 = .ok (.iconst 0, 1) := by decide +kernel
theorem d_chn_28 : decode method_3_code 28 = .ok (.iload_n 1, 1) := by decide +kernel
theorem d_chn_29 : decode method_3_code 29 = .ok (.castore, 1) := by decide +kernel
theorem d_chn_30 : decode method_3_code 30 = .ok (.new 33, 3) := by decide +kernel
theorem d_chn_33 : decode method_3_code 33 = .ok (.dup, 1) := by decide +kernel
theorem d_chn_34 : decode method_3_code 34 = .ok (.aload 4, 2) := by decide +kernel
theorem d_chn_36 : decode method_3_code 36 = .ok (.invokespecial 42, 3) := by decide +kernel
theorem d_chn_39 : decode method_3_code 39 = .ok (.areturn, 1) := by decide +kernel
theorem d_chn_40 : decode method_3_code 40 = .ok (.iload_n 0, 1) := by decide +kernel
theorem d_chn_41 : decode method_3_code 41 = .ok (.iconst 2, 1) := by decide +kernel
theorem d_chn_42 : decode method_3_code 42 = .ok (.if_icmp .ne 28, 3) := by decide +kernel
theorem d_chn_45 : decode method_3_code 45 = .ok (.iconst 2, 1) := by decide +kernel
theorem d_chn_46 : decode method_3_code 46 = .ok (.newarray .char, 2) := by decide +kernel
theorem d_chn_48 : decode method_3_code 48 = .ok (.astore 4, 2) := by decide +kernel
theorem d_chn_50 : decode method_3_code 50 = .ok (.aload 4, 2) := by decide +kernel
theorem d_chn_52 : decode method_3_code 52 = .ok (.iconst 0, 1) := by decide +kernel
theorem d_chn_53 : decode method_3_code 53 = .ok (.iload_n 1, 1) := by decide +kernel
theorem d_chn_54 : decode method_3_code 54 = .ok (.castore, 1) := by decide +kernel
theorem d_chn_55 : decode method_3_code 55 = .ok (.aload 4, 2) := by decide +kernel
theorem d_chn_57 : decode method_3_code 57 = .ok (.iconst 1, 1) := by decide +kernel
theorem d_chn_58 : decode method_3_code 58 = .ok (.iload_n 2, 1) := by decide +kernel
theorem d_chn_59 : decode method_3_code 59 = .ok (.castore, 1) := by decide +kernel
theorem d_chn_60 : decode method_3_code 60 = .ok (.new 33, 3) := by decide +kernel
theorem d_chn_63 : decode method_3_code 63 = .ok (.dup, 1) := by decide +kernel
theorem d_chn_64 : decode method_3_code 64 = .ok (.aload 4, 2) := by decide +kernel
theorem d_chn_66 : decode method_3_code 66 = .ok (.invokespecial 42, 3) := by decide +kernel
theorem d_chn_69 : decode method_3_code 69 = .ok (.areturn, 1) := by decide +kernel
theorem d_chn_70 : decode method_3_code 70 = .ok (.iconst 3, 1) := by decide +kernel
theorem d_chn_71 : decode method_3_code 71 = .ok (.newarray .char, 2) := by decide +kernel
theorem d_chn_73 : decode method_3_code 73 = .ok (.astore 4, 2) := by decide +kernel
theorem d_chn_75 : decode method_3_code 75 = .ok (.aload 4, 2) := by decide +kernel
theorem d_chn_77 : decode method_3_code 77 = .ok (.iconst 0, 1) := by decide +kernel
theorem d_chn_78 : decode method_3_code 78 = .ok (.iload_n 1, 1) := by decide +kernel
theorem d_chn_79 : decode method_3_code 79 = .ok (.castore, 1) := by decide +kernel
theorem d_chn_80 : decode method_3_code 80 = .ok (.aload 4, 2) := by decide +kernel
theorem d_chn_82 : decode method_3_code 82 = .ok (.iconst 1, 1) := by decide +kernel
theorem d_chn_83 : decode method_3_code 83 = .ok (.iload_n 2, 1) := by decide +kernel
theorem d_chn_84 : decode method_3_code 84 = .ok (.castore, 1) := by decide +kernel
theorem d_chn_85 : decode method_3_code 85 = .ok (.aload 4, 2) := by decide +kernel
theorem d_chn_87 : decode method_3_code 87 = .ok (.iconst 2, 1) := by decide +kernel
theorem d_chn_88 : decode method_3_code 88 = .ok (.iload_n 3, 1) := by decide +kernel
theorem d_chn_89 : decode method_3_code 89 = .ok (.castore, 1) := by decide +kernel
theorem d_chn_90 : decode method_3_code 90 = .ok (.new 33, 3) := by decide +kernel
theorem d_chn_93 : decode method_3_code 93 = .ok (.dup, 1) := by decide +kernel
theorem d_chn_94 : decode method_3_code 94 = .ok (.aload 4, 2) := by decide +kernel
theorem d_chn_96 : decode method_3_code 96 = .ok (.invokespecial 42, 3) := by decide +kernel
theorem d_chn_99 : decode method_3_code 99 = .ok (.areturn, 1) := by decide +kernel
abbrev M_chn : own_Mi := ((⟨"com/example/protoloom/protoloom/report/ActionToStringPinLaw", "channel", "(ICCC)Ljava/lang/String;"⟩ : MethodName), method_3_code, 5, (Option.some (FieldType.object "java/lang/String")), ({ frames := 4, cells := 6, slots := 15, locals := 73 } : Room))
theorem pn_chn : plainFor (own_Mi.y M_chn) = true := plainFor_of_name (by first | (simp [plainName, overriddenIn]; done) | decide +kernel)
set_option maxRecDepth 65536 in
set_option maxHeartbeats 40000000 in
theorem c_chn (K : own_Cx) (a0 : Array Value) (hw : ∀ d ∈ tables_1, d.before a0 K.Z = true) (hnw : K.nw = false) (hEL : EW K.Z a0 K.E) (hme : ("java/lang/String", 7) ∈ K.E) (g : Int32) (SC : Sta K.Z K.Z.heap own_sC "COMPACT_STRINGS" "Z" (.int g)) (hg : ¬ g = 0) (n c0 c1 c2 : Int32) (N : Nat) (h : Heap) (hn : n.toInt = N) (hN : N < 4) (hc : ∀ c ∈ [c0, c1, c2], 0 ≤ c.toInt ∧ c.toInt < 256) :
    own_Met K M_chn #[.int n, .int c0, .int c1, .int c2] [] h (own_ret fun w h' _ => ∃ x : Addr, w = .ref x ∧ Ext h h' ∧ own_Str K.Z h' x ([c0, c1, c2].take N)) := by
  have r0 := hc c0 (by simp)
  have r1 := hc c1 (by simp)
  have r2 := hc c2 (by simp)
  have hcc : ∀ k, own_Chs ([c0, c1, c2].take k) := fun k c h => ⟨(hc c (List.mem_of_mem_take h)).1, by have := (hc c (List.mem_of_mem_take h)).2; omega⟩
  have hll : ∀ k, own_lat ([c0, c1, c2].take k) = true := fun k => List.all_eq_true.mpr fun c h => decide_eq_true (hc c (List.mem_of_mem_take h)).2
  have z0 : (N = 0 ∧ n = 0) ∨ (N = 1 ∧ n = 1) ∨ (N = 2 ∧ n = 2) ∨ (N = 3 ∧ n = 3) := by
    have e0 : (0 : Int32).toInt = 0 := rfl
    have e1 : (1 : Int32).toInt = 1 := rfl
    have e2 : (2 : Int32).toInt = 2 := rfl
    have e3 : (3 : Int32).toInt = 3 := rfl
    rcases (show N = 0 ∨ N = 1 ∨ N = 2 ∨ N = 3 by omega) with q | q | q | q
    · exact Or.inl ⟨q, Int32.toInt_inj.mp (by rw [hn, q, e0]; rfl)⟩
    · exact Or.inr (Or.inl ⟨q, Int32.toInt_inj.mp (by rw [hn, q, e1]; rfl)⟩)
    · exact Or.inr (Or.inr (Or.inl ⟨q, Int32.toInt_inj.mp (by rw [hn, q, e2]; rfl)⟩))
    · exact Or.inr (Or.inr (Or.inr ⟨q, Int32.toInt_inj.mp (by rw [hn, q, e3]; rfl)⟩))
  rcases z0 with ⟨rfl, rfl⟩ | ⟨rfl, rfl⟩ | ⟨rfl, rfl⟩ | ⟨rfl, rfl⟩
  · skip
    refine own_met_4_1 (M := M_chn) pn_chn rfl (by first | rfl | exact own_cat (by assumption)) (by first | rfl | exact own_cat (by assumption)) (by first | rfl | exact own_cat (by assumption)) (by first | rfl | exact own_cat (by assumption)) ?_
    refine own_iload_n (pc' := 1) rfl d_chn_0 rfl ?_
    refine own_ifne (pcT := 15) (pcF := 4) d_chn_1 (by decide) (by decide) rfl (fun q0 => ?_) (fun q0 => ?_)
    · exact absurd rfl q0
    refine own_new (pc' := 7) rfl d_chn_4 (tw_9 hw) (tw_10 hw) (tw_11 hw) rfl rfl ?_
    intro x hx ex Ex X D
    have FVx := D (Or.inr (tw_37 hw)) (ty := .array .byte) (by decide)
    have FCx := D (Or.inr (tw_35 hw)) (ty := .byte) (by decide)
    refine own_dup (pc' := 8) rfl d_chn_7 (by first | rfl | assumption) ?_
    refine own_iconst (v := (0 : Int32)) (pc' := 9) rfl d_chn_8 rfl ?_
    refine own_newarray (pc' := 11) rfl d_chn_9 (tw_8 hw) (N := 0) (cap := 0) (by decide) (by decide) rfl rfl rfl ?_
    intro b hb0 eb Eb B0
    refine own_special1n (M' := M_si1) d_chn_11 (pc' := 14) rfl rfl rfl (tw_12 hw) (tw_13 hw) (tw_11 hw) (tw_14 hw) (by decide) rfl (own_lenOf pd_20 rfl) rfl rfl rfl rfl (c_si1 K a0 hw hnw hEL hme x b g [] hb0 (by simp) (hcc 0) B0 (X.ext Eb) (FVx.ext Eb) (FCx.ext Eb) SC hg rfl) (by simp) ?_
    rintro hs xs ⟨ks, S⟩
    refine own_areturn rfl rfl (by first | rfl | assumption) d_chn_14 rfl rfl ?_
    exact ⟨x, rfl, own_ext_keep (own_ext_trans Ex Eb) ks (by intro z hz; cases List.mem_singleton.mp hz; omega), S⟩
  · skip
    refine own_met_4_1 (M := M_chn) pn_chn rfl (by first | rfl | exact own_cat (by assumption)) (by first | rfl | exact own_cat (by assumption)) (by first | rfl | exact own_cat (by assumption)) (by first | rfl | exact own_cat (by assumption)) ?_
    refine own_iload_n (pc' := 1) rfl d_chn_0 rfl ?_
    refine own_ifne (pcT := 15) (pcF := 4) d_chn_1 (by decide) (by decide) rfl (fun q0 => ?_) (fun q0 => ?_)
    rotate_left 1
    · exact absurd q0 (by decide)
    refine own_iload_n (pc' := 16) rfl d_chn_15 rfl ?_
    refine own_iconst (v := (1 : Int32)) (pc' := 17) rfl d_chn_16 rfl ?_
    refine own_icmpne (pcT := 40) (pcF := 20) d_chn_17 (by decide) (by decide) rfl (fun q1 => ?_) (fun q1 => ?_)
    · exact absurd rfl q1
    refine own_iconst (v := (1 : Int32)) (pc' := 21) rfl d_chn_20 rfl ?_
    refine own_newarray (pc' := 23) rfl d_chn_21 (tw_8 hw) (N := 1) (cap := 1) (by decide) (by decide) rfl rfl rfl ?_
    intro b hb0 eb Eb B0
    have k0 : Keep hb0 hb0 [b] := Keep.refl _ _
    refine own_astore_4 (pc' := 25) rfl d_chn_23 (by first | exact One.u | exact One.val rfl | assumption | exact One.val (by assumption)) (by first | rfl | assumption) ?_
    refine own_aload (pc' := 27) rfl d_chn_25 rfl (by first | rfl | assumption) ?_
    refine own_iconst (v := (0 : Int32)) (pc' := 28) rfl d_chn_27 rfl ?_
    refine own_iload_n (pc' := 29) rfl d_chn_28 rfl ?_
    refine own_castore (pc' := 30) rfl d_chn_29 B0 (i := 0) (by decide) (by simp) (own_i2c_id r0.1 (by omega)) (by simp) ?_
    intro h1 k1' B1
    have k1 := k0.trans k1' (fun z hz => Or.inl hz)
    have Eb' := own_ext_keep Eb k1 (by intro z hz; cases List.mem_singleton.mp hz; omega)
    refine own_new (pc' := 33) rfl d_chn_30 (tw_9 hw) (tw_10 hw) (tw_11 hw) rfl rfl ?_
    intro x hx ex Ex X D
    have FVx := D (Or.inr (tw_37 hw)) (ty := .array .byte) (by decide)
    have FCx := D (Or.inr (tw_35 hw)) (ty := .byte) (by decide)
    refine own_dup (pc' := 34) rfl d_chn_33 (by first | rfl | assumption) ?_
    refine own_aload (pc' := 36) rfl d_chn_34 rfl (by first | rfl | assumption) ?_
    refine own_special1n (M' := M_si1) d_chn_36 (pc' := 39) rfl rfl rfl (tw_12 hw) (tw_13 hw) (tw_11 hw) (tw_14 hw) (by decide) rfl (own_lenOf pd_20 rfl) rfl rfl rfl rfl (c_si1 K a0 hw hnw hEL hme x b g [c0] hx (by simp) (hcc 1) (B1.ext Ex) X FVx FCx SC hg (hll 1)) (by simp) ?_
    rintro hs xs ⟨ks, S⟩
    refine own_areturn rfl rfl (by first | rfl | assumption) d_chn_39 rfl rfl ?_
    exact ⟨x, rfl, own_ext_keep (own_ext_trans Eb' Ex) ks (by intro z hz; cases List.mem_singleton.mp hz; have := Eb'.1; omega), S⟩
  · skip
    refine own_met_4_1 (M := M_chn) pn_chn rfl (by first | rfl | exact own_cat (by assumption)) (by first | rfl | exact own_cat (by assumption)) (by first | rfl | exact own_cat (by assumption)) (by first | rfl | exact own_cat (by assumption)) ?_
    refine own_iload_n (pc' := 1) rfl d_chn_0 rfl ?_
    refine own_ifne (pcT := 15) (pcF := 4) d_chn_1 (by decide) (by decide) rfl (fun q0 => ?_) (fun q0 => ?_)
    rotate_left 1
    · exact absurd q0 (by decide)
    refine own_iload_n (pc' := 16) rfl d_chn_15 rfl ?_
    refine own_iconst (v := (1 : Int32)) (pc' := 17) rfl d_chn_16 rfl ?_
    refine own_icmpne (pcT := 40) (pcF := 20) d_chn_17 (by decide) (by decide) rfl (fun q1 => ?_) (fun q1 => ?_)
    rotate_left 1
    · exact absurd q1 (by decide)
    refine own_iload_n (pc' := 41) rfl d_chn_40 rfl ?_
    refine own_iconst (v := (2 : Int32)) (pc' := 42) rfl d_chn_41 rfl ?_
    refine own_icmpne (pcT := 70) (pcF := 45) d_chn_42 (by decide) (by decide) rfl (fun q2 => ?_) (fun q2 => ?_)
    · exact absurd rfl q2
    refine own_iconst (v := (2 : Int32)) (pc' := 46) rfl d_chn_45 rfl ?_
    refine own_newarray (pc' := 48) rfl d_chn_46 (tw_8 hw) (N := 2) (cap := 2) (by decide) (by decide) rfl rfl rfl ?_
    intro b hb0 eb Eb B0
    have k0 : Keep hb0 hb0 [b] := Keep.refl _ _
    refine own_astore_4 (pc' := 50) rfl d_chn_48 (by first | exact One.u | exact One.val rfl | assumption | exact One.val (by assumption)) (by first | rfl | assumption) ?_
    refine own_aload (pc' := 52) rfl d_chn_50 rfl (by first | rfl | assumption) ?_
    refine own_iconst (v := (0 : Int32)) (pc' := 53) rfl d_chn_52 rfl ?_
    refine own_iload_n (pc' := 54) rfl d_chn_53 rfl ?_
    refine own_castore (pc' := 55) rfl d_chn_54 B0 (i := 0) (by decide) (by simp) (own_i2c_id r0.1 (by omega)) (by simp) ?_
    intro h1 k1' B1
    have k1 := k0.trans k1' (fun z hz => Or.inl hz)
    refine own_aload (pc' := 57) rfl d_chn_55 rfl (by first | rfl | assumption) ?_
    refine own_iconst (v := (1 : Int32)) (pc' := 58) rfl d_chn_57 rfl ?_
    refine own_iload_n (pc' := 59) rfl d_chn_58 rfl ?_
    refine own_castore (pc' := 60) rfl d_chn_59 B1 (i := 1) (by decide) (by simp) (own_i2c_id r1.1 (by omega)) (by simp) ?_
    intro h2 k2' B2
    have k2 := k1.trans k2' (fun z hz => Or.inl hz)
    have Eb' := own_ext_keep Eb k2 (by intro z hz; cases List.mem_singleton.mp hz; omega)
    refine own_new (pc' := 63) rfl d_chn_60 (tw_9 hw) (tw_10 hw) (tw_11 hw) rfl rfl ?_
    intro x hx ex Ex X D
    have FVx := D (Or.inr (tw_37 hw)) (ty := .array .byte) (by decide)
    have FCx := D (Or.inr (tw_35 hw)) (ty := .byte) (by decide)
    refine own_dup (pc' := 64) rfl d_chn_63 (by first | rfl | assumption) ?_
    refine own_aload (pc' := 66) rfl d_chn_64 rfl (by first | rfl | assumption) ?_
    refine own_special1n (M' := M_si1) d_chn_66 (pc' := 69) rfl rfl rfl (tw_12 hw) (tw_13 hw) (tw_11 hw) (tw_14 hw) (by decide) rfl (own_lenOf pd_20 rfl) rfl rfl rfl rfl (c_si1 K a0 hw hnw hEL hme x b g [c0, c1] hx (by simp) (hcc 2) (B2.ext Ex) X FVx FCx SC hg (hll 2)) (by simp) ?_
    rintro hs xs ⟨ks, S⟩
    refine own_areturn rfl rfl (by first | rfl | assumption) d_chn_69 rfl rfl ?_
    exact ⟨x, rfl, own_ext_keep (own_ext_trans Eb' Ex) ks (by intro z hz; cases List.mem_singleton.mp hz; have := Eb'.1; omega), S⟩
  · skip
    refine own_met_4_1 (M := M_chn) pn_chn rfl (by first | rfl | exact own_cat (by assumption)) (by first | rfl | exact own_cat (by assumption)) (by first | rfl | exact own_cat (by assumption)) (by first | rfl | exact own_cat (by assumption)) ?_
    refine own_iload_n (pc' := 1) rfl d_chn_0 rfl ?_
    refine own_ifne (pcT := 15) (pcF := 4) d_chn_1 (by decide) (by decide) rfl (fun q0 => ?_) (fun q0 => ?_)
    rotate_left 1
    · exact absurd q0 (by decide)
    refine own_iload_n (pc' := 16) rfl d_chn_15 rfl ?_
    refine own_iconst (v := (1 : Int32)) (pc' := 17) rfl d_chn_16 rfl ?_
    refine own_icmpne (pcT := 40) (pcF := 20) d_chn_17 (by decide) (by decide) rfl (fun q1 => ?_) (fun q1 => ?_)
    rotate_left 1
    · exact absurd q1 (by decide)
    refine own_iload_n (pc' := 41) rfl d_chn_40 rfl ?_
    refine own_iconst (v := (2 : Int32)) (pc' := 42) rfl d_chn_41 rfl ?_
    refine own_icmpne (pcT := 70) (pcF := 45) d_chn_42 (by decide) (by decide) rfl (fun q2 => ?_) (fun q2 => ?_)
    rotate_left 1
    · exact absurd q2 (by decide)
    refine own_iconst (v := (3 : Int32)) (pc' := 71) rfl d_chn_70 rfl ?_
    refine own_newarray (pc' := 73) rfl d_chn_71 (tw_8 hw) (N := 3) (cap := 3) (by decide) (by decide) rfl rfl rfl ?_
    intro b hb0 eb Eb B0
    have k0 : Keep hb0 hb0 [b] := Keep.refl _ _
    refine own_astore_4 (pc' := 75) rfl d_chn_73 (by first | exact One.u | exact One.val rfl | assumption | exact One.val (by assumption)) (by first | rfl | assumption) ?_
    refine own_aload (pc' := 77) rfl d_chn_75 rfl (by first | rfl | assumption) ?_
    refine own_iconst (v := (0 : Int32)) (pc' := 78) rfl d_chn_77 rfl ?_
    refine own_iload_n (pc' := 79) rfl d_chn_78 rfl ?_
    refine own_castore (pc' := 80) rfl d_chn_79 B0 (i := 0) (by decide) (by simp) (own_i2c_id r0.1 (by omega)) (by simp) ?_
    intro h1 k1' B1
    have k1 := k0.trans k1' (fun z hz => Or.inl hz)
    refine own_aload (pc' := 82) rfl d_chn_80 rfl (by first | rfl | assumption) ?_
    refine own_iconst (v := (1 : Int32)) (pc' := 83) rfl d_chn_82 rfl ?_
    refine own_iload_n (pc' := 84) rfl d_chn_83 rfl ?_
    refine own_castore (pc' := 85) rfl d_chn_84 B1 (i := 1) (by decide) (by simp) (own_i2c_id r1.1 (by omega)) (by simp) ?_
    intro h2 k2' B2
    have k2 := k1.trans k2' (fun z hz => Or.inl hz)
    refine own_aload (pc' := 87) rfl d_chn_85 rfl (by first | rfl | assumption) ?_
    refine own_iconst (v := (2 : Int32)) (pc' := 88) rfl d_chn_87 rfl ?_
    refine own_iload_n (pc' := 89) rfl d_chn_88 rfl ?_
    refine own_castore (pc' := 90) rfl d_chn_89 B2 (i := 2) (by decide) (by simp) (own_i2c_id r2.1 (by omega)) (by simp) ?_
    intro h3 k3' B3
    have k3 := k2.trans k3' (fun z hz => Or.inl hz)
    have Eb' := own_ext_keep Eb k3 (by intro z hz; cases List.mem_singleton.mp hz; omega)
    refine own_new (pc' := 93) rfl d_chn_90 (tw_9 hw) (tw_10 hw) (tw_11 hw) rfl rfl ?_
    intro x hx ex Ex X D
    have FVx := D (Or.inr (tw_37 hw)) (ty := .array .byte) (by decide)
    have FCx := D (Or.inr (tw_35 hw)) (ty := .byte) (by decide)
    refine own_dup (pc' := 94) rfl d_chn_93 (by first | rfl | assumption) ?_
    refine own_aload (pc' := 96) rfl d_chn_94 rfl (by first | rfl | assumption) ?_
    refine own_special1n (M' := M_si1) d_chn_96 (pc' := 99) rfl rfl rfl (tw_12 hw) (tw_13 hw) (tw_11 hw) (tw_14 hw) (by decide) rfl (own_lenOf pd_20 rfl) rfl rfl rfl rfl (c_si1 K a0 hw hnw hEL hme x b g [c0, c1, c2] hx (by simp) (hcc 3) (B3.ext Ex) X FVx FCx SC hg (hll 3)) (by simp) ?_
    rintro hs xs ⟨ks, S⟩
    refine own_areturn rfl rfl (by first | rfl | assumption) d_chn_99 rfl rfl ?_
    exact ⟨x, rfl, own_ext_keep (own_ext_trans Eb' Ex) ks (by intro z hz; cases List.mem_singleton.mp hz; have := Eb'.1; omega), S⟩
theorem d_rnn_0 : decode jdk_31_method_11_code 0 = .ok (.aload_n 0, 1) := by decide +kernel
theorem d_rnn_1 : decode jdk_31_method_11_code 1 = .ok (.ifnonnull 12, 3) := by decide +kernel
theorem d_rnn_13 : decode jdk_31_method_11_code 13 = .ok (.aload_n 0, 1) := by decide +kernel
theorem d_rnn_14 : decode jdk_31_method_11_code 14 = .ok (.areturn, 1) := by decide +kernel
abbrev M_rnn : own_Mi := ((⟨"java/util/Objects", "requireNonNull", "(Ljava/lang/Object;Ljava/lang/String;)Ljava/lang/Object;"⟩ : MethodName), jdk_31_method_11_code, 2, (Option.some (FieldType.object "java/lang/Object")), ({ frames := 0, cells := 0, slots := 0, locals := 0 } : Room))
theorem pn_rnn : plainFor (own_Mi.y M_rnn) = true := plainFor_of_name (by first | (simp [plainName, overriddenIn]; done) | decide +kernel)
set_option maxRecDepth 65536 in
set_option maxHeartbeats 40000000 in
theorem c_rnn (K : own_Cx) (a0 : Array Value) (hw : ∀ d ∈ tables_1, d.before a0 K.Z = true) (x y : Addr) (h : Heap) :
    own_Met K M_rnn #[.ref x, .ref y] [] h (own_ret fun w h' _ => w = .ref x ∧ h' = h) := by
  refine own_met_2_0 (M := M_rnn) pn_rnn rfl (by first | rfl | exact own_cat (by assumption)) (by first | rfl | exact own_cat (by assumption)) ?_
  refine own_aload_n (pc' := 1) rfl d_rnn_0 rfl (by first | rfl | assumption) ?_
  refine own_ifnonnull_y (pc' := 13) d_rnn_1 (by decide) (by decide) ?_
  refine own_aload_n (pc' := 14) rfl d_rnn_13 rfl (by first | rfl | assumption) ?_
  refine own_areturn rfl rfl (by first | rfl | assumption) d_rnn_14 rfl rfl ?_
  exact ⟨rfl, rfl⟩
def own_Act (Z : State) (h : Heap) (t kd x : Addr) : Prop := Exa Z h t own_aC ∧ Fld Z h t own_aC "kind" own_kD (.ref kd) ∧ Fld Z h t own_aC "channel" own_sD (.ref x)
theorem d_act_0 : decode prog_28_method_1_code 0 = .ok (.aload_n 0, 1) := by decide +kernel
theorem d_act_1 : decode prog_28_method_1_code 1 = .ok (.invokespecial 1, 3) := by decide +kernel
theorem d_act_4 : decode prog_28_method_1_code 4 = .ok (.aload_n 1, 1) := by decide +kernel
theorem d_act_5 : decode prog_28_method_1_code 5 = .ok (.ldc 7, 2) := by decide +kernel
theorem d_act_7 : decode prog_28_method_1_code 7 = .ok (.invokestatic 9, 3) := by decide +kernel
theorem d_act_10 : decode prog_28_method_1_code 10 = .ok (.pop, 1) := by decide +kernel
theorem d_act_11 : decode prog_28_method_1_code 11 = .ok (.aload_n 2, 1) := by decide +kernel
theorem d_act_12 : decode prog_28_method_1_code 12 = .ok (.ldc 15, 2) := by decide +kernel
theorem d_act_14 : decode prog_28_method_1_code 14 = .ok (.invokestatic 9, 3) := by decide +kernel
theorem d_act_17 : decode prog_28_method_1_code 17 = .ok (.pop, 1) := by decide +kernel
theorem d_act_18 : decode prog_28_method_1_code 18 = .ok (.aload_n 0, 1) := by decide +kernel
theorem d_act_19 : decode prog_28_method_1_code 19 = .ok (.aload_n 1, 1) := by decide +kernel
theorem d_act_20 : decode prog_28_method_1_code 20 = .ok (.putfield 17, 3) := by decide +kernel
theorem d_act_23 : decode prog_28_method_1_code 23 = .ok (.aload_n 0, 1) := by decide +kernel
theorem d_act_24 : decode prog_28_method_1_code 24 = .ok (.aload_n 2, 1) := by decide +kernel
theorem d_act_25 : decode prog_28_method_1_code 25 = .ok (.putfield 22, 3) := by decide +kernel
theorem d_act_28 : decode prog_28_method_1_code 28 = .ok (.return_, 1) := by decide +kernel
abbrev M_act : own_Mi := ((⟨"com/example/protoloom/protoloom/report/Action", "<init>", "(Lcom/example/protoloom/protoloom/report/Action$Kind;Ljava/lang/String;)V"⟩ : MethodName), prog_28_method_1_code, 3, (Option.none : Option FieldType), ({ frames := 2, cells := 4, slots := 52, locals := 24 } : Room))
theorem pn_act : plainFor (own_Mi.y M_act) = true := plainFor_of_name (by first | (simp [plainName, overriddenIn]; done) | decide +kernel)
set_option maxRecDepth 65536 in
set_option maxHeartbeats 40000000 in
theorem c_act (K : own_Cx) (a0 : Array Value) (hw : ∀ d ∈ tables_1, d.before a0 K.Z = true) (hnw : K.nw = false) (hEL : EW K.Z a0 K.E) (hm7 : (own_aC, 7) ∈ K.E) (hm15 : (own_aC, 15) ∈ K.E) (t kd x : Addr) (h : Heap) (E : Exa K.Z h t own_aC) (F1 : Fld K.Z h t own_aC "kind" own_kD .null) (F2 : Fld K.Z h t own_aC "channel" own_sD .null) :
    own_Met K M_act #[.ref t, .ref kd, .ref x] [t] h (own_void fun h' _ => Keep h h' [t] ∧ own_Act K.Z h' t kd x) := by
  have L1 : Laid K.Z a0 own_aC own_aC "kind" own_kD := Or.inr (tw_59 hw)
  have L2 : Laid K.Z a0 own_aC own_aC "channel" own_sD := Or.inr (tw_61 hw)
  have s12 := slot_ne L1 L2 (by decide) (t := .object own_kC) (t' := .object "java/lang/String") (by decide) (by decide)
  refine own_met_3_0 (M := M_act) pn_act rfl (by first | rfl | exact own_cat (by assumption)) (by first | rfl | exact own_cat (by assumption)) (by first | rfl | exact own_cat (by assumption)) ?_
  refine own_aload_n (pc' := 1) rfl d_act_0 rfl (by first | rfl | assumption) ?_
  refine own_special0n (M' := M_rec) d_act_1 (pc' := 4) rfl rfl rfl (tw_44 hw) (tw_45 hw) (tw_47 hw) (tw_48 hw) (by decide) rfl (own_lenOf pd_21 rfl) rfl rfl rfl rfl (c_rec K a0 hw t h) (by simp) ?_
  rintro h1 xs1 rfl
  refine own_aload_n (pc' := 5) rfl d_act_4 rfl (by first | rfl | assumption) ?_
  refine own_ldcS (n := 16) hnw (pc' := 7) rfl d_act_5 (hw _ (List.mem_of_getElem? (i := 50) rfl)) (own_atoms hw) hEL hm7 (by decide +kernel) (by decide +kernel) (by decide +kernel) (by decide +kernel) (by decide +kernel) (by decide +kernel) (by decide +kernel) rfl rfl rfl ?_
  intro y1 h2 E2 S2
  refine own_static2v (M' := M_rnn) d_act_7 (pc' := 10) rfl (tw_53 hw) (tw_54 hw) (tw_55 hw) (tw_56 hw) (by decide) rfl (own_lenOf pd_22 rfl) rfl rfl rfl rfl (c_rnn K a0 hw kd y1 h2) (by simp) ?_
  rintro w h3 xs3 ⟨rfl, rfl⟩
  refine own_pop (pc' := 11) rfl d_act_10 (by first | rfl | assumption) ?_
  refine own_aload_n (pc' := 12) rfl d_act_11 rfl (by first | rfl | assumption) ?_
  refine own_ldcS (n := 28) hnw (pc' := 14) rfl d_act_12 (hw _ (List.mem_of_getElem? (i := 57) rfl)) (own_atoms hw) hEL hm15 (by decide +kernel) (by decide +kernel) (by decide +kernel) (by decide +kernel) (by decide +kernel) (by decide +kernel) (by decide +kernel) rfl rfl rfl ?_
  intro y2 h4 E4 S4
  refine own_static2v (M' := M_rnn) d_act_14 (pc' := 17) rfl (tw_53 hw) (tw_54 hw) (tw_55 hw) (tw_56 hw) (by decide) rfl (own_lenOf pd_22 rfl) rfl rfl rfl rfl (c_rnn K a0 hw x y2 h4) (by simp) ?_
  rintro w h5 xs5 ⟨rfl, rfl⟩
  have EE := own_ext_trans E2 E4
  refine own_pop (pc' := 18) rfl d_act_17 (by first | rfl | assumption) ?_
  refine own_aload_n (pc' := 19) rfl d_act_18 rfl (by first | rfl | assumption) ?_
  refine own_aload_n (pc' := 20) rfl d_act_19 rfl (by first | rfl | assumption) ?_
  refine own_putF (pc' := 23) rfl d_act_20 (tw_58 hw) Via.refl (Or.inr ⟨(tw_59 hw), rfl, rfl⟩) (tw_39 hw) (ty := (.object "com/example/protoloom/protoloom/report/Action$Kind")) (by decide) rfl rfl (F1.ext EE) (E.ext EE) (by simp) ?_
  intro h6 W6
  refine own_aload_n (pc' := 24) rfl d_act_23 rfl (by first | rfl | assumption) ?_
  refine own_aload_n (pc' := 25) rfl d_act_24 rfl (by first | rfl | assumption) ?_
  refine own_putF (pc' := 28) rfl d_act_25 (tw_60 hw) Via.refl (Or.inr ⟨(tw_61 hw), rfl, rfl⟩) (tw_39 hw) (ty := (.object "java/lang/String")) (by decide) rfl rfl ((F2.ext EE).other W6 (Or.inr (Ne.symm s12))) ((E.ext EE).wr W6) (by simp) ?_
  intro h7 W7
  refine own_return rfl d_act_28 rfl rfl ?_
  exact ⟨((((Keep.refl _ [t]).ext EE).wr W6 (Or.inl (List.mem_singleton.mpr rfl))).wr W7 (Or.inl (List.mem_singleton.mpr rfl))), ((E.ext EE).wr W6).wr W7, ((F1.ext EE).same W6).other W7 (Or.inr s12), ((F2.ext EE).other W6 (Or.inr (Ne.symm s12))).same W7⟩
theorem d_vrb_0 : decode prog_29_method_4_code 0 = .ok (.aload_n 0, 1) := by decide +kernel
theorem d_vrb_1 : decode prog_29_method_4_code 1 = .ok (.getfield 29, 3) := by decide +kernel
theorem d_vrb_4 : decode prog_29_method_4_code 4 = .ok (.areturn, 1) := by decide +kernel
abbrev M_vrb : own_Mi := ((⟨"com/example/protoloom/protoloom/report/Action$Kind", "verb", "()Ljava/lang/String;"⟩ : MethodName), prog_29_method_4_code, 1, (Option.some (FieldType.object "java/lang/String")), ({ frames := 0, cells := 0, slots := 0, locals := 0 } : Room))
theorem pn_vrb : plainFor (own_Mi.y M_vrb) = true := plainFor_of_name (by first | (simp [plainName, overriddenIn]; done) | decide +kernel)
set_option maxRecDepth 65536 in
set_option maxHeartbeats 40000000 in
theorem c_vrb (K : own_Cx) (a0 : Array Value) (hw : ∀ d ∈ tables_1, d.before a0 K.Z = true) (kd vx : Addr) (h : Heap) (F : Fld K.Z h kd own_kC "verb" own_sD (.ref vx)) :
    own_Met K M_vrb #[.ref kd] [] h (own_ret fun w h' _ => w = .ref vx ∧ h' = h) := by
  refine own_met_1_0 (M := M_vrb) pn_vrb rfl (by first | rfl | exact own_cat (by assumption)) ?_
  refine own_aload_n (pc' := 1) rfl d_vrb_0 rfl (by first | rfl | assumption) ?_
  refine own_getF (pc' := 4) rfl d_vrb_1 (tw_90 hw) Via.refl F ?_
  refine own_areturn rfl rfl (by first | rfl | assumption) d_vrb_4 rfl rfl ?_
  exact ⟨rfl, rfl⟩
theorem own_Act.ext {Z : State} {h h' : Heap} {t kd x : Addr} (F : own_Act Z h t kd x) (E : Ext h h') : own_Act Z h' t kd x := ⟨F.1.ext E, F.2.1.ext E, F.2.2.ext E⟩
theorem d_tst_0 : decode prog_28_method_2_code 0 = .ok (.new 25, 3) := by decide +kernel
theorem d_tst_3 : decode prog_28_method_2_code 3 = .ok (.dup, 1) := by decide +kernel
theorem d_tst_4 : decode prog_28_method_2_code 4 = .ok (.invokespecial 27, 3) := by decide +kernel
theorem d_tst_7 : decode prog_28_method_2_code 7 = .ok (.aload_n 0, 1) := by decide +kernel
theorem d_tst_8 : decode prog_28_method_2_code 8 = .ok (.getfield 17, 3) := by decide +kernel
theorem d_tst_11 : decode prog_28_method_2_code 11 = .ok (.invokevirtual 28, 3) := by decide +kernel
theorem d_tst_14 : decode prog_28_method_2_code 14 = .ok (.invokevirtual 34, 3) := by decide +kernel
theorem d_tst_17 : decode prog_28_method_2_code 17 = .ok (.ldc 38, 2) := by decide +kernel
theorem d_tst_19 : decode prog_28_method_2_code 19 = .ok (.invokevirtual 34, 3) := by decide +kernel
theorem d_tst_22 : decode prog_28_method_2_code 22 = .ok (.aload_n 0, 1) := by decide +kernel
theorem d_tst_23 : decode prog_28_method_2_code 23 = .ok (.getfield 22, 3) := by decide +kernel
theorem d_tst_26 : decode prog_28_method_2_code 26 = .ok (.invokevirtual 34, 3) := by decide +kernel
theorem d_tst_29 : decode prog_28_method_2_code 29 = .ok (.invokevirtual 40, 3) := by decide +kernel
theorem d_tst_32 : decode prog_28_method_2_code 32 = .ok (.areturn, 1) := by decide +kernel
abbrev M_tst : own_Mi := ((⟨"com/example/protoloom/protoloom/report/Action", "toString", "()Ljava/lang/String;"⟩ : MethodName), prog_28_method_2_code, 1, (Option.some (FieldType.object "java/lang/String")), ({ frames := 6, cells := 6, slots := 60, locals := 114 } : Room))
theorem pn_tst : plainFor (own_Mi.y M_tst) = true := plainFor_of_name (by first | (simp [plainName, overriddenIn]; done) | decide +kernel)
set_option maxRecDepth 65536 in
set_option maxHeartbeats 40000000 in
theorem c_tst (K : own_Cx) (a0 : Array Value) (hw : ∀ d ∈ tables_1, d.before a0 K.Z = true) (hnw : K.nw = false) (hEL : EW K.Z a0 K.E) (hm38 : (own_aC, 38) ∈ K.E) (g : Int32) (SC : Sta K.Z K.Z.heap own_sC "COMPACT_STRINGS" "Z" (.int g)) (hg : ¬ g = 0) (t kd x vx : Addr) (vs cs : List Int32) (h : Heap) (A : own_Act K.Z h t kd x) (X : own_Str K.Z h x cs) (hlx : own_lat cs = true) (Ek : Exa K.Z h kd own_kC) (Fk : Fld K.Z h kd own_kC "verb" own_sD (.ref vx)) (V : own_Str K.Z h vx vs) (hlv : own_lat vs = true) (hlen : vs.length + 4 + cs.length < 16) :
    own_Met K M_tst #[.ref t] [] h (own_ret fun w h' _ => ∃ y : Addr, w = .ref y ∧ Ext h h' ∧ own_Str K.Z h' y (vs ++ [32, 111, 110, 32] ++ cs)) := by
  refine own_met_1_0 (M := M_tst) pn_tst rfl (by first | rfl | exact own_cat (by assumption)) ?_
  refine own_new (pc' := 3) rfl d_tst_0 (tw_67 hw) (tw_68 hw) (tw_69 hw) rfl rfl ?_
  intro b h1 eb E1 B1 D1
  have G1 := D1 (Or.inl (tw_82 hw)) (ty := .array .byte) (by decide)
  have G2 := D1 (Or.inl (tw_84 hw)) (ty := .byte) (by decide)
  have G3 := D1 (Or.inl (tw_113 hw)) (ty := .int) (by decide)
  have lb : @LT.lt Nat _ _ _ := B1.lt
  refine own_dup (pc' := 4) rfl d_tst_3 (by first | rfl | assumption) ?_
  refine own_special0n (M' := M_sb0) d_tst_4 (pc' := 7) rfl rfl rfl (tw_70 hw) (tw_71 hw) (tw_69 hw) (tw_72 hw) (by decide) rfl (own_lenOf pd_21 rfl) rfl rfl rfl rfl (c_sb0 K a0 hw g SC hg b h1 B1 G1 G2 G3) (by simp) ?_
  rintro h2 xs2 ⟨k2, d, hd1, hd2, T2⟩
  have E2 : Ext h h2 := own_ext_keep E1 k2 (by intro z hz; cases List.mem_singleton.mp hz; omega)
  have db : d ≠ b := by show @Ne Nat d b; omega
  have hbd : ∀ z ∈ [b, d], h.size ≤ z := by
    intro z hz
    have := E1.1
    simp at hz
    rcases hz with rfl | rfl <;> omega
  refine own_aload_n (pc' := 8) rfl d_tst_7 rfl (by first | rfl | assumption) ?_
  refine own_getF (pc' := 11) rfl d_tst_8 (tw_58 hw) Via.refl ((A.ext E2).2.1) ?_
  refine own_virtual0v (M' := M_vrb) d_tst_11 (pc' := 14) rfl (tw_85 hw) (tw_86 hw) (tw_88 hw) (tw_87 hw) (tw_1 hw) (tw_89 hw) (by decide) rfl (own_lenOf pd_23 rfl) rfl rfl rfl rfl (Ek.ext E2) (c_vrb K a0 hw kd vx h2 (Fk.ext E2)) (by simp) ?_
  rintro w h3 xs3 ⟨rfl, rfl⟩
  refine own_virtual1v (M' := M_sas) d_tst_14 (pc' := 17) rfl (tw_92 hw) (tw_93 hw) (tw_95 hw) (tw_94 hw) (tw_69 hw) (tw_96 hw) (by decide) rfl (own_lenOf pd_24 rfl) rfl rfl rfl rfl T2.1 (c_sas K a0 hw g SC hg b d vx [] vs 16 h3 T2 db (V.ext E2) hlv (by simp; omega)) (by intro z hz; simp at hz ⊢; rcases hz with rfl | rfl <;> simp [hd1]) ?_
  rintro w h4 xs4 ⟨rfl, k4, T4⟩
  have E4 := own_ext_keep E2 k4 hbd
  refine own_ldcS (n := 16) hnw (pc' := 19) rfl d_tst_17 (hw _ (List.mem_of_getElem? (i := 139) rfl)) (own_atoms hw) hEL hm38 (by decide +kernel) (by decide +kernel) (by decide +kernel) (by decide +kernel) (by decide +kernel) (by decide +kernel) (by decide +kernel) rfl rfl rfl ?_
  intro y5 h5 E5 S5
  have S5' := S5.as (ds := [32, 111, 110, 32]) (by decide +kernel)
  have T5 := T4.ext E5
  refine own_virtual1v (M' := M_sas) d_tst_19 (pc' := 22) rfl (tw_92 hw) (tw_93 hw) (tw_95 hw) (tw_94 hw) (tw_69 hw) (tw_96 hw) (by decide) rfl (own_lenOf pd_24 rfl) rfl rfl rfl rfl T5.1 (c_sas K a0 hw g SC hg b d y5 _ [32, 111, 110, 32] 16 h5 T5 db S5' (by decide) (by simp; omega)) (by intro z hz; simp at hz ⊢; rcases hz with rfl | rfl <;> simp [hd1]) ?_
  rintro w h6 xs6 ⟨rfl, k6, T6⟩
  have E6 := own_ext_keep (own_ext_trans E4 E5) k6 hbd
  refine own_aload_n (pc' := 23) rfl d_tst_22 rfl (by first | rfl | assumption) ?_
  refine own_getF (pc' := 26) rfl d_tst_23 (tw_60 hw) Via.refl ((A.ext E6).2.2) ?_
  refine own_virtual1v (M' := M_sas) d_tst_26 (pc' := 29) rfl (tw_92 hw) (tw_93 hw) (tw_95 hw) (tw_94 hw) (tw_69 hw) (tw_96 hw) (by decide) rfl (own_lenOf pd_24 rfl) rfl rfl rfl rfl T6.1 (c_sas K a0 hw g SC hg b d x _ cs 16 h6 T6 db (X.ext E6) hlx (by simp; omega)) (by intro z hz; simp at hz ⊢; rcases hz with rfl | rfl <;> simp [hd1]) ?_
  rintro w h7 xs7 ⟨rfl, k7, T7⟩
  have E7 := own_ext_keep E6 k7 hbd
  refine own_virtual0v (M' := M_tos) d_tst_29 (pc' := 32) rfl (tw_140 hw) (tw_141 hw) (tw_143 hw) (tw_142 hw) (tw_69 hw) (tw_144 hw) (by decide) rfl (own_lenOf pd_23 rfl) rfl rfl rfl rfl T7.1 (c_tos K a0 hw g SC hg b d _ 16 h7 T7 (by simp; omega) (by decide)) (by simp) ?_
  rintro w h8 xs8 ⟨y, rfl, E8, hy, S8⟩
  refine own_areturn rfl rfl (by first | rfl | assumption) d_tst_32 rfl rfl ?_
  exact ⟨y, rfl, own_ext_trans E7 E8, by simpa using S8⟩
abbrev M_law : own_Mi := (x, code, maxLocals, ret, room_1)
theorem pn_law : plainFor (own_Mi.y M_law) = true := plainFor_of_name (by first | (simp [plainName, overriddenIn]; done) | decide +kernel)
theorem own_i255 (c : Int32) : (c &&& 255).toUInt32.toUInt16.toUInt32.toInt32 = c &&& 255 := own_i2c_id (own_r255 c).1 (own_r255 c).2.2
theorem own_len_v {Z : State} {args : Array Value} {t : Term} {x : Addr} {cl : Cell} {n : Int32} (h : (Jvm.Cond.eq (Term.length t) (Term.int n)).value args Z none Z [] = some true) (ht : t.eval args Z none [] Z = some (.ref x)) (hc : Z.heap[x]? = some cl) : cl.slots.size < 2 ^ 31 ∧ cl.slots.size.toInt32 = n := by
  obtain ⟨u, v, q1, q2, q3, -⟩ := cmp_v (Or.inl h)
  obtain ⟨x', cell, e1, e2, e3⟩ := Term.length_spec q1
  cases ht.symm.trans e1
  have e4 : Z.heap[x]? = some cell := by
    simp only [State.arrayAt?, Option.bind_eq_bind, Option.bind_eq_some_iff] at e2
    obtain ⟨c, a1, k, a2, a3⟩ := e2
    split at a3
    · cases a3
    · split at a3
      · rw [a1, Option.some.inj a3]
      · cases a3
  cases hc.symm.trans e4
  subst e3
  have hl : cl.slots.size < 2 ^ 31 := by
    by_cases z : cl.slots.size < 2 ^ 31
    · exact z
    · simp [Term.eval, ht, e2, z] at q1
  exact ⟨hl, gotT (Cond.eq_ints q1 (Term.int_eval n)) h⟩
theorem own_elem_v {Z : State} {args : Array Value} {t : Term} {x : Addr} {cl : Cell} {j n : Int32} (h : (Jvm.Cond.eq (Term.elem t (Term.int j)) (Term.int n)).value args Z none Z [] = some true) (ht : t.eval args Z none [] Z = some (.ref x)) (hc : Z.heap[x]? = some cl) : cl.slots[j.toNatClampNeg]? = some (.int n) := by
  obtain ⟨u, v, q1, q2, q3, -⟩ := cmp_v (Or.inl h)
  have e := (elem_in q1 ht (Term.int_eval j) hc).2
  cases (Term.int_eval n).symm.trans q2
  cases u <;> simp only [Kin] at q3
  · rw [e, gotT (Cond.eq_ints q1 (Term.int_eval n)) h]
  all_goals first | (obtain ⟨z, q3⟩ := q3; cases q3) | (cases q3.2)
theorem own_fint_v {Z : State} {args : Array Value} {t : Term} {x : Addr} {C f d : String} {n : Int32} (h : (Jvm.Cond.eq (Term.field t C f d) (Term.int n)).value args Z none Z [] = some true) (ht : t.eval args Z none [] Z = some (.ref x)) : Z.fieldOf? x C f d = some (.int n) := by
  obtain ⟨u, v, q1, q2, q3, -⟩ := cmp_v (Or.inl h)
  have q1' := q1
  rw [fld_at ht] at q1'
  cases (Term.int_eval n).symm.trans q2
  cases u <;> simp only [Kin] at q3
  · rw [q1', gotT (Cond.eq_ints q1 (Term.int_eval n)) h]
  all_goals first | (obtain ⟨z, q3⟩ := q3; cases q3) | (cases q3.2)
set_option maxRecDepth 65536 in
set_option maxHeartbeats 40000000 in
theorem c_law (K : own_Cx) (a0 : Array Value) (hw : ∀ d ∈ tables_1, d.before a0 K.Z = true) (hnw : K.nw = false) (hEL : EW K.Z a0 K.E) (hme : ("java/lang/String", 7) ∈ K.E) (hm7 : (own_aC, 7) ∈ K.E) (hm15 : (own_aC, 15) ∈ K.E) (hm38 : (own_aC, 38) ∈ K.E) (rf : Value) (hrf : rf.isRef = true) (SF : Sta K.Z K.Z.heap "jdk/internal/util/Preconditions" "SIOOBE_FORMATTER" "Ljava/util/function/BiFunction;" rf) (g : Int32) (SC : Sta K.Z K.Z.heap "java/lang/String" "COMPACT_STRINGS" "Z" (.int g)) (hg : ¬ g = 0) (ks kr vs vr : Addr) (SS : Sta K.Z K.Z.heap own_kC "SEND" own_kD (.ref ks)) (SR : Sta K.Z K.Z.heap own_kC "RECEIVE" own_kD (.ref kr))
    (Es : Exa K.Z K.Z.heap ks own_kC) (Er : Exa K.Z K.Z.heap kr own_kC) (Fs : Fld K.Z K.Z.heap ks own_kC "verb" own_sD (.ref vs)) (Fr' : Fld K.Z K.Z.heap kr own_kC "verb" own_sD (.ref vr)) (Vs : own_Str K.Z K.Z.heap vs [115, 101, 110, 100]) (Vr : own_Str K.Z K.Z.heap vr [114, 101, 99, 101, 105, 118, 101]) (p0 p1 p2 p3 p4 : Int32) (h : Heap) :
    own_Met K M_law #[.int p0, .int p1, .int p2, .int p3, .int p4] [] h (own_ret fun w _ _ => w = .int 1) := by
  have hx := c_mask p1 2147483647 31 (by decide) (by decide)
  have hk := (c_iremV (p1 &&& 2147483647) 4).1 (by rw [hx]; omega) (by decide)
  have v4 : (4 : Int32).toInt = 4 := rfl
  have v0 : (0 : Int32).toInt = 0 := rfl
  have v1 : (1 : Int32).toInt = 1 := rfl
  have v2 : (2 : Int32).toInt = 2 := rfl
  have v3 : (3 : Int32).toInt = 3 := rfl
  have v5 : (5 : Int32).toInt = 5 := rfl
  have v6 : (6 : Int32).toInt = 6 := rfl
  have v7 : (7 : Int32).toInt = 7 := rfl
  refine own_met_5_10 (M := M_law) pn_law rfl (by first | rfl | exact own_cat (by assumption)) (by first | rfl | exact own_cat (by assumption)) (by first | rfl | exact own_cat (by assumption)) (by first | rfl | exact own_cat (by assumption)) (by first | rfl | exact own_cat (by assumption)) ?_
  suffices key : ∀ (f : Int32) (kd vx : Addr) (ws : List Int32), (f = 1 ∧ ws = [115, 101, 110, 100]) ∨ (f = 0 ∧ ws = [114, 101, 99, 101, 105, 118, 101]) → Exa K.Z K.Z.heap kd own_kC → Fld K.Z K.Z.heap kd own_kC "verb" own_sD (.ref vx) → own_Str K.Z K.Z.heap vx ws → own_WP K M_law (own_ret fun w _ _ => w = .int 1) 27 [.val (.int p0), .val (.int p1), .val (.int p2), .val (.int p3), .val (.int p4), .val (.int f), .unset, .unset, .unset, .unset, .unset, .unset, .unset, .unset, .unset] [.ref kd] [] h 0 0 by
    refine own_iload_n (pc' := 1) rfl at_0 rfl ?_
    refine own_iconst (v := (1 : Int32)) (pc' := 2) rfl at_1 rfl ?_
    refine own_iand (pc' := 3) rfl at_2 ?_
    refine own_ifeq (pcT := 10) (pcF := 6) at_3 (by decide) (by decide) rfl (fun q => ?_) (fun q => ?_)
    · skip
      refine own_iconst (v := (0 : Int32)) (pc' := 11) rfl at_10 rfl ?_
      refine own_istore_5 (pc' := 13) rfl at_11 (by first | exact One.u | exact One.val rfl | assumption | exact One.val (by assumption)) ?_
      refine own_iload (pc' := 15) rfl at_13 rfl ?_
      refine own_ifeq (pcT := 24) (pcF := 18) at_15 (by decide) (by decide) rfl (fun q2 => ?_) (fun q2 => ?_)
      · skip
        refine own_getS (pc' := 27) rfl at_24 (tw_0 hw) Via.refl SR ?_
        exact key 0 kr vr _ (Or.inr ⟨rfl, rfl⟩) Er Fr' Vr
      · exact absurd rfl q2
    · skip
      refine own_iconst (v := (1 : Int32)) (pc' := 7) rfl at_6 rfl ?_
      refine own_goto (pc' := 11) at_7 (by decide) (by decide) ?_
      refine own_istore_5 (pc' := 13) rfl at_11 (by first | exact One.u | exact One.val rfl | assumption | exact One.val (by assumption)) ?_
      refine own_iload (pc' := 15) rfl at_13 rfl ?_
      refine own_ifeq (pcT := 24) (pcF := 18) at_15 (by decide) (by decide) rfl (fun q2 => ?_) (fun q2 => ?_)
      · exact absurd q2 (by decide)
      · skip
        refine own_getS (pc' := 21) rfl at_18 (tw_208 hw) Via.refl SS ?_
        refine own_goto (pc' := 27) at_21 (by decide) (by decide) ?_
        exact key 1 ks vs _ (Or.inl ⟨rfl, rfl⟩) Es Fs Vs
  intro f kd vx ws hf Ek Fk Vk
  refine own_old fun E0 => ?_
  have wl : own_lat ws = true ∧ ws.length ≤ 7 ∧ 4 ≤ ws.length := by rcases hf with ⟨-, rfl⟩ | ⟨-, rfl⟩ <;> decide
  refine own_astore_6 (pc' := 29) rfl at_27 (by first | exact One.u | exact One.val rfl | assumption | exact One.val (by assumption)) (by first | rfl | assumption) ?_
  refine own_iload_n (pc' := 30) rfl at_29 rfl ?_
  refine own_ldcI (pc' := 32) rfl at_30 (tw_3 hw) ?_
  refine own_iand (pc' := 33) rfl at_32 ?_
  refine own_iconst (v := (4 : Int32)) (pc' := 34) rfl at_33 rfl ?_
  refine own_irem (pc' := 35) rfl at_34 (by decide) ?_
  generalize (p1 &&& 2147483647) % 4 = n at hk
  have hn : 0 ≤ n.toInt ∧ n.toInt < 4 := by omega
  obtain ⟨N, hN, hN4⟩ : ∃ N : Nat, n.toInt = N ∧ N < 4 := ⟨n.toInt.toNat, by omega, by omega⟩
  refine own_istore_7 (pc' := 37) rfl at_35 (by first | exact One.u | exact One.val rfl | assumption | exact One.val (by assumption)) ?_
  refine own_iload_n (pc' := 38) rfl at_37 rfl ?_
  refine own_sipush (v := (255 : Int32)) (pc' := 41) rfl at_38 rfl ?_
  refine own_iand (pc' := 42) rfl at_41 ?_
  refine own_i2c (pc' := 43) rfl at_42 ?_
  rw [own_i255]
  refine own_istore_8 (pc' := 45) rfl at_43 (by first | exact One.u | exact One.val rfl | assumption | exact One.val (by assumption)) ?_
  refine own_iload_n (pc' := 46) rfl at_45 rfl ?_
  refine own_sipush (v := (255 : Int32)) (pc' := 49) rfl at_46 rfl ?_
  refine own_iand (pc' := 50) rfl at_49 ?_
  refine own_i2c (pc' := 51) rfl at_50 ?_
  rw [own_i255]
  refine own_istore_9 (pc' := 53) rfl at_51 (by first | exact One.u | exact One.val rfl | assumption | exact One.val (by assumption)) ?_
  refine own_iload (pc' := 55) rfl at_53 rfl ?_
  refine own_sipush (v := (255 : Int32)) (pc' := 58) rfl at_55 rfl ?_
  refine own_iand (pc' := 59) rfl at_58 ?_
  refine own_i2c (pc' := 60) rfl at_59 ?_
  rw [own_i255]
  refine own_istore_10 (pc' := 62) rfl at_60 (by first | exact One.u | exact One.val rfl | assumption | exact One.val (by assumption)) ?_
  refine own_iload (pc' := 64) rfl at_62 rfl ?_
  refine own_iload (pc' := 66) rfl at_64 rfl ?_
  refine own_iload (pc' := 68) rfl at_66 rfl ?_
  refine own_iload (pc' := 70) rfl at_68 rfl ?_
  refine own_static4v (M' := M_chn) at_70 (pc' := 73) rfl (tw_4 hw) (tw_5 hw) (tw_6 hw) (tw_7 hw) (by decide) rfl (own_lenOf pd_25 rfl) rfl rfl rfl rfl (c_chn K a0 hw hnw hEL hme g SC hg n _ _ _ N h hN hN4 (by intro c hc; simp at hc; rcases hc with rfl | rfl | rfl <;> exact ⟨(own_r255 _).1, (own_r255 _).2.1⟩)) (by simp) ?_
  rintro w h1 xs1 ⟨x, rfl, E1, S1⟩
  have hcl : ([p2 &&& 255, p3 &&& 255, p4 &&& 255].take N).length = N := by simp; omega
  have hcg : ∀ i c, i < N → [p2 &&& 255, p3 &&& 255, p4 &&& 255][i]? = some c → ([p2 &&& 255, p3 &&& 255, p4 &&& 255].take N)[i]? = some c := fun i c hi hc => by rw [List.getElem?_take, if_pos hi]; exact hc
  have hcla : own_lat ([p2 &&& 255, p3 &&& 255, p4 &&& 255].take N) = true := by
    refine List.all_eq_true.mpr fun c hc => ?_
    have := List.mem_of_mem_take hc
    simp at this
    rcases this with rfl | rfl | rfl <;> simp [own_r255]
  generalize hcs : [p2 &&& 255, p3 &&& 255, p4 &&& 255].take N = cs at S1 hcl hcg hcla
  refine own_astore_11 (pc' := 75) rfl at_73 (by first | exact One.u | exact One.val rfl | assumption | exact One.val (by assumption)) (by first | rfl | assumption) ?_
  refine own_new (pc' := 78) rfl at_75 (tw_38 hw) (tw_39 hw) (tw_40 hw) rfl rfl ?_
  intro t h2 et E2 A2 D2
  have lt2 : @LT.lt Nat _ _ _ := A2.lt
  refine own_dup (pc' := 79) rfl at_78 (by first | rfl | assumption) ?_
  refine own_aload (pc' := 81) rfl at_79 rfl (by first | rfl | assumption) ?_
  refine own_aload (pc' := 83) rfl at_81 rfl (by first | rfl | assumption) ?_
  refine own_special2n (M' := M_act) at_83 (pc' := 86) rfl rfl rfl (tw_41 hw) (tw_42 hw) (tw_40 hw) (tw_43 hw) (by decide) rfl (own_lenOf pd_26 rfl) rfl rfl rfl rfl (c_act K a0 hw hnw hEL hm7 hm15 t kd x h2 A2 (D2 (Or.inr (tw_59 hw)) (ty := .object own_kC) (by decide)) (D2 (Or.inr (tw_61 hw)) (ty := .object "java/lang/String") (by decide))) (by simp) ?_
  rintro h3 xs3 ⟨k3, A3⟩
  have E3 : Ext h1 h3 := own_ext_keep E2 k3 (by intro z hz; cases List.mem_singleton.mp hz; omega)
  have E03 := own_ext_trans (own_ext_trans E0 E1) E3
  refine own_virtual0v (M' := M_tst) at_86 (pc' := 89) rfl (tw_62 hw) (tw_63 hw) (tw_65 hw) (tw_64 hw) (tw_40 hw) (tw_66 hw) (by decide) rfl (own_lenOf pd_23 rfl) rfl rfl rfl rfl A3.1 (c_tst K a0 hw hnw hEL hm38 g SC hg t kd x vx ws cs h3 A3 (S1.ext E3) hcla (Ek.ext E03) (Fk.ext E03) (Vk.ext E03) wl.1 (by omega)) (by simp) ?_
  rintro w h4 xs4 ⟨y, rfl, E4, S4⟩
  generalize hfs : ws ++ [32, 111, 110, 32] ++ cs = fs at S4
  have hfl : fs.length = ws.length + 4 + N := by rw [← hfs, List.length_append, List.length_append, hcl]; rfl
  have hfla : own_lat fs = true := by
    rw [← hfs]
    exact own_lat_app (own_lat_app wl.1 (by decide)) hcla
  have S4' := S4
  suffices k104 : ∀ (v : Int32) (sf : List Addr), v.toInt = ws.length → own_WP K M_law (own_ret fun w _ _ => w = .int 1) 104 [.val (.int p0), .val (.int p1), .val (.int p2), .val (.int p3), .val (.int p4), .val (.int f), .val (.ref kd), .val (.int n), .val (.int (p2 &&& 255)), .val (.int (p3 &&& 255)), .val (.int (p4 &&& 255)), .val (.ref x), .val (.ref y), .val (.int v), .unset] [] sf h4 17 129 by
    refine own_astore_12 (pc' := 91) rfl at_89 (by first | exact One.u | exact One.val rfl | assumption | exact One.val (by assumption)) (by first | rfl | assumption) ?_
    refine own_iload (pc' := 93) rfl at_91 rfl ?_
    rcases hf with ⟨rfl, rfl⟩ | ⟨rfl, rfl⟩
    · skip
      refine own_ifeq (pcT := 100) (pcF := 96) at_93 (by decide) (by decide) rfl (fun q => ?_) (fun q => ?_)
      · exact absurd q (by decide)
      · skip
        refine own_iconst (v := (4 : Int32)) (pc' := 97) rfl at_96 rfl ?_
        refine own_goto (pc' := 102) at_97 (by decide) (by decide) ?_
        refine own_istore_13 (pc' := 104) rfl at_102 (by first | exact One.u | exact One.val rfl | assumption | exact One.val (by assumption)) ?_
        exact own_weak (k104 4 _ rfl) (fun x hx => hx) (by exact Nat.le_of_ble_eq_true rfl) (by exact Nat.le_of_ble_eq_true rfl)
    · skip
      refine own_ifeq (pcT := 100) (pcF := 96) at_93 (by decide) (by decide) rfl (fun q => ?_) (fun q => ?_)
      · skip
        refine own_bipush (v := (7 : Int32)) (pc' := 102) rfl at_100 rfl ?_
        refine own_istore_13 (pc' := 104) rfl at_102 (by first | exact One.u | exact One.val rfl | assumption | exact One.val (by assumption)) ?_
        exact own_weak (k104 7 _ rfl) (fun x hx => hx) (by exact Nat.le_of_ble_eq_true rfl) (by exact Nat.le_of_ble_eq_true rfl)
      · exact absurd rfl q
  intro v sf hv
  have hv4 : (v + 4).toInt = ((ws.length + 4 : Nat) : Int) := by rw [own_add hv v4] <;> omega
  refine own_aload (pc' := 106) rfl at_104 rfl (by first | rfl | assumption) ?_
  refine own_ifnull_n (pc' := 109) rfl at_106 ?_
  refine own_aload (pc' := 111) rfl at_109 rfl (by first | rfl | assumption) ?_
  refine own_virtual0v (M' := M_sl) at_111 (pc' := 114) rfl (tw_185 hw) (tw_103 hw) (tw_105 hw) (tw_104 hw) (tw_11 hw) (tw_106 hw) (by decide) rfl (own_lenOf pd_14 rfl) rfl rfl rfl rfl S4.1 (c_sl K a0 hw g SC hg y fs h4 S4) (by simp) ?_
  rintro w h5 xs5 ⟨rfl, rfl⟩
  refine own_iload (pc' := 116) rfl at_114 rfl ?_
  refine own_iconst (v := (4 : Int32)) (pc' := 117) rfl at_116 rfl ?_
  refine own_iadd (pc' := 118) rfl at_117 ?_
  refine own_iload (pc' := 120) rfl at_118 rfl ?_
  refine own_iadd (pc' := 121) rfl at_120 ?_
  refine own_icmpeq (pcT := 126) (pcF := 124) at_121 (by decide) (by decide) rfl (fun q => ?_) (fun q => ?_)
  rotate_left 1
  · exfalso
    apply q
    apply Int32.toInt_inj.mp
    rw [own_lit _ (by omega), own_add hv4 hN (by omega) (by omega), hfl]
    omega
  have key : ∀ (i : Nat) (c : Int32) (j : Int32) (h : Heap), h = h5 → j.toInt = i → fs[i]? = some c → own_Met K M_sca #[.ref y, .int j] [] h (own_ret fun w h' _ => w = .int c ∧ h' = h) := fun i c j h e hj hc => by
    subst e
    exact c_sca K a0 hw g SC hg rf hrf SF y fs j i c h S4 (by omega) hj hc hfla
  suffices k277 : ∀ (o : Slot) (sf : List Addr), own_WP K M_law (own_ret fun w _ _ => w = .int 1) 277 [.val (.int p0), .val (.int p1), .val (.int p2), .val (.int p3), .val (.int p4), .val (.int f), .val (.ref kd), .val (.int n), .val (.int (p2 &&& 255)), .val (.int (p3 &&& 255)), .val (.int (p4 &&& 255)), .val (.ref x), .val (.ref y), .val (.int v), o] [] sf h5 17 129 by
    refine own_iload (pc' := 128) rfl at_126 rfl ?_
    rcases hf with ⟨rfl, rfl⟩ | ⟨rfl, rfl⟩
    · skip
      refine own_ifeq (pcT := 185) (pcF := 131) at_128 (by decide) (by decide) rfl (fun q2 => ?_) (fun q2 => ?_)
      · exact absurd q2 (by decide)
      refine own_aload (pc' := 133) rfl at_131 rfl (by first | rfl | assumption) ?_
      refine own_iconst (v := (0 : Int32)) (pc' := 134) rfl at_133 rfl ?_
      refine own_virtual1v (M' := M_sca) at_134 (pc' := 137) rfl (tw_186 hw) (tw_187 hw) (tw_189 hw) (tw_188 hw) (tw_11 hw) (tw_190 hw) (by decide) rfl (own_lenOf pd_27 rfl) rfl rfl rfl rfl S4.1 (key 0 115 _ _ rfl rfl (by rw [← hfs]; rfl)) (by simp) ?_
      rintro w hc0 xc0 ⟨rfl, rfl⟩
      refine own_bipush (v := (115 : Int32)) (pc' := 139) rfl at_137 rfl ?_
      refine own_icmpne (pcT := 179) (pcF := 142) at_139 (by decide) (by decide) rfl (fun z0 => ?_) (fun z0 => ?_)
      · exact absurd rfl z0
      refine own_aload (pc' := 144) rfl at_142 rfl (by first | rfl | assumption) ?_
      refine own_iconst (v := (1 : Int32)) (pc' := 145) rfl at_144 rfl ?_
      refine own_virtual1v (M' := M_sca) at_145 (pc' := 148) rfl (tw_186 hw) (tw_187 hw) (tw_189 hw) (tw_188 hw) (tw_11 hw) (tw_190 hw) (by decide) rfl (own_lenOf pd_27 rfl) rfl rfl rfl rfl S4.1 (key 1 101 _ _ rfl rfl (by rw [← hfs]; rfl)) (by simp) ?_
      rintro w hc1 xc1 ⟨rfl, rfl⟩
      refine own_bipush (v := (101 : Int32)) (pc' := 150) rfl at_148 rfl ?_
      refine own_icmpne (pcT := 179) (pcF := 153) at_150 (by decide) (by decide) rfl (fun z1 => ?_) (fun z1 => ?_)
      · exact absurd rfl z1
      refine own_aload (pc' := 155) rfl at_153 rfl (by first | rfl | assumption) ?_
      refine own_iconst (v := (2 : Int32)) (pc' := 156) rfl at_155 rfl ?_
      refine own_virtual1v (M' := M_sca) at_156 (pc' := 159) rfl (tw_186 hw) (tw_187 hw) (tw_189 hw) (tw_188 hw) (tw_11 hw) (tw_190 hw) (by decide) rfl (own_lenOf pd_27 rfl) rfl rfl rfl rfl S4.1 (key 2 110 _ _ rfl rfl (by rw [← hfs]; rfl)) (by simp) ?_
      rintro w hc2 xc2 ⟨rfl, rfl⟩
      refine own_bipush (v := (110 : Int32)) (pc' := 161) rfl at_159 rfl ?_
      refine own_icmpne (pcT := 179) (pcF := 164) at_161 (by decide) (by decide) rfl (fun z2 => ?_) (fun z2 => ?_)
      · exact absurd rfl z2
      refine own_aload (pc' := 166) rfl at_164 rfl (by first | rfl | assumption) ?_
      refine own_iconst (v := (3 : Int32)) (pc' := 167) rfl at_166 rfl ?_
      refine own_virtual1v (M' := M_sca) at_167 (pc' := 170) rfl (tw_186 hw) (tw_187 hw) (tw_189 hw) (tw_188 hw) (tw_11 hw) (tw_190 hw) (by decide) rfl (own_lenOf pd_27 rfl) rfl rfl rfl rfl S4.1 (key 3 100 _ _ rfl rfl (by rw [← hfs]; rfl)) (by simp) ?_
      rintro w hc3 xc3 ⟨rfl, rfl⟩
      refine own_bipush (v := (100 : Int32)) (pc' := 172) rfl at_170 rfl ?_
      refine own_icmpne (pcT := 179) (pcF := 175) at_172 (by decide) (by decide) rfl (fun z3 => ?_) (fun z3 => ?_)
      · exact absurd rfl z3
      refine own_iconst (v := (1 : Int32)) (pc' := 176) rfl at_175 rfl ?_
      refine own_goto (pc' := 180) at_176 (by decide) (by decide) ?_
      refine own_istore_14 (pc' := 182) rfl at_180 (by first | exact One.u | exact One.val rfl | assumption | exact One.val (by assumption)) ?_
      refine own_goto (pc' := 270) at_182 (by decide) (by decide) ?_
      refine own_iload (pc' := 272) rfl at_270 rfl ?_
      refine own_ifne (pcT := 277) (pcF := 275) at_272 (by decide) (by decide) rfl (fun z => ?_) (fun z => ?_)
      · exact own_weak (k277 _ _) (fun x hx => hx) (by exact Nat.le_of_ble_eq_true rfl) (by exact Nat.le_of_ble_eq_true rfl)
      · exact absurd z (by decide)
    · skip
      refine own_ifeq (pcT := 185) (pcF := 131) at_128 (by decide) (by decide) rfl (fun q2 => ?_) (fun q2 => ?_)
      rotate_left 1
      · exact absurd rfl q2
      refine own_aload (pc' := 187) rfl at_185 rfl (by first | rfl | assumption) ?_
      refine own_iconst (v := (0 : Int32)) (pc' := 188) rfl at_187 rfl ?_
      refine own_virtual1v (M' := M_sca) at_188 (pc' := 191) rfl (tw_186 hw) (tw_187 hw) (tw_189 hw) (tw_188 hw) (tw_11 hw) (tw_190 hw) (by decide) rfl (own_lenOf pd_27 rfl) rfl rfl rfl rfl S4.1 (key 0 114 _ _ rfl rfl (by rw [← hfs]; rfl)) (by simp) ?_
      rintro w hc0 xc0 ⟨rfl, rfl⟩
      refine own_bipush (v := (114 : Int32)) (pc' := 193) rfl at_191 rfl ?_
      refine own_icmpne (pcT := 267) (pcF := 196) at_193 (by decide) (by decide) rfl (fun z0 => ?_) (fun z0 => ?_)
      · exact absurd rfl z0
      refine own_aload (pc' := 198) rfl at_196 rfl (by first | rfl | assumption) ?_
      refine own_iconst (v := (1 : Int32)) (pc' := 199) rfl at_198 rfl ?_
      refine own_virtual1v (M' := M_sca) at_199 (pc' := 202) rfl (tw_186 hw) (tw_187 hw) (tw_189 hw) (tw_188 hw) (tw_11 hw) (tw_190 hw) (by decide) rfl (own_lenOf pd_27 rfl) rfl rfl rfl rfl S4.1 (key 1 101 _ _ rfl rfl (by rw [← hfs]; rfl)) (by simp) ?_
      rintro w hc1 xc1 ⟨rfl, rfl⟩
      refine own_bipush (v := (101 : Int32)) (pc' := 204) rfl at_202 rfl ?_
      refine own_icmpne (pcT := 267) (pcF := 207) at_204 (by decide) (by decide) rfl (fun z1 => ?_) (fun z1 => ?_)
      · exact absurd rfl z1
      refine own_aload (pc' := 209) rfl at_207 rfl (by first | rfl | assumption) ?_
      refine own_iconst (v := (2 : Int32)) (pc' := 210) rfl at_209 rfl ?_
      refine own_virtual1v (M' := M_sca) at_210 (pc' := 213) rfl (tw_186 hw) (tw_187 hw) (tw_189 hw) (tw_188 hw) (tw_11 hw) (tw_190 hw) (by decide) rfl (own_lenOf pd_27 rfl) rfl rfl rfl rfl S4.1 (key 2 99 _ _ rfl rfl (by rw [← hfs]; rfl)) (by simp) ?_
      rintro w hc2 xc2 ⟨rfl, rfl⟩
      refine own_bipush (v := (99 : Int32)) (pc' := 215) rfl at_213 rfl ?_
      refine own_icmpne (pcT := 267) (pcF := 218) at_215 (by decide) (by decide) rfl (fun z2 => ?_) (fun z2 => ?_)
      · exact absurd rfl z2
      refine own_aload (pc' := 220) rfl at_218 rfl (by first | rfl | assumption) ?_
      refine own_iconst (v := (3 : Int32)) (pc' := 221) rfl at_220 rfl ?_
      refine own_virtual1v (M' := M_sca) at_221 (pc' := 224) rfl (tw_186 hw) (tw_187 hw) (tw_189 hw) (tw_188 hw) (tw_11 hw) (tw_190 hw) (by decide) rfl (own_lenOf pd_27 rfl) rfl rfl rfl rfl S4.1 (key 3 101 _ _ rfl rfl (by rw [← hfs]; rfl)) (by simp) ?_
      rintro w hc3 xc3 ⟨rfl, rfl⟩
      refine own_bipush (v := (101 : Int32)) (pc' := 226) rfl at_224 rfl ?_
      refine own_icmpne (pcT := 267) (pcF := 229) at_226 (by decide) (by decide) rfl (fun z3 => ?_) (fun z3 => ?_)
      · exact absurd rfl z3
      refine own_aload (pc' := 231) rfl at_229 rfl (by first | rfl | assumption) ?_
      refine own_iconst (v := (4 : Int32)) (pc' := 232) rfl at_231 rfl ?_
      refine own_virtual1v (M' := M_sca) at_232 (pc' := 235) rfl (tw_186 hw) (tw_187 hw) (tw_189 hw) (tw_188 hw) (tw_11 hw) (tw_190 hw) (by decide) rfl (own_lenOf pd_27 rfl) rfl rfl rfl rfl S4.1 (key 4 105 _ _ rfl rfl (by rw [← hfs]; rfl)) (by simp) ?_
      rintro w hc4 xc4 ⟨rfl, rfl⟩
      refine own_bipush (v := (105 : Int32)) (pc' := 237) rfl at_235 rfl ?_
      refine own_icmpne (pcT := 267) (pcF := 240) at_237 (by decide) (by decide) rfl (fun z4 => ?_) (fun z4 => ?_)
      · exact absurd rfl z4
      refine own_aload (pc' := 242) rfl at_240 rfl (by first | rfl | assumption) ?_
      refine own_iconst (v := (5 : Int32)) (pc' := 243) rfl at_242 rfl ?_
      refine own_virtual1v (M' := M_sca) at_243 (pc' := 246) rfl (tw_186 hw) (tw_187 hw) (tw_189 hw) (tw_188 hw) (tw_11 hw) (tw_190 hw) (by decide) rfl (own_lenOf pd_27 rfl) rfl rfl rfl rfl S4.1 (key 5 118 _ _ rfl rfl (by rw [← hfs]; rfl)) (by simp) ?_
      rintro w hc5 xc5 ⟨rfl, rfl⟩
      refine own_bipush (v := (118 : Int32)) (pc' := 248) rfl at_246 rfl ?_
      refine own_icmpne (pcT := 267) (pcF := 251) at_248 (by decide) (by decide) rfl (fun z5 => ?_) (fun z5 => ?_)
      · exact absurd rfl z5
      refine own_aload (pc' := 253) rfl at_251 rfl (by first | rfl | assumption) ?_
      refine own_bipush (v := (6 : Int32)) (pc' := 255) rfl at_253 rfl ?_
      refine own_virtual1v (M' := M_sca) at_255 (pc' := 258) rfl (tw_186 hw) (tw_187 hw) (tw_189 hw) (tw_188 hw) (tw_11 hw) (tw_190 hw) (by decide) rfl (own_lenOf pd_27 rfl) rfl rfl rfl rfl S4.1 (key 6 101 _ _ rfl rfl (by rw [← hfs]; rfl)) (by simp) ?_
      rintro w hc6 xc6 ⟨rfl, rfl⟩
      refine own_bipush (v := (101 : Int32)) (pc' := 260) rfl at_258 rfl ?_
      refine own_icmpne (pcT := 267) (pcF := 263) at_260 (by decide) (by decide) rfl (fun z6 => ?_) (fun z6 => ?_)
      · exact absurd rfl z6
      refine own_iconst (v := (1 : Int32)) (pc' := 264) rfl at_263 rfl ?_
      refine own_goto (pc' := 268) at_264 (by decide) (by decide) ?_
      refine own_istore_14 (pc' := 270) rfl at_268 (by first | exact One.u | exact One.val rfl | assumption | exact One.val (by assumption)) ?_
      refine own_iload (pc' := 272) rfl at_270 rfl ?_
      refine own_ifne (pcT := 277) (pcF := 275) at_272 (by decide) (by decide) rfl (fun z => ?_) (fun z => ?_)
      · exact own_weak (k277 _ _) (fun x hx => hx) (by exact Nat.le_of_ble_eq_true rfl) (by exact Nat.le_of_ble_eq_true rfl)
      · exact absurd z (by decide)
  intro o sf2
  have gon : ∀ i c, ([32, 111, 110, 32] : List Int32)[i]? = some c → fs[ws.length + i]? = some c := fun i c hc => by
    have hi := (List.getElem?_eq_some_iff.mp hc).1
    rw [← hfs, List.append_assoc, List.getElem?_append_right (by omega), Nat.add_sub_cancel_left, List.getElem?_append_left hi]
    exact hc
  have gch : ∀ i c, i < N → [p2 &&& 255, p3 &&& 255, p4 &&& 255][i]? = some c → fs[ws.length + 4 + i]? = some c := fun i c hi hc => by
    have el : (ws ++ [32, 111, 110, 32]).length = ws.length + 4 := by simp
    rw [← hfs, List.getElem?_append_right (by rw [el]; omega), el, Nat.add_sub_cancel_left]
    exact hcg i c hi hc
  refine own_aload (pc' := 279) rfl at_277 rfl (by first | rfl | assumption) ?_
  refine own_iload (pc' := 281) rfl at_279 rfl ?_
  refine own_virtual1v (M' := M_sca) at_281 (pc' := 284) rfl (tw_186 hw) (tw_187 hw) (tw_189 hw) (tw_188 hw) (tw_11 hw) (tw_190 hw) (by decide) rfl (own_lenOf pd_27 rfl) rfl rfl rfl rfl S4.1 (key (ws.length + 0) 32 _ _ rfl (by simpa using hv) (gon 0 _ rfl)) (by simp) ?_
  rintro w hd0 xd0 ⟨rfl, rfl⟩
  refine own_bipush (v := (32 : Int32)) (pc' := 286) rfl at_284 rfl ?_
  refine own_icmpne (pcT := 331) (pcF := 289) at_286 (by decide) (by decide) rfl (fun y0 => ?_) (fun y0 => ?_)
  · exact absurd rfl y0
  refine own_aload (pc' := 291) rfl at_289 rfl (by first | rfl | assumption) ?_
  refine own_iload (pc' := 293) rfl at_291 rfl ?_
  refine own_iconst (v := (1 : Int32)) (pc' := 294) rfl at_293 rfl ?_
  refine own_iadd (pc' := 295) rfl at_294 ?_
  refine own_virtual1v (M' := M_sca) at_295 (pc' := 298) rfl (tw_186 hw) (tw_187 hw) (tw_189 hw) (tw_188 hw) (tw_11 hw) (tw_190 hw) (by decide) rfl (own_lenOf pd_27 rfl) rfl rfl rfl rfl S4.1 (key (ws.length + 1) 111 _ _ rfl (by rw [own_add hv v1] <;> omega) (gon 1 _ rfl)) (by simp) ?_
  rintro w hd1 xd1 ⟨rfl, rfl⟩
  refine own_bipush (v := (111 : Int32)) (pc' := 300) rfl at_298 rfl ?_
  refine own_icmpne (pcT := 331) (pcF := 303) at_300 (by decide) (by decide) rfl (fun y1 => ?_) (fun y1 => ?_)
  · exact absurd rfl y1
  refine own_aload (pc' := 305) rfl at_303 rfl (by first | rfl | assumption) ?_
  refine own_iload (pc' := 307) rfl at_305 rfl ?_
  refine own_iconst (v := (2 : Int32)) (pc' := 308) rfl at_307 rfl ?_
  refine own_iadd (pc' := 309) rfl at_308 ?_
  refine own_virtual1v (M' := M_sca) at_309 (pc' := 312) rfl (tw_186 hw) (tw_187 hw) (tw_189 hw) (tw_188 hw) (tw_11 hw) (tw_190 hw) (by decide) rfl (own_lenOf pd_27 rfl) rfl rfl rfl rfl S4.1 (key (ws.length + 2) 110 _ _ rfl (by rw [own_add hv v2] <;> omega) (gon 2 _ rfl)) (by simp) ?_
  rintro w hd2 xd2 ⟨rfl, rfl⟩
  refine own_bipush (v := (110 : Int32)) (pc' := 314) rfl at_312 rfl ?_
  refine own_icmpne (pcT := 331) (pcF := 317) at_314 (by decide) (by decide) rfl (fun y2 => ?_) (fun y2 => ?_)
  · exact absurd rfl y2
  refine own_aload (pc' := 319) rfl at_317 rfl (by first | rfl | assumption) ?_
  refine own_iload (pc' := 321) rfl at_319 rfl ?_
  refine own_iconst (v := (3 : Int32)) (pc' := 322) rfl at_321 rfl ?_
  refine own_iadd (pc' := 323) rfl at_322 ?_
  refine own_virtual1v (M' := M_sca) at_323 (pc' := 326) rfl (tw_186 hw) (tw_187 hw) (tw_189 hw) (tw_188 hw) (tw_11 hw) (tw_190 hw) (by decide) rfl (own_lenOf pd_27 rfl) rfl rfl rfl rfl S4.1 (key (ws.length + 3) 32 _ _ rfl (by rw [own_add hv v3] <;> omega) (gon 3 _ rfl)) (by simp) ?_
  rintro w hd3 xd3 ⟨rfl, rfl⟩
  refine own_bipush (v := (32 : Int32)) (pc' := 328) rfl at_326 rfl ?_
  refine own_icmpeq (pcT := 333) (pcF := 331) at_328 (by decide) (by decide) rfl (fun y3 => ?_) (fun y3 => ?_)
  rotate_left 1
  · exact absurd rfl y3
  suffices k354 : ∀ sf : List Addr, own_WP K M_law (own_ret fun w _ _ => w = .int 1) 354 [.val (.int p0), .val (.int p1), .val (.int p2), .val (.int p3), .val (.int p4), .val (.int f), .val (.ref kd), .val (.int n), .val (.int (p2 &&& 255)), .val (.int (p3 &&& 255)), .val (.int (p4 &&& 255)), .val (.ref x), .val (.ref y), .val (.int v), o] [] sf hd3 17 129 by
    refine own_iload (pc' := 335) rfl at_333 rfl ?_
    refine own_ifle (pcT := 354) (pcF := 338) at_335 (by decide) (by decide) rfl (fun q1 => ?_) (fun q1 => ?_)
    · exact own_weak (k354 _) (fun x hx => hx) (by exact Nat.le_of_ble_eq_true rfl) (by exact Nat.le_of_ble_eq_true rfl)
    · rw [Int32.lt_iff_toInt_lt] at q1
      refine own_aload (pc' := 340) rfl at_338 rfl (by first | rfl | assumption) ?_
      refine own_iload (pc' := 342) rfl at_340 rfl ?_
      refine own_iconst (v := (4 : Int32)) (pc' := 343) rfl at_342 rfl ?_
      refine own_iadd (pc' := 344) rfl at_343 ?_
      refine own_virtual1v (M' := M_sca) at_344 (pc' := 347) rfl (tw_186 hw) (tw_187 hw) (tw_189 hw) (tw_188 hw) (tw_11 hw) (tw_190 hw) (by decide) rfl (own_lenOf pd_27 rfl) rfl rfl rfl rfl S4.1 (key (ws.length + 4 + 0) (p2 &&& 255) _ _ rfl hv4 (gch 0 _ (by omega) rfl)) (by simp) ?_
      rintro w he xe ⟨rfl, rfl⟩
      refine own_iload (pc' := 349) rfl at_347 rfl ?_
      refine own_icmpeq (pcT := 354) (pcF := 352) at_349 (by decide) (by decide) rfl (fun y4 => ?_) (fun y4 => ?_)
      · exact own_weak (k354 _) (fun x hx => hx) (by exact Nat.le_of_ble_eq_true rfl) (by exact Nat.le_of_ble_eq_true rfl)
      · exact absurd rfl y4
  intro sf3
  suffices k376 : ∀ sf : List Addr, own_WP K M_law (own_ret fun w _ _ => w = .int 1) 376 [.val (.int p0), .val (.int p1), .val (.int p2), .val (.int p3), .val (.int p4), .val (.int f), .val (.ref kd), .val (.int n), .val (.int (p2 &&& 255)), .val (.int (p3 &&& 255)), .val (.int (p4 &&& 255)), .val (.ref x), .val (.ref y), .val (.int v), o] [] sf hd3 17 129 by
    refine own_iload (pc' := 356) rfl at_354 rfl ?_
    refine own_iconst (v := (1 : Int32)) (pc' := 357) rfl at_356 rfl ?_
    refine own_icmple (pcT := 376) (pcF := 360) at_357 (by decide) (by decide) rfl (fun q1 => ?_) (fun q1 => ?_)
    · exact k376 _
    · rw [Int32.lt_iff_toInt_lt] at q1
      refine own_aload (pc' := 362) rfl at_360 rfl (by first | rfl | assumption) ?_
      refine own_iload (pc' := 364) rfl at_362 rfl ?_
      refine own_iconst (v := (5 : Int32)) (pc' := 365) rfl at_364 rfl ?_
      refine own_iadd (pc' := 366) rfl at_365 ?_
      refine own_virtual1v (M' := M_sca) at_366 (pc' := 369) rfl (tw_186 hw) (tw_187 hw) (tw_189 hw) (tw_188 hw) (tw_11 hw) (tw_190 hw) (by decide) rfl (own_lenOf pd_27 rfl) rfl rfl rfl rfl S4.1 (key (ws.length + 4 + 1) (p3 &&& 255) _ _ rfl (by rw [own_add hv v5] <;> omega) (gch 1 _ (by omega) rfl)) (by simp) ?_
      rintro w he xe ⟨rfl, rfl⟩
      refine own_iload (pc' := 371) rfl at_369 rfl ?_
      refine own_icmpeq (pcT := 376) (pcF := 374) at_371 (by decide) (by decide) rfl (fun y4 => ?_) (fun y4 => ?_)
      · exact own_weak (k376 _) (fun x hx => hx) (by exact Nat.le_of_ble_eq_true rfl) (by exact Nat.le_of_ble_eq_true rfl)
      · exact absurd rfl y4
  intro sf4
  suffices k399 : ∀ sf : List Addr, own_WP K M_law (own_ret fun w _ _ => w = .int 1) 399 [.val (.int p0), .val (.int p1), .val (.int p2), .val (.int p3), .val (.int p4), .val (.int f), .val (.ref kd), .val (.int n), .val (.int (p2 &&& 255)), .val (.int (p3 &&& 255)), .val (.int (p4 &&& 255)), .val (.ref x), .val (.ref y), .val (.int v), o] [] sf hd3 17 129 by
    refine own_iload (pc' := 378) rfl at_376 rfl ?_
    refine own_iconst (v := (2 : Int32)) (pc' := 379) rfl at_378 rfl ?_
    refine own_icmple (pcT := 399) (pcF := 382) at_379 (by decide) (by decide) rfl (fun q1 => ?_) (fun q1 => ?_)
    · exact k399 _
    · rw [Int32.lt_iff_toInt_lt] at q1
      refine own_aload (pc' := 384) rfl at_382 rfl (by first | rfl | assumption) ?_
      refine own_iload (pc' := 386) rfl at_384 rfl ?_
      refine own_bipush (v := (6 : Int32)) (pc' := 388) rfl at_386 rfl ?_
      refine own_iadd (pc' := 389) rfl at_388 ?_
      refine own_virtual1v (M' := M_sca) at_389 (pc' := 392) rfl (tw_186 hw) (tw_187 hw) (tw_189 hw) (tw_188 hw) (tw_11 hw) (tw_190 hw) (by decide) rfl (own_lenOf pd_27 rfl) rfl rfl rfl rfl S4.1 (key (ws.length + 4 + 2) (p4 &&& 255) _ _ rfl (by rw [own_add hv v6] <;> omega) (gch 2 _ (by omega) rfl)) (by simp) ?_
      rintro w he xe ⟨rfl, rfl⟩
      refine own_iload (pc' := 394) rfl at_392 rfl ?_
      refine own_icmpeq (pcT := 399) (pcF := 397) at_394 (by decide) (by decide) rfl (fun y4 => ?_) (fun y4 => ?_)
      · exact own_weak (k399 _) (fun x hx => hx) (by exact Nat.le_of_ble_eq_true rfl) (by exact Nat.le_of_ble_eq_true rfl)
      · exact absurd rfl y4
  intro sf5
  refine own_iconst (v := (1 : Int32)) (pc' := 400) rfl at_399 rfl ?_
  refine own_ireturnN (t := .boolean) rfl (by simp) (by first | exact own_nb0 | exact own_nb1 | rfl) at_400 rfl rfl ?_
  rfl
abbrev own_EL : List (String × Nat) := [("com/example/protoloom/protoloom/report/Action", 7), ("com/example/protoloom/protoloom/report/Action", 15), ("com/example/protoloom/protoloom/report/Action", 38), ("java/lang/String", 7)]
theorem own_EW {a0 : Array Value} {Z : State} (hw : ∀ d ∈ tables_1, d.before a0 Z = true) : EW Z a0 own_EL := (EW.cons (hw _ (List.mem_of_getElem? (i := 50) rfl)) (by decide +kernel) (EW.cons (hw _ (List.mem_of_getElem? (i := 57) rfl)) (by decide +kernel) (EW.cons (hw _ (List.mem_of_getElem? (i := 139) rfl)) (by decide +kernel) (EW.cons (hw _ (List.mem_of_getElem? (i := 210) rfl)) (by decide +kernel) EW.nil))))
set_option maxRecDepth 65536 in
set_option maxHeartbeats 40000000 in
theorem comes_1 {Post : Tables → Env → Array Value → State → Outcome → State → Prop} (hpost : ∀ tb e args s v u, (limb_1_1.after args s (.returned v) u = true ∧ limb_1_2.after args s (.returned v) u = true ∧ True) → ReturnedEndW s (.returned v) u (Jvm.fieldLocs frame_1_writes args s ++ Jvm.arrayLocs frame_1_arrays args s ++ Jvm.staticLocs frame_1_statics s) 32 4288 → Post tb e args s (.returned v) u) :
    ArmFor flags0 classFile x code maxLocals ret World_1 tables_1 room_1 Calls_1 rest_1 Pre_1 Post := by
  intro l hfl _ _ p e ha hc hk s m args below hf hA hF happ hP
  obtain ⟨hcalls, hrest, hpre⟩ := hP
  obtain ⟨-, -, -, hnamed, -, -, -, hat⟩ := (Spec.applies_iff hf).mp happ
  obtain ⟨hg, hn⟩ := and_e (Cond.before_iff.mp (show (Jvm.Cond.and given_1 narrow_1).before args s = true from hpre))
  obtain ⟨gc, gv⟩ := and_e hg
  obtain ⟨g0, gv⟩ := and_e gv
  obtain ⟨g1, gv⟩ := and_e gv
  obtain ⟨g2, gv⟩ := and_e gv
  obtain ⟨g3, gv⟩ := and_e gv
  obtain ⟨w0, w1, w2, w3, w4, rfl⟩ : ∃ w0 w1 w2 w3 w4 : Value, args = #[w0, w1, w2, w3, w4] := by
    have hs : args.size = 5 := by simpa [Cond.value, given_1] using gc
    obtain ⟨L⟩ := args
    match L, hs with
    | [w0, w1, w2, w3, w4], _ => exact ⟨w0, w1, w2, w3, w4, rfl⟩
  have hw := fun d (hd : d ∈ tables_1) => atoms_spec (ws := Jvm.Cond.code x code maxLocals ret :: tables_1) hat d (List.mem_cons_of_mem _ hd)
  obtain ⟨hsets, hown0⟩ := atoms_of _ (rest_1_c_eq ▸ (show rest_1_c.before _ s = true from hrest))
  have hfit : Fit s := fun {y c} hc i hi => by
    obtain ⟨ha, rfl⟩ := Array.getElem?_eq_some_iff.mp hc
    have q := List.all_eq_true.mp ((Array.all_eq_true_iff_forall_mem.mp hF) _ (Array.getElem_mem ha)) i (List.mem_range.mpr hi)
    simpa [Array.getElem?_eq_getElem hi] using q
  obtain ⟨p0, ev0⟩ := is_v g0
  obtain rfl : w0 = (.int p0) := Option.some.inj ev0
  obtain ⟨p1, ev1⟩ := is_v g1
  obtain rfl : w1 = (.int p1) := Option.some.inj ev1
  obtain ⟨p2, ev2⟩ := is_v g2
  obtain rfl : w2 = (.int p2) := Option.some.inj ev2
  obtain ⟨p3, ev3⟩ := is_v g3
  obtain rfl : w3 = (.int p3) := Option.some.inj ev3
  obtain ⟨p4, ev4⟩ := is_v gv
  obtain rfl : w4 = (.int p4) := Option.some.inj ev4
  obtain ⟨gcs, ecs⟩ := is_v (Cond.before_iff.mp (hsets _ (List.mem_of_getElem? (i := 1) rfl)))
  have SC : Sta s s.heap "java/lang/String" "COMPACT_STRINGS" "Z" (.int gcs) := Sta.start ecs (Or.inl (hsets _ (List.mem_of_getElem? (i := 0) rfl)))
  have hgc : ¬ (gcs = (0 : Int32)) := gotF (Cond.eq_ints ecs (Term.int_eval (0))) (not_v (Cond.before_iff.mp (hsets _ (List.mem_of_getElem? (i := 2) rfl))))
  have hEW := own_EW hw
  have hCH : CHv s own_EL s.vm s.heap := CHv.start hEW (fun p hp => hcalls.1 p (by simpa [consts_1] using hp)) (hsets _ (List.mem_of_getElem? (i := 2) rfl)) (tw_27 hw) (tw_10 hw)
  obtain ⟨n1, hn⟩ := and_e hn
  obtain ⟨n2, hn⟩ := and_e hn
  obtain ⟨n3, hn⟩ := and_e hn
  obtain ⟨n4, hn⟩ := and_e hn
  obtain ⟨n5, hn⟩ := and_e hn
  obtain ⟨n6, hn⟩ := and_e hn
  obtain ⟨n7, hn⟩ := and_e hn
  obtain ⟨n8, hn⟩ := and_e hn
  obtain ⟨n9, hn⟩ := and_e hn
  obtain ⟨n10, hn⟩ := and_e hn
  obtain ⟨n11, hn⟩ := and_e hn
  obtain ⟨n12, hn⟩ := and_e hn
  obtain ⟨n13, hn⟩ := and_e hn
  obtain ⟨n14, hn⟩ := and_e hn
  obtain ⟨n15, hn⟩ := and_e hn
  obtain ⟨n16, hn⟩ := and_e hn
  obtain ⟨n17, hn⟩ := and_e hn
  obtain ⟨n18, hn⟩ := and_e hn
  obtain ⟨n19, hn⟩ := and_e hn
  obtain ⟨n20, hn⟩ := and_e hn
  obtain ⟨n21, hn⟩ := and_e hn
  obtain ⟨n22, hn⟩ := and_e hn
  obtain ⟨rf, erf, hrf⟩ := isR_v (Cond.before_iff.mp (hsets _ (List.mem_of_getElem? (i := 8) rfl)))
  have SF : Sta s s.heap "jdk/internal/util/Preconditions" "SIOOBE_FORMATTER" "Ljava/util/function/BiFunction;" rf := Sta.start erf (Or.inl (hsets _ (List.mem_of_getElem? (i := 7) rfl)))
  obtain ⟨kr, er⟩ := exa_v n1
  obtain ⟨vr, fr⟩ := exa_v n2
  obtain ⟨br, gr⟩ := exa_v n4
  obtain ⟨ks, es⟩ := exa_v n7
  obtain ⟨vs, fs⟩ := exa_v n8
  obtain ⟨bs, gs⟩ := exa_v n10
  have hini : (Jvm.Cond.initialized "com/example/protoloom/protoloom/report/Action$Kind").before _ s = true := (tw_1 hw)
  have SS : Sta s s.heap own_kC "SEND" own_kD (.ref ks) := Sta.start es (Or.inr ⟨hini, (tw_209 hw)⟩)
  have SR : Sta s s.heap own_kC "RECEIVE" own_kD (.ref kr) := Sta.start er (Or.inr ⟨hini, (tw_2 hw)⟩)
  have mkA : ∀ (cl : Cell) (n : Int32) (xs : List Int32), cl.slots.size < 2 ^ 31 → cl.slots.size.toInt32 = n → n.toInt = xs.length → (∀ (i : Nat) (x : Int32), xs[i]? = some x → cl.slots[i]? = some (Value.int x)) → cl.slots = (own_ints xs).toArray := by
    intro cl n xs h1 h2 h3 h4
    have h5 : cl.slots.size = xs.length := by
      have := own_lit _ h1
      rw [h2] at this
      omega
    apply Array.ext
    · simp [h5]
    · intro i g1 g2
      have g3 : i < xs.length := by omega
      have := h4 i xs[i] (by simp [g3])
      rw [Array.getElem?_eq_getElem g1] at this
      simpa using Option.some.inj this
  have Vs : own_Str s s.heap vs [115, 101, 110, 100] := by
    obtain ⟨cl, A⟩ := Arr.start gs n9
    have l1 := own_len_v n11 gs A.1
    have c0 := own_elem_v n13 gs A.1
    have c1 := own_elem_v n14 gs A.1
    have c2 := own_elem_v n15 gs A.1
    have c3 := own_elem_v n16 gs A.1
    refine ⟨exa_at fs n8, by decide, by decide, bs, Fld.start (by rw [← fld_at fs]; exact gs), Fld.start (own_fint_v n12 fs), cl, A, mkA cl 4 [115, 101, 110, 100] l1.1 l1.2 rfl ?_, by decide⟩
    intro i x hi
    match i, hi with
    | 0, hi => cases hi; exact c0
    | 1, hi => cases hi; exact c1
    | 2, hi => cases hi; exact c2
    | 3, hi => cases hi; exact c3
  have Vr : own_Str s s.heap vr [114, 101, 99, 101, 105, 118, 101] := by
    obtain ⟨cl, A⟩ := Arr.start gr n3
    have l1 := own_len_v n5 gr A.1
    have c0 := own_elem_v n17 gr A.1
    have c1 := own_elem_v n18 gr A.1
    have c2 := own_elem_v n19 gr A.1
    have c3 := own_elem_v n20 gr A.1
    have c4 := own_elem_v n21 gr A.1
    have c5 := own_elem_v n22 gr A.1
    have c6 := own_elem_v hn gr A.1
    refine ⟨exa_at fr n2, by decide, by decide, br, Fld.start (by rw [← fld_at fr]; exact gr), Fld.start (own_fint_v n6 fr), cl, A, mkA cl 7 [114, 101, 99, 101, 105, 118, 101] l1.1 l1.2 rfl ?_, by decide⟩
    intro i x hi
    match i, hi with
    | 0, hi => cases hi; exact c0
    | 1, hi => cases hi; exact c1
    | 2, hi => cases hi; exact c2
    | 3, hi => cases hi; exact c3
    | 4, hi => cases hi; exact c4
    | 5, hi => cases hi; exact c5
    | 6, hi => cases hi; exact c6
  have main := c_law (l, s, own_EL, false) _ hw rfl hEW (by show _ ∈ own_EL; simp [own_EL]) (by show _ ∈ own_EL; simp [own_EL]) (by show _ ∈ own_EL; simp [own_EL]) (by show _ ∈ own_EL; simp [own_EL]) rf hrf SF gcs SC hgc ks kr vs vr SS SR (exa_at es n7) (exa_at er n1) (Fld.start (by rw [← fld_at es]; exact fs)) (Fld.start (by rw [← fld_at er]; exact fr)) Vs Vr p0 p1 p2 p3 p4 s.heap
  obtain ⟨n, o, h1, h2, h3, v, L, xs, rfl, ⟨w, e0, hq⟩, N, hC, hS, hE, hR, hwm⟩ := main tables_1 p e ha hc hk s m _ below hf ((Spec.applies_iff_loose hf).mp happ).1 ⟨rfl, State.Warmed39.refl s, rfl, ⟨_, hEW⟩, hCH, (fun x hx => nomatch hx), own_ext_refl _⟩ trivial
  subst e0
  subst hq
  refine ⟨n, _, h1, h2, h3, hpost _ _ _ _ _ _ ⟨Cond.after_iff.mpr rfl, Cond.after_iff.mpr (eq_i res_at (Term.int_eval (1)) rfl), trivial⟩ ⟨⟨_, rfl⟩, hR.2.1, hR.2.2.1, (hR.2.2.2.sift fun y hy => Or.inr (N y hy)).mono (by decide) (by decide)⟩⟩
theorem main_1_1 : Claimed_1_1 := comes_1 fun _ _ _ _ _ _ h hF => ⟨h.1, hF⟩
theorem main_1_2 : Claimed_1_2 := comes_1 fun _ _ _ _ _ _ h hF => ⟨h.2.1, hF⟩
end Jvm.Pilot.@@N@@
namespace Jvm.Pilot.@@N@@
open Jvm Jvm.ClassFile Sem Op Lib Jvm.Free Jvm.Stand Jvm.Pilot.@@N@@.Jvm.D
/-! MADE BY PROGRAM (witnessworld.py) out of the Statement's table words and the real class files: 30 classes; the members and pool entries that the words name. The judged class is class 1, her method 1. -/
namespace start1
open Jvm.ClassFile
def u (s : String) : CpInfo := .utf8 (stringToUtf16 s)
/-- a pool by its gaps: so many unusable entries, then the entry; so many at the end -/
def gap : Nat → List CpInfo → List CpInfo
  | 0, r => r
  | n + 1, r => .unusable :: gap n r
def poolList (es : List (Nat × CpInfo)) (last : Nat) : List CpInfo := es.foldr (fun e r => gap e.1 (e.2 :: r)) (gap last [])
def pool (es : List (Nat × CpInfo)) (last : Nat) : Array CpInfo := ⟨poolList es last⟩
def fileOf (pool : Array CpInfo) (this : Nat) (attrs : Array Attribute := #[]) (ms : Array MethodInfo := #[]) (fl : Nat := 33) (sup : Nat := 0) (ifs : Array Nat := #[]) (fds : Array FieldInfo := #[]) : ClassFile where
  minorVersion := 0
  majorVersion := 65
  constantPool := pool
  accessFlags := fl
  thisClass := this
  superClass := sup
  interfaces := ifs
  fields := fds
  methods := ms
  attributes := attrs
def plain (name : String) (sup : Option ClassId) : Class where
  name := name
  kind := .ordinary
  loader := none
  accessFlags := 33
  super := sup
  interfaces := #[]
  cf := none
  fields := #[]
  methods := #[]
  instanceTypes := #[]
  staticTypes := #[]
  resolved := #[]
  callSites := []
  init := .initialized
  statics := none
  mirror := none

def pool0 : Array CpInfo := pool [(5, u "<init>"), (0, u "()V"), (1, .class_ 10), (1, u "java/lang/Object")] 113

def k0c0 : Code := { maxStack := 0, maxLocals := 1, code := object_method_1_code, exceptionTable := #[], attributes := #[] }
def k0m0 : Method := { name := "<init>", desc := "()V", sig := { parameters := [], returnType := none }, accessFlags := 1, code := some k0c0 }
/-- java/lang/Object -/
def k0 : Class := { plain "java/lang/Object" none with
  accessFlags := 33
  interfaces := #[]
  cf := some (fileOf pool0 8 #[] #[{ accessFlags := 1, nameIndex := 5, descriptorIndex := 6, attributes := #[] }] 33 0 #[] #[])
  fields := #[]
  methods := #[k0m0]
  instanceTypes := #[]
  staticTypes := #[]
  resolved := Array.replicate 124 none
  statics := none }

def pool1 : Array CpInfo := pool [(2, .class_ 4), (1, u "java/lang/Object"), (0, u "<init>"), (0, u "()V"), (0, .fieldref 8 9), (0, .class_ 10), (0, .nameAndType 11 12), (0, u "com/example/protoloom/protoloom/report/Action$Kind"), (0, u "SEND"), (0, u "Lcom/example/protoloom/protoloom/report/Action$Kind;"), (0, .fieldref 8 14), (0, .nameAndType 15 12), (0, u "RECEIVE"), (0, .integer 2147483647), (0, .methodref 18 19), (0, .class_ 20), (0, .nameAndType 21 22), (0, u "com/example/protoloom/protoloom/report/ActionToStringPinLaw"), (0, u "channel"), (0, u "(ICCC)Ljava/lang/String;"), (0, .class_ 24), (0, u "com/example/protoloom/protoloom/report/Action"), (0, .methodref 23 26), (0, .nameAndType 5 27), (0, u "(Lcom/example/protoloom/protoloom/report/Action$Kind;Ljava/lang/String;)V"), (0, .methodref 23 29), (0, .nameAndType 30 31), (0, u "toString"), (0, u "()Ljava/lang/String;"), (0, .methodref 33 34), (0, .class_ 35), (0, .nameAndType 36 37), (0, u "java/lang/String"), (0, u "length"), (0, u "()I"), (0, .methodref 33 39), (0, .nameAndType 40 41), (0, u "charAt"), (0, u "(I)C"), (0, .methodref 33 43), (0, .nameAndType 5 44), (0, u "([C)V"), (2, u "law"), (0, u "(IIIII)Z")] 5

def k1m0 : Method := { name := "<init>", desc := "()V", sig := { parameters := [], returnType := none }, accessFlags := 1, code := none }
def k1c1 : Code := { maxStack := 4, maxLocals := 15, code := code, exceptionTable := #[], attributes := #[] }
def k1m1 : Method := { name := "law", desc := "(IIIII)Z", sig := { parameters := [.int, .int, .int, .int, .int], returnType := some .boolean }, accessFlags := 9, code := some k1c1 }
def k1c2 : Code := { maxStack := 3, maxLocals := 5, code := method_3_code, exceptionTable := #[], attributes := #[] }
def k1m2 : Method := { name := "channel", desc := "(ICCC)Ljava/lang/String;", sig := { parameters := [.int, .char, .char, .char], returnType := some (.object "java/lang/String") }, accessFlags := 10, code := some k1c2 }
/-- com/example/protoloom/protoloom/report/ActionToStringPinLaw -/
def k1 : Class := { plain "com/example/protoloom/protoloom/report/ActionToStringPinLaw" (some 0) with
  accessFlags := 49
  interfaces := #[]
  cf := some (fileOf pool1 18 #[] #[{ accessFlags := 1, nameIndex := 5, descriptorIndex := 6, attributes := #[] }, { accessFlags := 9, nameIndex := 47, descriptorIndex := 48, attributes := #[] }, { accessFlags := 10, nameIndex := 21, descriptorIndex := 22, attributes := #[] }] 49 2 #[] #[])
  fields := #[]
  methods := #[k1m0, k1m1, k1m2]
  instanceTypes := #[]
  staticTypes := #[]
  resolved := Array.replicate 54 none
  statics := none }

def pool2 : Array CpInfo := pool [(1, .class_ 2), (0, u "java/lang/constant/Constable"), (0, .class_ 4), (0, u "java/lang/Object")] 6

/-- java/lang/constant/Constable -/
def k2 : Class := { plain "java/lang/constant/Constable" (some 0) with
  accessFlags := 1537
  interfaces := #[]
  cf := some (fileOf pool2 1 #[] #[] 1537 3 #[] #[])
  fields := #[]
  methods := #[]
  instanceTypes := #[]
  staticTypes := #[]
  resolved := Array.replicate 11 none
  statics := none }

def pool3 : Array CpInfo := pool [(1, .class_ 2), (0, u "java/lang/Comparable"), (0, .class_ 4), (0, u "java/lang/Object")] 7

/-- java/lang/Comparable -/
def k3 : Class := { plain "java/lang/Comparable" (some 0) with
  accessFlags := 1537
  interfaces := #[]
  cf := some (fileOf pool3 1 #[] #[] 1537 3 #[] #[])
  fields := #[]
  methods := #[]
  instanceTypes := #[]
  staticTypes := #[]
  resolved := Array.replicate 12 none
  statics := none }

def pool4 : Array CpInfo := pool [(1, .class_ 2), (0, u "java/io/Serializable"), (0, .class_ 4), (0, u "java/lang/Object")] 2

/-- java/io/Serializable -/
def k4 : Class := { plain "java/io/Serializable" (some 0) with
  accessFlags := 1537
  interfaces := #[]
  cf := some (fileOf pool4 1 #[] #[] 1537 3 #[] #[])
  fields := #[]
  methods := #[]
  instanceTypes := #[]
  staticTypes := #[]
  resolved := Array.replicate 7 none
  statics := none }

def pool5 : Array CpInfo := pool [(2, .class_ 4), (1, u "java/lang/Enum"), (0, u "name"), (0, u "Ljava/lang/String;"), (2, u "ordinal"), (0, u "I"), (1, .class_ 14), (1, u "java/lang/Object"), (4, u "hash"), (86, .class_ 108), (1, u "java/lang/Enum$EnumDesc"), (2, .class_ 112), (0, u "java/lang/constant/Constable"), (0, .class_ 114), (0, u "java/lang/Comparable"), (0, .class_ 116), (0, u "java/io/Serializable")] 87

/-- java/lang/Enum -/
def k5 : Class := { plain "java/lang/Enum" (some 0) with
  accessFlags := 1057
  interfaces := #[2, 3, 4]
  cf := some (fileOf pool5 2 #[.nestMembers #[106]] #[] 1057 12 #[111, 113, 115] #[{ accessFlags := 18, nameIndex := 5, descriptorIndex := 6, attributes := #[] }, { accessFlags := 18, nameIndex := 9, descriptorIndex := 10, attributes := #[] }, { accessFlags := 2, nameIndex := 19, descriptorIndex := 10, attributes := #[] }])
  fields := #[{ name := "name", type := (.object "java/lang/String"), accessFlags := 18, slot := 0, constantValue := 0 }, { name := "ordinal", type := .int, accessFlags := 18, slot := 1, constantValue := 0 }, { name := "hash", type := .int, accessFlags := 2, slot := 2, constantValue := 0 }]
  methods := #[]
  instanceTypes := #[(.object "java/lang/String"), .int, .int]
  staticTypes := #[]
  resolved := Array.replicate 204 none
  statics := none }

def pool6 : Array CpInfo := pool [(1, .class_ 2), (0, u "com/example/protoloom/protoloom/report/Action$Kind"), (2, u "SEND"), (0, u "Lcom/example/protoloom/protoloom/report/Action$Kind;"), (2, u "RECEIVE"), (2, u "$VALUES"), (0, u "[Lcom/example/protoloom/protoloom/report/Action$Kind;"), (6, .class_ 22), (1, u "java/lang/Enum"), (6, .fieldref 1 30), (0, .nameAndType 31 32), (0, u "verb"), (0, u "Ljava/lang/String;"), (20, u "()Ljava/lang/String;"), (6, .class_ 61), (0, u "com/example/protoloom/protoloom/report/Action")] 2

def k6c0 : Code := { maxStack := 1, maxLocals := 1, code := prog_29_method_4_code, exceptionTable := #[], attributes := #[] }
def k6m0 : Method := { name := "verb", desc := "()Ljava/lang/String;", sig := { parameters := [], returnType := some (.object "java/lang/String") }, accessFlags := 1, code := some k6c0 }
/-- com/example/protoloom/protoloom/report/Action$Kind -/
def k6 : Class := { plain "com/example/protoloom/protoloom/report/Action$Kind" (some 5) with
  accessFlags := 16433
  interfaces := #[]
  cf := some (fileOf pool6 1 #[.nestHost 60] #[{ accessFlags := 1, nameIndex := 31, descriptorIndex := 53, attributes := #[] }] 16433 20 #[] #[{ accessFlags := 16409, nameIndex := 5, descriptorIndex := 6, attributes := #[] }, { accessFlags := 16409, nameIndex := 9, descriptorIndex := 6, attributes := #[] }, { accessFlags := 18, nameIndex := 31, descriptorIndex := 32, attributes := #[] }, { accessFlags := 4122, nameIndex := 12, descriptorIndex := 13, attributes := #[] }])
  fields := #[{ name := "SEND", type := (.object "com/example/protoloom/protoloom/report/Action$Kind"), accessFlags := 16409, slot := 0, constantValue := 0 }, { name := "RECEIVE", type := (.object "com/example/protoloom/protoloom/report/Action$Kind"), accessFlags := 16409, slot := 1, constantValue := 0 }, { name := "verb", type := (.object "java/lang/String"), accessFlags := 18, slot := 3, constantValue := 0 }, { name := "$VALUES", type := (.array (.object "com/example/protoloom/protoloom/report/Action$Kind")), accessFlags := 4122, slot := 2, constantValue := 0 }]
  methods := #[k6m0]
  instanceTypes := #[(.object "java/lang/String"), .int, .int, (.object "java/lang/String")]
  staticTypes := #[(.object "com/example/protoloom/protoloom/report/Action$Kind"), (.object "com/example/protoloom/protoloom/report/Action$Kind"), (.array (.object "com/example/protoloom/protoloom/report/Action$Kind"))]
  resolved := Array.replicate 64 none
  statics := some 0 }

def pool7 : Array CpInfo := pool [(2, .class_ 4), (1, u "java/lang/CharSequence"), (42, .class_ 48), (0, u "java/lang/CharSequence$1CodePointIterator"), (10, .class_ 60), (0, u "java/lang/CharSequence$1CharIterator"), (5, .class_ 67), (0, u "java/lang/Object")] 63

/-- java/lang/CharSequence -/
def k7 : Class := { plain "java/lang/CharSequence" (some 0) with
  accessFlags := 1537
  interfaces := #[]
  cf := some (fileOf pool7 2 #[.nestMembers #[47, 59]] #[] 1537 66 #[] #[])
  fields := #[]
  methods := #[]
  instanceTypes := #[]
  staticTypes := #[]
  resolved := Array.replicate 131 none
  statics := none }

def pool8 : Array CpInfo := pool [(1, .class_ 2), (0, u "java/lang/constant/ConstantDesc"), (0, .class_ 4), (0, u "java/lang/Object")] 32

/-- java/lang/constant/ConstantDesc -/
def k8 : Class := { plain "java/lang/constant/ConstantDesc" (some 0) with
  accessFlags := 1537
  interfaces := #[]
  cf := some (fileOf pool8 1 #[] #[] 1537 3 #[] #[])
  fields := #[]
  methods := #[]
  instanceTypes := #[]
  staticTypes := #[]
  resolved := Array.replicate 37 none
  statics := none }

def pool9 : Array CpInfo := pool [(1, .methodref 2 3), (0, .class_ 4), (0, .nameAndType 5 6), (0, u "java/lang/Object"), (0, u "<init>"), (0, u "()V"), (0, .string 8), (0, u ""), (0, .fieldref 10 11), (0, .class_ 12), (0, .nameAndType 13 14), (0, u "java/lang/String"), (0, u "value"), (0, u "[B"), (0, .fieldref 10 16), (0, .nameAndType 17 18), (0, u "coder"), (0, u "B"), (2, u "hash"), (0, u "I"), (2, u "hashIsZero"), (0, u "Z"), (0, .methodref 10 28), (0, .nameAndType 5 29), (0, u "([CIILjava/lang/Void;)V"), (8, .fieldref 10 39), (0, .nameAndType 40 26), (0, u "COMPACT_STRINGS"), (1, .class_ 44), (1, u "java/lang/StringUTF16"), (0, u "compress"), (1, .methodref 42 48), (0, .nameAndType 49 50), (0, u "coderFromArrayLen"), (0, u "([BI)B"), (3, .methodref 55 56), (0, .class_ 57), (0, .nameAndType 58 59), (0, u "java/util/Arrays"), (0, u "copyOfRange"), (0, u "([BII)[B"), (47, .class_ 109), (1, u "java/lang/StringLatin1"), (32, u "()Z"), (34, .methodref 42 178), (0, .nameAndType 45 179), (0, u "([CII)[B"), (13, .class_ 195), (1, u "java/lang/System"), (16, .methodref 193 213), (0, .nameAndType 214 215), (0, u "arraycopy"), (0, u "(Ljava/lang/Object;ILjava/lang/Object;II)V"), (118, u "()I"), (0, .methodref 10 336), (0, .nameAndType 17 337), (0, u "()B"), (2, u "()[B"), (22, u "([BI)C"), (27, u "(II)V"), (35, u "(I)C"), (61, .methodref 10 490), (0, .nameAndType 5 491), (0, u "(Ljava/lang/AbstractStringBuilder;Ljava/lang/Void;)V"), (0, .methodref 10 493), (0, .nameAndType 494 142), (0, u "isLatin1"), (0, .methodref 107 496), (0, .nameAndType 497 363), (0, u "charAt"), (3, u "checkIndex"), (4, .nameAndType 507 334), (0, u "length"), (24, u "getBytes"), (16, .methodref 550 506), (0, .class_ 551), (0, u "java/lang/AbstractStringBuilder"), (0, .methodref 550 553), (0, .nameAndType 554 340), (0, u "getValue"), (20, .class_ 576), (0, u "java/lang/CharSequence"), (22, u "CASE_INSENSITIVE_ORDER"), (0, u "Ljava/util/Comparator;"), (220, u "([BIB)V"), (188, u "([C)V"), (36, .methodref 550 493), (5, .fieldref 1054 1055), (0, .class_ 1056), (0, .nameAndType 1057 1058), (0, u "jdk/internal/util/Preconditions"), (0, u "SIOOBE_FORMATTER"), (0, u "Ljava/util/function/BiFunction;"), (0, .methodref 1054 1060), (0, .nameAndType 501 1061), (0, u "(IILjava/util/function/BiFunction;)I"), (39, u "serialPersistentFields"), (0, u "[Ljava/io/ObjectStreamField;"), (0, .class_ 1104), (0, u "java/lang/String$CaseInsensitiveComparator"), (1, .class_ 1107), (0, u "java/io/Serializable"), (0, .class_ 1109), (0, u "java/lang/Comparable"), (0, .class_ 1111), (0, u "java/lang/constant/Constable"), (0, .class_ 1113), (0, u "java/lang/constant/ConstantDesc"), (2, u "serialVersionUID"), (0, u "J"), (3, u "REPL"), (0, u "C"), (2, u "LATIN1"), (1, u "UTF16"), (105, u "(Ljava/lang/StringBuilder;)V")] 217

def k9m0 : Method := { name := "<init>", desc := "()V", sig := { parameters := [], returnType := none }, accessFlags := 1, code := none }
def k9c1 : Code := { maxStack := 5, maxLocals := 2, code := jdk_42_method_3_code, exceptionTable := #[], attributes := #[] }
def k9m1 : Method := { name := "<init>", desc := "([C)V", sig := { parameters := [(.array .char)], returnType := none }, accessFlags := 1, code := some k9c1 }
def k9c2 : Code := { maxStack := 3, maxLocals := 2, code := jdk_42_method_53_code, exceptionTable := #[], attributes := #[] }
def k9m2 : Method := { name := "<init>", desc := "(Ljava/lang/StringBuilder;)V", sig := { parameters := [(.object "java/lang/StringBuilder")], returnType := none }, accessFlags := 1, code := some k9c2 }
def k9c3 : Code := { maxStack := 2, maxLocals := 1, code := jdk_42_method_54_code, exceptionTable := #[], attributes := #[] }
def k9m3 : Method := { name := "length", desc := "()I", sig := { parameters := [], returnType := some .int }, accessFlags := 1, code := some k9c3 }
def k9c4 : Code := { maxStack := 2, maxLocals := 2, code := jdk_42_method_56_code, exceptionTable := #[], attributes := #[] }
def k9m4 : Method := { name := "charAt", desc := "(I)C", sig := { parameters := [.int], returnType := some .char }, accessFlags := 1, code := some k9c4 }
def k9c5 : Code := { maxStack := 5, maxLocals := 4, code := jdk_42_method_147_code, exceptionTable := #[], attributes := #[] }
def k9m5 : Method := { name := "getBytes", desc := "([BIB)V", sig := { parameters := [(.array .byte), .int, .byte], returnType := none }, accessFlags := 0, code := some k9c5 }
def k9c6 : Code := { maxStack := 4, maxLocals := 6, code := jdk_42_method_149_code, exceptionTable := #[], attributes := #[] }
def k9m6 : Method := { name := "<init>", desc := "([CIILjava/lang/Void;)V", sig := { parameters := [(.array .char), .int, .int, (.object "java/lang/Void")], returnType := none }, accessFlags := 2, code := some k9c6 }
def k9c7 : Code := { maxStack := 5, maxLocals := 5, code := jdk_42_method_150_code, exceptionTable := #[], attributes := #[] }
def k9m7 : Method := { name := "<init>", desc := "(Ljava/lang/AbstractStringBuilder;Ljava/lang/Void;)V", sig := { parameters := [(.object "java/lang/AbstractStringBuilder"), (.object "java/lang/Void")], returnType := none }, accessFlags := 0, code := some k9c7 }
def k9c8 : Code := { maxStack := 1, maxLocals := 1, code := jdk_42_method_152_code, exceptionTable := #[], attributes := #[] }
def k9m8 : Method := { name := "coder", desc := "()B", sig := { parameters := [], returnType := some .byte }, accessFlags := 0, code := some k9c8 }
def k9c9 : Code := { maxStack := 1, maxLocals := 1, code := jdk_42_method_154_code, exceptionTable := #[], attributes := #[] }
def k9m9 : Method := { name := "isLatin1", desc := "()Z", sig := { parameters := [], returnType := some .boolean }, accessFlags := 0, code := some k9c9 }
def k9c10 : Code := { maxStack := 3, maxLocals := 2, code := jdk_42_method_155_code, exceptionTable := #[], attributes := #[] }
def k9m10 : Method := { name := "checkIndex", desc := "(II)V", sig := { parameters := [.int, .int], returnType := none }, accessFlags := 8, code := some k9c10 }
/-- java/lang/String -/
def k9 : Class := { plain "java/lang/String" (some 0) with
  accessFlags := 49
  interfaces := #[4, 3, 7, 2, 8]
  cf := some (fileOf pool9 10 #[.nestMembers #[1103]] #[{ accessFlags := 1, nameIndex := 5, descriptorIndex := 6, attributes := #[] }, { accessFlags := 1, nameIndex := 5, descriptorIndex := 1010, attributes := #[] }, { accessFlags := 1, nameIndex := 5, descriptorIndex := 1233, attributes := #[] }, { accessFlags := 1, nameIndex := 507, descriptorIndex := 334, attributes := #[] }, { accessFlags := 1, nameIndex := 497, descriptorIndex := 427, attributes := #[] }, { accessFlags := 0, nameIndex := 532, descriptorIndex := 821, attributes := #[] }, { accessFlags := 2, nameIndex := 5, descriptorIndex := 29, attributes := #[] }, { accessFlags := 0, nameIndex := 5, descriptorIndex := 491, attributes := #[] }, { accessFlags := 0, nameIndex := 17, descriptorIndex := 337, attributes := #[] }, { accessFlags := 0, nameIndex := 494, descriptorIndex := 142, attributes := #[] }, { accessFlags := 8, nameIndex := 501, descriptorIndex := 391, attributes := #[] }] 49 2 #[1106, 1108, 575, 1110, 1112] #[{ accessFlags := 18, nameIndex := 13, descriptorIndex := 14, attributes := #[] }, { accessFlags := 18, nameIndex := 17, descriptorIndex := 18, attributes := #[] }, { accessFlags := 2, nameIndex := 21, descriptorIndex := 22, attributes := #[] }, { accessFlags := 2, nameIndex := 25, descriptorIndex := 26, attributes := #[] }, { accessFlags := 26, nameIndex := 1116, descriptorIndex := 1117, attributes := #[] }, { accessFlags := 24, nameIndex := 40, descriptorIndex := 26, attributes := #[] }, { accessFlags := 26, nameIndex := 1101, descriptorIndex := 1102, attributes := #[] }, { accessFlags := 26, nameIndex := 1121, descriptorIndex := 1122, attributes := #[] }, { accessFlags := 25, nameIndex := 599, descriptorIndex := 600, attributes := #[] }, { accessFlags := 24, nameIndex := 1125, descriptorIndex := 18, attributes := #[] }, { accessFlags := 24, nameIndex := 1127, descriptorIndex := 18, attributes := #[] }])
  fields := #[{ name := "value", type := (.array .byte), accessFlags := 18, slot := 0, constantValue := 0 }, { name := "coder", type := .byte, accessFlags := 18, slot := 1, constantValue := 0 }, { name := "hash", type := .int, accessFlags := 2, slot := 2, constantValue := 0 }, { name := "hashIsZero", type := .boolean, accessFlags := 2, slot := 3, constantValue := 0 }, { name := "serialVersionUID", type := .long, accessFlags := 26, slot := 0, constantValue := 0 }, { name := "COMPACT_STRINGS", type := .boolean, accessFlags := 24, slot := 1, constantValue := 0 }, { name := "serialPersistentFields", type := (.array (.object "java/io/ObjectStreamField")), accessFlags := 26, slot := 2, constantValue := 0 }, { name := "REPL", type := .char, accessFlags := 26, slot := 3, constantValue := 0 }, { name := "CASE_INSENSITIVE_ORDER", type := (.object "java/util/Comparator"), accessFlags := 25, slot := 4, constantValue := 0 }, { name := "LATIN1", type := .byte, accessFlags := 24, slot := 5, constantValue := 0 }, { name := "UTF16", type := .byte, accessFlags := 24, slot := 6, constantValue := 0 }]
  methods := #[k9m0, k9m1, k9m2, k9m3, k9m4, k9m5, k9m6, k9m7, k9m8, k9m9, k9m10]
  instanceTypes := #[(.array .byte), .byte, .int, .boolean]
  staticTypes := #[.long, .boolean, (.array (.object "java/io/ObjectStreamField")), .char, (.object "java/util/Comparator"), .byte, .byte]
  resolved := Array.replicate 1451 none
  statics := some 1 }

def pool10 : Array CpInfo := pool [(6, .class_ 8), (1, u "java/lang/Object"), (0, u "<init>"), (0, u "()V"), (1, .class_ 14), (1, u "java/lang/StringUTF16"), (31, u "$assertionsDisabled"), (0, u "Z"), (13, u "HI_BYTE_SHIFT"), (0, u "I"), (2, u "LO_BYTE_SHIFT"), (49, .methodref 12 116), (0, .nameAndType 117 118), (0, u "compress"), (0, u "([CI[BII)I"), (3, u "([CII)[B"), (138, u "coderFromArrayLen"), (0, u "([BI)B"), (106, .class_ 371), (1, u "java/lang/StringUTF16$LinesSpliterator"), (58, u "MAX_LENGTH"), (196, .class_ 628), (0, u "java/lang/StringUTF16$CodePointsSpliterator"), (0, .class_ 630), (0, u "java/lang/StringUTF16$CharsSpliterator")] 4

def k10m0 : Method := { name := "<init>", desc := "()V", sig := { parameters := [], returnType := none }, accessFlags := 0, code := none }
def k10c1 : Code := { maxStack := 2, maxLocals := 2, code := jdk_52_method_15_code, exceptionTable := #[], attributes := #[] }
def k10m1 : Method := { name := "coderFromArrayLen", desc := "([BI)B", sig := { parameters := [(.array .byte), .int], returnType := some .byte }, accessFlags := 8, code := some k10c1 }
def k10c2 : Code := { maxStack := 5, maxLocals := 6, code := jdk_52_method_16_code, exceptionTable := #[], attributes := #[] }
def k10m2 : Method := { name := "compress", desc := "([CII)[B", sig := { parameters := [(.array .char), .int, .int], returnType := some (.array .byte) }, accessFlags := 9, code := some k10c2 }
def k10c3 : Code := { maxStack := 3, maxLocals := 7, code := jdk_52_method_21_code, exceptionTable := #[], attributes := #[] }
def k10m3 : Method := { name := "compress", desc := "([CI[BII)I", sig := { parameters := [(.array .char), .int, (.array .byte), .int, .int], returnType := some .int }, accessFlags := 9, code := some k10c3 }
/-- java/lang/StringUTF16 -/
def k10 : Class := { plain "java/lang/StringUTF16" (some 0) with
  accessFlags := 48
  interfaces := #[]
  cf := some (fileOf pool10 12 #[.nestMembers #[627, 629, 369]] #[{ accessFlags := 0, nameIndex := 9, descriptorIndex := 10, attributes := #[] }, { accessFlags := 8, nameIndex := 261, descriptorIndex := 262, attributes := #[] }, { accessFlags := 9, nameIndex := 117, descriptorIndex := 122, attributes := #[] }, { accessFlags := 9, nameIndex := 117, descriptorIndex := 118, attributes := #[] }] 48 6 #[] #[{ accessFlags := 26, nameIndex := 61, descriptorIndex := 62, attributes := #[] }, { accessFlags := 26, nameIndex := 65, descriptorIndex := 62, attributes := #[] }, { accessFlags := 24, nameIndex := 430, descriptorIndex := 62, attributes := #[] }, { accessFlags := 4120, nameIndex := 46, descriptorIndex := 47, attributes := #[] }])
  fields := #[{ name := "HI_BYTE_SHIFT", type := .int, accessFlags := 26, slot := 0, constantValue := 0 }, { name := "LO_BYTE_SHIFT", type := .int, accessFlags := 26, slot := 1, constantValue := 0 }, { name := "MAX_LENGTH", type := .int, accessFlags := 24, slot := 2, constantValue := 0 }, { name := "$assertionsDisabled", type := .boolean, accessFlags := 4120, slot := 3, constantValue := 0 }]
  methods := #[k10m0, k10m1, k10m2, k10m3]
  instanceTypes := #[]
  staticTypes := #[.int, .int, .int, .boolean]
  resolved := Array.replicate 635 none
  statics := none }

def pool11 : Array CpInfo := pool [(1, .methodref 2 3), (0, .class_ 4), (0, .nameAndType 5 6), (0, u "java/lang/Object"), (0, u "<init>"), (0, u "()V"), (0, .class_ 8), (0, u "java/lang/Record")] 13

def k11c0 : Code := { maxStack := 1, maxLocals := 1, code := jdk_30_method_1_code, exceptionTable := #[], attributes := #[] }
def k11m0 : Method := { name := "<init>", desc := "()V", sig := { parameters := [], returnType := none }, accessFlags := 4, code := some k11c0 }
/-- java/lang/Record -/
def k11 : Class := { plain "java/lang/Record" (some 0) with
  accessFlags := 1057
  interfaces := #[]
  cf := some (fileOf pool11 7 #[] #[{ accessFlags := 4, nameIndex := 5, descriptorIndex := 6, attributes := #[] }] 1057 2 #[] #[])
  fields := #[]
  methods := #[k11m0]
  instanceTypes := #[]
  staticTypes := #[]
  resolved := Array.replicate 22 none
  statics := none }

def pool12 : Array CpInfo := pool [(1, .methodref 2 3), (0, .class_ 4), (0, .nameAndType 5 6), (0, u "java/lang/Record"), (0, u "<init>"), (0, u "()V"), (0, .string 8), (0, u "kind"), (0, .methodref 10 11), (0, .class_ 12), (0, .nameAndType 13 14), (0, u "java/util/Objects"), (0, u "requireNonNull"), (0, u "(Ljava/lang/Object;Ljava/lang/String;)Ljava/lang/Object;"), (0, .string 16), (0, u "channel"), (0, .fieldref 18 19), (0, .class_ 20), (0, .nameAndType 8 21), (0, u "com/example/protoloom/protoloom/report/Action"), (0, u "Lcom/example/protoloom/protoloom/report/Action$Kind;"), (0, .fieldref 18 23), (0, .nameAndType 16 24), (0, u "Ljava/lang/String;"), (0, .class_ 26), (0, u "java/lang/StringBuilder"), (0, .methodref 25 3), (0, .methodref 29 30), (0, .class_ 31), (0, .nameAndType 32 33), (0, u "com/example/protoloom/protoloom/report/Action$Kind"), (0, u "verb"), (0, u "()Ljava/lang/String;"), (0, .methodref 25 35), (0, .nameAndType 36 37), (0, u "append"), (0, u "(Ljava/lang/String;)Ljava/lang/StringBuilder;"), (0, .string 39), (0, u " on "), (0, .methodref 25 41), (0, .nameAndType 42 33), (0, u "toString"), (8, .class_ 52), (0, u "java/io/Serializable"), (0, u "serialVersionUID"), (0, u "J"), (3, u "(Lcom/example/protoloom/protoloom/report/Action$Kind;Ljava/lang/String;)V")] 29

def k12c0 : Code := { maxStack := 2, maxLocals := 3, code := prog_28_method_1_code, exceptionTable := #[], attributes := #[] }
def k12m0 : Method := { name := "<init>", desc := "(Lcom/example/protoloom/protoloom/report/Action$Kind;Ljava/lang/String;)V", sig := { parameters := [(.object "com/example/protoloom/protoloom/report/Action$Kind"), (.object "java/lang/String")], returnType := none }, accessFlags := 1, code := some k12c0 }
def k12c1 : Code := { maxStack := 2, maxLocals := 1, code := prog_28_method_2_code, exceptionTable := #[], attributes := #[] }
def k12m1 : Method := { name := "toString", desc := "()Ljava/lang/String;", sig := { parameters := [], returnType := some (.object "java/lang/String") }, accessFlags := 1, code := some k12c1 }
/-- com/example/protoloom/protoloom/report/Action -/
def k12 : Class := { plain "com/example/protoloom/protoloom/report/Action" (some 11) with
  accessFlags := 49
  interfaces := #[4]
  cf := some (fileOf pool12 18 #[.nestMembers #[29]] #[{ accessFlags := 1, nameIndex := 5, descriptorIndex := 58, attributes := #[] }, { accessFlags := 1, nameIndex := 42, descriptorIndex := 33, attributes := #[] }] 49 2 #[51] #[{ accessFlags := 18, nameIndex := 8, descriptorIndex := 21, attributes := #[] }, { accessFlags := 18, nameIndex := 16, descriptorIndex := 24, attributes := #[] }, { accessFlags := 26, nameIndex := 53, descriptorIndex := 54, attributes := #[] }])
  fields := #[{ name := "kind", type := (.object "com/example/protoloom/protoloom/report/Action$Kind"), accessFlags := 18, slot := 0, constantValue := 0 }, { name := "channel", type := (.object "java/lang/String"), accessFlags := 18, slot := 1, constantValue := 0 }, { name := "serialVersionUID", type := .long, accessFlags := 26, slot := 0, constantValue := 0 }]
  methods := #[k12m0, k12m1]
  instanceTypes := #[(.object "com/example/protoloom/protoloom/report/Action$Kind"), (.object "java/lang/String")]
  staticTypes := #[.long]
  resolved := Array.replicate 88 none
  statics := none }

def pool13 : Array CpInfo := pool [(2, .class_ 4), (1, u "java/lang/Object"), (0, u "<init>"), (0, u "()V"), (35, .class_ 44), (1, u "java/util/Objects"), (0, u "requireNonNull"), (48, u "(Ljava/lang/Object;Ljava/lang/String;)Ljava/lang/Object;")] 89

def k13m0 : Method := { name := "<init>", desc := "()V", sig := { parameters := [], returnType := none }, accessFlags := 2, code := none }
def k13c1 : Code := { maxStack := 3, maxLocals := 2, code := jdk_31_method_11_code, exceptionTable := #[], attributes := #[] }
def k13m1 : Method := { name := "requireNonNull", desc := "(Ljava/lang/Object;Ljava/lang/String;)Ljava/lang/Object;", sig := { parameters := [(.object "java/lang/Object"), (.object "java/lang/String")], returnType := some (.object "java/lang/Object") }, accessFlags := 9, code := some k13c1 }
/-- java/util/Objects -/
def k13 : Class := { plain "java/util/Objects" (some 0) with
  accessFlags := 49
  interfaces := #[]
  cf := some (fileOf pool13 42 #[] #[{ accessFlags := 2, nameIndex := 5, descriptorIndex := 6, attributes := #[] }, { accessFlags := 9, nameIndex := 45, descriptorIndex := 94, attributes := #[] }] 49 2 #[] #[])
  fields := #[]
  methods := #[k13m0, k13m1]
  instanceTypes := #[]
  staticTypes := #[]
  resolved := Array.replicate 184 none
  statics := none }

def pool14 : Array CpInfo := pool [(1, .class_ 2), (0, u "java/lang/Appendable"), (0, .class_ 4), (0, u "java/lang/Object")] 9

/-- java/lang/Appendable -/
def k14 : Class := { plain "java/lang/Appendable" (some 0) with
  accessFlags := 1537
  interfaces := #[]
  cf := some (fileOf pool14 1 #[] #[] 1537 3 #[] #[])
  fields := #[]
  methods := #[]
  instanceTypes := #[]
  staticTypes := #[]
  resolved := Array.replicate 14 none
  statics := none }

def pool15 : Array CpInfo := pool [(1, .class_ 2), (0, u "java/lang/String"), (0, .methodref 4 5), (0, .class_ 6), (0, .nameAndType 7 8), (0, u "java/lang/Object"), (0, u "<init>"), (0, u "()V"), (1, .class_ 12), (1, u "java/lang/AbstractStringBuilder"), (0, u "EMPTYVALUE"), (0, u "[B"), (0, .fieldref 10 16), (0, .nameAndType 17 14), (0, u "value"), (0, .fieldref 1 19), (0, .nameAndType 20 21), (0, u "COMPACT_STRINGS"), (0, u "Z"), (0, .fieldref 10 23), (0, .nameAndType 24 25), (0, u "coder"), (0, u "B"), (6, .methodref 1 33), (0, .nameAndType 34 35), (0, u "length"), (0, u "()I"), (4, .methodref 1 41), (0, .nameAndType 24 42), (0, u "()B"), (2, u "append"), (0, u "(Ljava/lang/String;)Ljava/lang/AbstractStringBuilder;"), (1, .class_ 49), (0, u "java/lang/CharSequence"), (19, u "(Ljava/lang/String;)V"), (5, u "maybeLatin1"), (3, .fieldref 10 80), (0, .nameAndType 81 82), (0, u "count"), (0, u "I"), (2, u "isLatin1"), (0, u "()Z"), (13, .methodref 10 101), (0, .nameAndType 102 103), (0, u "ensureCapacityInternal"), (0, u "(I)V"), (104, .methodref 10 209), (0, .nameAndType 210 211), (0, u "putStringAt"), (0, u "(ILjava/lang/String;)V"), (5, u "inflateIfNeededFor"), (2, .nameAndType 221 222), (0, u "getBytes"), (0, u "([BIB)V"), (174, .methodref 10 398), (0, .nameAndType 217 69), (0, .methodref 1 220), (3, u "()[B"), (40, .class_ 445), (0, u "java/lang/Appendable"), (106, u "getValue")] 56

def k15m0 : Method := { name := "<init>", desc := "()V", sig := { parameters := [], returnType := none }, accessFlags := 0, code := none }
def k15c1 : Code := { maxStack := 2, maxLocals := 2, code := jdk_68_method_2_code, exceptionTable := #[], attributes := #[] }
def k15m1 : Method := { name := "<init>", desc := "(I)V", sig := { parameters := [.int], returnType := none }, accessFlags := 0, code := some k15c1 }
def k15c2 : Code := { maxStack := 1, maxLocals := 1, code := jdk_68_method_6_code, exceptionTable := #[], attributes := #[] }
def k15m2 : Method := { name := "length", desc := "()I", sig := { parameters := [], returnType := some .int }, accessFlags := 1, code := some k15c2 }
def k15c3 : Code := { maxStack := 4, maxLocals := 3, code := jdk_68_method_9_code, exceptionTable := #[], attributes := #[] }
def k15m3 : Method := { name := "ensureCapacityInternal", desc := "(I)V", sig := { parameters := [.int], returnType := none }, accessFlags := 2, code := some k15c3 }
def k15c4 : Code := { maxStack := 3, maxLocals := 3, code := jdk_68_method_22_code, exceptionTable := #[], attributes := #[] }
def k15m4 : Method := { name := "append", desc := "(Ljava/lang/String;)Ljava/lang/AbstractStringBuilder;", sig := { parameters := [(.object "java/lang/String")], returnType := some (.object "java/lang/AbstractStringBuilder") }, accessFlags := 1, code := some k15c4 }
def k15c5 : Code := { maxStack := 1, maxLocals := 1, code := jdk_68_method_64_code, exceptionTable := #[], attributes := #[] }
def k15m5 : Method := { name := "getValue", desc := "()[B", sig := { parameters := [], returnType := some (.array .byte) }, accessFlags := 16, code := some k15c5 }
def k15c6 : Code := { maxStack := 1, maxLocals := 1, code := jdk_68_method_68_code, exceptionTable := #[], attributes := #[] }
def k15m6 : Method := { name := "isLatin1", desc := "()Z", sig := { parameters := [], returnType := some .boolean }, accessFlags := 16, code := some k15c6 }
def k15c7 : Code := { maxStack := 2, maxLocals := 2, code := jdk_68_method_71_code, exceptionTable := #[], attributes := #[] }
def k15m7 : Method := { name := "inflateIfNeededFor", desc := "(Ljava/lang/String;)V", sig := { parameters := [(.object "java/lang/String")], returnType := none }, accessFlags := 2, code := some k15c7 }
def k15c8 : Code := { maxStack := 4, maxLocals := 3, code := jdk_68_method_73_code, exceptionTable := #[], attributes := #[] }
def k15m8 : Method := { name := "putStringAt", desc := "(ILjava/lang/String;)V", sig := { parameters := [.int, (.object "java/lang/String")], returnType := none }, accessFlags := 2, code := some k15c8 }
/-- java/lang/AbstractStringBuilder -/
def k15 : Class := { plain "java/lang/AbstractStringBuilder" (some 0) with
  accessFlags := 1056
  interfaces := #[14, 7]
  cf := some (fileOf pool15 10 #[] #[{ accessFlags := 0, nameIndex := 7, descriptorIndex := 8, attributes := #[] }, { accessFlags := 0, nameIndex := 7, descriptorIndex := 103, attributes := #[] }, { accessFlags := 1, nameIndex := 34, descriptorIndex := 35, attributes := #[] }, { accessFlags := 2, nameIndex := 102, descriptorIndex := 103, attributes := #[] }, { accessFlags := 1, nameIndex := 45, descriptorIndex := 46, attributes := #[] }, { accessFlags := 16, nameIndex := 552, descriptorIndex := 403, attributes := #[] }, { accessFlags := 16, nameIndex := 85, descriptorIndex := 86, attributes := #[] }, { accessFlags := 2, nameIndex := 217, descriptorIndex := 69, attributes := #[] }, { accessFlags := 2, nameIndex := 210, descriptorIndex := 211, attributes := #[] }] 1056 4 #[444, 48] #[{ accessFlags := 0, nameIndex := 17, descriptorIndex := 14, attributes := #[] }, { accessFlags := 0, nameIndex := 24, descriptorIndex := 25, attributes := #[] }, { accessFlags := 0, nameIndex := 75, descriptorIndex := 21, attributes := #[] }, { accessFlags := 0, nameIndex := 81, descriptorIndex := 82, attributes := #[] }, { accessFlags := 26, nameIndex := 13, descriptorIndex := 14, attributes := #[] }])
  fields := #[{ name := "value", type := (.array .byte), accessFlags := 0, slot := 0, constantValue := 0 }, { name := "coder", type := .byte, accessFlags := 0, slot := 1, constantValue := 0 }, { name := "maybeLatin1", type := .boolean, accessFlags := 0, slot := 2, constantValue := 0 }, { name := "count", type := .int, accessFlags := 0, slot := 3, constantValue := 0 }, { name := "EMPTYVALUE", type := (.array .byte), accessFlags := 26, slot := 0, constantValue := 0 }]
  methods := #[k15m0, k15m1, k15m2, k15m3, k15m4, k15m5, k15m6, k15m7, k15m8]
  instanceTypes := #[(.array .byte), .byte, .boolean, .int]
  staticTypes := #[(.array .byte)]
  resolved := Array.replicate 609 none
  statics := none }

def pool16 : Array CpInfo := pool [(1, .methodref 2 3), (0, .class_ 4), (0, .nameAndType 5 6), (0, u "java/lang/AbstractStringBuilder"), (0, u "<init>"), (0, u "(I)V"), (11, .class_ 20), (1, u "java/lang/String"), (3, .class_ 26), (1, u "java/lang/StringBuilder"), (0, u "append"), (0, u "(Ljava/lang/String;)Ljava/lang/StringBuilder;"), (0, .methodref 2 30), (0, .nameAndType 27 31), (0, u "(Ljava/lang/String;)Ljava/lang/AbstractStringBuilder;"), (105, .methodref 18 138), (0, .nameAndType 5 139), (0, u "(Ljava/lang/StringBuilder;)V"), (5, u "()V"), (10, u "()I"), (186, .methodref 2 344), (0, .nameAndType 345 156), (0, u "length"), (3, .class_ 350), (0, u "java/lang/Appendable"), (0, .class_ 352), (0, u "java/io/Serializable"), (0, .class_ 354), (0, u "java/lang/Comparable"), (0, .class_ 356), (0, u "java/lang/CharSequence"), (0, u "serialVersionUID"), (0, u "J"), (40, u "toString"), (0, u "()Ljava/lang/String;")] 21

def k16c0 : Code := { maxStack := 2, maxLocals := 1, code := jdk_67_method_1_code, exceptionTable := #[], attributes := #[] }
def k16m0 : Method := { name := "<init>", desc := "()V", sig := { parameters := [], returnType := none }, accessFlags := 1, code := some k16c0 }
def k16c1 : Code := { maxStack := 2, maxLocals := 2, code := jdk_67_method_7_code, exceptionTable := #[], attributes := #[] }
def k16m1 : Method := { name := "append", desc := "(Ljava/lang/String;)Ljava/lang/StringBuilder;", sig := { parameters := [(.object "java/lang/String")], returnType := some (.object "java/lang/StringBuilder") }, accessFlags := 1, code := some k16c1 }
def k16c2 : Code := { maxStack := 3, maxLocals := 1, code := jdk_67_method_42_code, exceptionTable := #[], attributes := #[] }
def k16m2 : Method := { name := "toString", desc := "()Ljava/lang/String;", sig := { parameters := [], returnType := some (.object "java/lang/String") }, accessFlags := 1, code := some k16c2 }
def k16c3 : Code := { maxStack := 1, maxLocals := 1, code := jdk_67_method_93_code, exceptionTable := #[], attributes := #[] }
def k16m3 : Method := { name := "length", desc := "()I", sig := { parameters := [], returnType := some .int }, accessFlags := 4161, code := some k16c3 }
/-- java/lang/StringBuilder -/
def k16 : Class := { plain "java/lang/StringBuilder" (some 15) with
  accessFlags := 49
  interfaces := #[14, 4, 3, 7]
  cf := some (fileOf pool16 24 #[] #[{ accessFlags := 1, nameIndex := 5, descriptorIndex := 145, attributes := #[] }, { accessFlags := 1, nameIndex := 27, descriptorIndex := 28, attributes := #[] }, { accessFlags := 1, nameIndex := 399, descriptorIndex := 400, attributes := #[] }, { accessFlags := 4161, nameIndex := 345, descriptorIndex := 156, attributes := #[] }] 49 2 #[349, 351, 353, 355] #[{ accessFlags := 24, nameIndex := 357, descriptorIndex := 358, attributes := #[] }])
  fields := #[{ name := "serialVersionUID", type := .long, accessFlags := 24, slot := 0, constantValue := 0 }]
  methods := #[k16m0, k16m1, k16m2, k16m3]
  instanceTypes := #[(.array .byte), .byte, .boolean, .int]
  staticTypes := #[.long]
  resolved := Array.replicate 422 none
  statics := none }

def pool17 : Array CpInfo := pool [(2, .class_ 4), (1, u "java/lang/Object"), (0, u "<init>"), (0, u "()V"), (1, .class_ 10), (1, u "java/lang/System"), (0, u "allowSecurityManager"), (0, u "I"), (16, u "cons"), (0, u "Ljava/io/Console;"), (77, .class_ 110), (1, u "java/lang/System$CallersHolder"), (43, u "initialErrStream"), (0, u "Ljava/io/PrintStream;"), (19, u "security"), (0, u "Ljava/lang/SecurityManager;"), (31, .class_ 209), (0, u "java/lang/System$1"), (7, u "props"), (0, u "Ljava/util/Properties;"), (2, u "lineSeparator"), (0, u "Ljava/lang/String;"), (96, .class_ 321), (1, u "java/lang/System$LoggerFinder"), (5, .class_ 328), (0, u "java/lang/System$Logger"), (67, u "err"), (2, u "out"), (91, u "notSupportedJnuEncoding"), (15, u "in"), (17, u "initialIn"), (0, u "Ljava/io/InputStream;"), (35, u "bootLayer"), (0, u "Ljava/lang/ModuleLayer;"), (99, .class_ 664), (0, u "java/lang/System$2"), (9, u "NEVER"), (2, u "MAYBE"), (49, u "arraycopy"), (0, u "(Ljava/lang/Object;ILjava/lang/Object;II)V"), (72, .class_ 802), (0, u "java/lang/System$Logger$Level")] 31

def k17m0 : Method := { name := "<init>", desc := "()V", sig := { parameters := [], returnType := none }, accessFlags := 2, code := none }
def k17m1 : Method := { name := "arraycopy", desc := "(Ljava/lang/Object;ILjava/lang/Object;II)V", sig := { parameters := [(.object "java/lang/Object"), .int, (.object "java/lang/Object"), .int, .int], returnType := none }, accessFlags := 265, code := none }
/-- java/lang/System -/
def k17 : Class := { plain "java/lang/System" (some 0) with
  accessFlags := 49
  interfaces := #[]
  cf := some (fileOf pool17 8 #[.nestMembers #[319, 327, 801, 108, 663, 208]] #[{ accessFlags := 2, nameIndex := 5, descriptorIndex := 6, attributes := #[] }, { accessFlags := 265, nameIndex := 727, descriptorIndex := 728, attributes := #[] }] 49 2 #[] #[{ accessFlags := 25, nameIndex := 507, descriptorIndex := 526, attributes := #[] }, { accessFlags := 25, nameIndex := 399, descriptorIndex := 155, attributes := #[] }, { accessFlags := 25, nameIndex := 396, descriptorIndex := 155, attributes := #[] }, { accessFlags := 10, nameIndex := 525, descriptorIndex := 526, attributes := #[] }, { accessFlags := 26, nameIndex := 674, descriptorIndex := 12, attributes := #[] }, { accessFlags := 26, nameIndex := 677, descriptorIndex := 12, attributes := #[] }, { accessFlags := 10, nameIndex := 11, descriptorIndex := 12, attributes := #[] }, { accessFlags := 74, nameIndex := 175, descriptorIndex := 176, attributes := #[] }, { accessFlags := 10, nameIndex := 491, descriptorIndex := 222, attributes := #[] }, { accessFlags := 74, nameIndex := 29, descriptorIndex := 30, attributes := #[] }, { accessFlags := 74, nameIndex := 154, descriptorIndex := 155, attributes := #[] }, { accessFlags := 10, nameIndex := 217, descriptorIndex := 218, attributes := #[] }, { accessFlags := 10, nameIndex := 221, descriptorIndex := 222, attributes := #[] }, { accessFlags := 8, nameIndex := 562, descriptorIndex := 563, attributes := #[] }])
  fields := #[{ name := "in", type := (.object "java/io/InputStream"), accessFlags := 25, slot := 0, constantValue := 0 }, { name := "out", type := (.object "java/io/PrintStream"), accessFlags := 25, slot := 1, constantValue := 0 }, { name := "err", type := (.object "java/io/PrintStream"), accessFlags := 25, slot := 2, constantValue := 0 }, { name := "initialIn", type := (.object "java/io/InputStream"), accessFlags := 10, slot := 3, constantValue := 0 }, { name := "NEVER", type := .int, accessFlags := 26, slot := 4, constantValue := 0 }, { name := "MAYBE", type := .int, accessFlags := 26, slot := 5, constantValue := 0 }, { name := "allowSecurityManager", type := .int, accessFlags := 10, slot := 6, constantValue := 0 }, { name := "security", type := (.object "java/lang/SecurityManager"), accessFlags := 74, slot := 7, constantValue := 0 }, { name := "notSupportedJnuEncoding", type := (.object "java/lang/String"), accessFlags := 10, slot := 8, constantValue := 0 }, { name := "cons", type := (.object "java/io/Console"), accessFlags := 74, slot := 9, constantValue := 0 }, { name := "initialErrStream", type := (.object "java/io/PrintStream"), accessFlags := 74, slot := 10, constantValue := 0 }, { name := "props", type := (.object "java/util/Properties"), accessFlags := 10, slot := 11, constantValue := 0 }, { name := "lineSeparator", type := (.object "java/lang/String"), accessFlags := 10, slot := 12, constantValue := 0 }, { name := "bootLayer", type := (.object "java/lang/ModuleLayer"), accessFlags := 8, slot := 13, constantValue := 0 }]
  methods := #[k17m0, k17m1]
  instanceTypes := #[]
  staticTypes := #[(.object "java/io/InputStream"), (.object "java/io/PrintStream"), (.object "java/io/PrintStream"), (.object "java/io/InputStream"), .int, .int, .int, (.object "java/lang/SecurityManager"), (.object "java/lang/String"), (.object "java/io/Console"), (.object "java/io/PrintStream"), (.object "java/util/Properties"), (.object "java/lang/String"), (.object "java/lang/ModuleLayer")]
  resolved := Array.replicate 834 none
  statics := none }

def pool18 : Array CpInfo := pool [(2, .class_ 4), (1, u "java/lang/Object"), (0, u "<init>"), (0, u "()V"), (7, .class_ 16), (1, u "java/util/Arrays"), (57, .class_ 76), (1, u "java/util/Arrays$NaturalOrder"), (36, .class_ 115), (1, u "java/util/Arrays$LegacyMergeSort"), (1, u "Z"), (21, u "copyOfRange"), (10, .methodref 151 152), (0, .class_ 153), (0, .nameAndType 154 155), (0, u "java/lang/System"), (0, u "arraycopy"), (0, u "(Ljava/lang/Object;ILjava/lang/Object;II)V"), (148, .methodref 305 306), (0, .class_ 307), (0, .nameAndType 308 309), (0, u "java/lang/Math"), (0, u "min"), (0, u "(II)I"), (29, .methodref 14 340), (0, .nameAndType 341 342), (0, u "copyOfRangeByte"), (0, u "([BII)[B"), (0, .methodref 14 344), (0, .nameAndType 345 346), (0, u "checkLength"), (0, u "(II)V"), (28, .class_ 376), (0, u "java/util/Arrays$ArrayList"), (68, u "$assertionsDisabled"), (269, u "MIN_ARRAY_SORT_GRAN"), (0, u "I"), (2, u "INSERTIONSORT_THRESHOLD"), (255, .class_ 976), (0, u "java/util/Arrays$ArrayItr")] 52

def k18m0 : Method := { name := "<init>", desc := "()V", sig := { parameters := [], returnType := none }, accessFlags := 2, code := none }
def k18c1 : Code := { maxStack := 4, maxLocals := 2, code := jdk_65_method_131_code, exceptionTable := #[], attributes := #[] }
def k18m1 : Method := { name := "checkLength", desc := "(II)V", sig := { parameters := [.int, .int], returnType := none }, accessFlags := 10, code := some k18c1 }
def k18c2 : Code := { maxStack := 3, maxLocals := 3, code := jdk_65_method_132_code, exceptionTable := #[], attributes := #[] }
def k18m2 : Method := { name := "copyOfRange", desc := "([BII)[B", sig := { parameters := [(.array .byte), .int, .int], returnType := some (.array .byte) }, accessFlags := 9, code := some k18c2 }
def k18c3 : Code := { maxStack := 6, maxLocals := 5, code := jdk_65_method_133_code, exceptionTable := #[], attributes := #[] }
def k18m3 : Method := { name := "copyOfRangeByte", desc := "([BII)[B", sig := { parameters := [(.array .byte), .int, .int], returnType := some (.array .byte) }, accessFlags := 10, code := some k18c3 }
/-- java/util/Arrays -/
def k18 : Class := { plain "java/util/Arrays" (some 0) with
  accessFlags := 49
  interfaces := #[]
  cf := some (fileOf pool18 14 #[.nestMembers #[975, 375, 113, 74]] #[{ accessFlags := 2, nameIndex := 5, descriptorIndex := 6, attributes := #[] }, { accessFlags := 10, nameIndex := 345, descriptorIndex := 346, attributes := #[] }, { accessFlags := 9, nameIndex := 139, descriptorIndex := 342, attributes := #[] }, { accessFlags := 10, nameIndex := 341, descriptorIndex := 342, attributes := #[] }] 49 2 #[] #[{ accessFlags := 26, nameIndex := 715, descriptorIndex := 716, attributes := #[] }, { accessFlags := 26, nameIndex := 719, descriptorIndex := 716, attributes := #[] }, { accessFlags := 4120, nameIndex := 445, descriptorIndex := 117, attributes := #[] }])
  fields := #[{ name := "MIN_ARRAY_SORT_GRAN", type := .int, accessFlags := 26, slot := 0, constantValue := 0 }, { name := "INSERTIONSORT_THRESHOLD", type := .int, accessFlags := 26, slot := 1, constantValue := 0 }, { name := "$assertionsDisabled", type := .boolean, accessFlags := 4120, slot := 2, constantValue := 0 }]
  methods := #[k18m0, k18m1, k18m2, k18m3]
  instanceTypes := #[]
  staticTypes := #[.int, .int, .boolean]
  resolved := Array.replicate 1029 none
  statics := none }

def pool19 : Array CpInfo := pool [(1, .class_ 2), (0, u "java/lang/Math"), (1, .class_ 6), (1, u "java/lang/Object"), (0, u "<init>"), (0, u "()V"), (89, .class_ 100), (1, u "java/lang/Math$RandomNumberGeneratorHolder"), (71, u "negativeZeroFloatBits"), (0, u "J"), (2, u "negativeZeroDoubleBits"), (24, u "min"), (43, u "$assertionsDisabled"), (0, u "Z"), (88, u "(II)I"), (2, u "twoToTheDoubleScaleDown"), (0, u "D"), (4, u "twoToTheDoubleScaleUp"), (9, u "E"), (3, u "PI"), (2, u "TAU"), (2, u "DEGREES_TO_RADIANS"), (0, u "RADIANS_TO_DEGREES")] 94

def k19m0 : Method := { name := "<init>", desc := "()V", sig := { parameters := [], returnType := none }, accessFlags := 2, code := none }
def k19c1 : Code := { maxStack := 2, maxLocals := 2, code := jdk_29_method_69_code, exceptionTable := #[], attributes := #[] }
def k19m1 : Method := { name := "min", desc := "(II)I", sig := { parameters := [.int, .int], returnType := some .int }, accessFlags := 9, code := some k19c1 }
/-- java/lang/Math -/
def k19 : Class := { plain "java/lang/Math" (some 0) with
  accessFlags := 49
  interfaces := #[]
  cf := some (fileOf pool19 1 #[.nestMembers #[98]] #[{ accessFlags := 2, nameIndex := 7, descriptorIndex := 8, attributes := #[] }, { accessFlags := 9, nameIndex := 201, descriptorIndex := 335, attributes := #[] }] 49 4 #[] #[{ accessFlags := 25, nameIndex := 354, descriptorIndex := 339, attributes := #[] }, { accessFlags := 25, nameIndex := 358, descriptorIndex := 339, attributes := #[] }, { accessFlags := 25, nameIndex := 361, descriptorIndex := 339, attributes := #[] }, { accessFlags := 26, nameIndex := 364, descriptorIndex := 339, attributes := #[] }, { accessFlags := 26, nameIndex := 365, descriptorIndex := 339, attributes := #[] }, { accessFlags := 26, nameIndex := 172, descriptorIndex := 173, attributes := #[] }, { accessFlags := 26, nameIndex := 176, descriptorIndex := 173, attributes := #[] }, { accessFlags := 8, nameIndex := 344, descriptorIndex := 339, attributes := #[] }, { accessFlags := 8, nameIndex := 338, descriptorIndex := 339, attributes := #[] }, { accessFlags := 4120, nameIndex := 245, descriptorIndex := 246, attributes := #[] }])
  fields := #[{ name := "E", type := .double, accessFlags := 25, slot := 0, constantValue := 0 }, { name := "PI", type := .double, accessFlags := 25, slot := 1, constantValue := 0 }, { name := "TAU", type := .double, accessFlags := 25, slot := 2, constantValue := 0 }, { name := "DEGREES_TO_RADIANS", type := .double, accessFlags := 26, slot := 3, constantValue := 0 }, { name := "RADIANS_TO_DEGREES", type := .double, accessFlags := 26, slot := 4, constantValue := 0 }, { name := "negativeZeroFloatBits", type := .long, accessFlags := 26, slot := 5, constantValue := 0 }, { name := "negativeZeroDoubleBits", type := .long, accessFlags := 26, slot := 6, constantValue := 0 }, { name := "twoToTheDoubleScaleUp", type := .double, accessFlags := 8, slot := 7, constantValue := 0 }, { name := "twoToTheDoubleScaleDown", type := .double, accessFlags := 8, slot := 8, constantValue := 0 }, { name := "$assertionsDisabled", type := .boolean, accessFlags := 4120, slot := 9, constantValue := 0 }]
  methods := #[k19m0, k19m1]
  instanceTypes := #[]
  staticTypes := #[.double, .double, .double, .double, .double, .long, .long, .double, .double, .boolean]
  resolved := Array.replicate 460 none
  statics := none }

def pool20 : Array CpInfo := pool [(1, .class_ 2), (0, u "java/lang/String"), (1, .class_ 6), (1, u "java/lang/Object"), (0, u "<init>"), (0, u "()V"), (0, .methodref 1 10), (0, .nameAndType 11 12), (0, u "checkIndex"), (0, u "(II)V"), (1, .class_ 16), (1, u "java/lang/StringLatin1"), (36, u "([BI)C"), (67, u "$assertionsDisabled"), (0, u "Z"), (98, .class_ 223), (1, u "java/lang/StringLatin1$LinesSpliterator"), (28, u "charAt"), (137, .class_ 391), (0, u "java/lang/StringLatin1$CharsSpliterator")] 3

def k20m0 : Method := { name := "<init>", desc := "()V", sig := { parameters := [], returnType := none }, accessFlags := 0, code := none }
def k20c1 : Code := { maxStack := 2, maxLocals := 2, code := jdk_43_method_2_code, exceptionTable := #[], attributes := #[] }
def k20m1 : Method := { name := "charAt", desc := "([BI)C", sig := { parameters := [(.array .byte), .int], returnType := some .char }, accessFlags := 9, code := some k20c1 }
/-- java/lang/StringLatin1 -/
def k20 : Class := { plain "java/lang/StringLatin1" (some 0) with
  accessFlags := 48
  interfaces := #[]
  cf := some (fileOf pool20 14 #[.nestMembers #[390, 221]] #[{ accessFlags := 0, nameIndex := 7, descriptorIndex := 8, attributes := #[] }, { accessFlags := 9, nameIndex := 252, descriptorIndex := 53, attributes := #[] }] 48 4 #[] #[{ accessFlags := 4120, nameIndex := 121, descriptorIndex := 122, attributes := #[] }])
  fields := #[{ name := "$assertionsDisabled", type := .boolean, accessFlags := 4120, slot := 0, constantValue := 0 }]
  methods := #[k20m0, k20m1]
  instanceTypes := #[]
  staticTypes := #[.boolean]
  resolved := Array.replicate 395 none
  statics := none }

def pool21 : Array CpInfo := pool [(2, .class_ 4), (1, u "java/lang/Object"), (0, u "<init>"), (0, u "()V"), (17, .class_ 26), (1, u "jdk/internal/util/Preconditions"), (6, u "checkIndex"), (21, .class_ 56), (0, u "jdk/internal/util/Preconditions$4"), (57, .class_ 115), (0, u "jdk/internal/util/Preconditions$1"), (7, u "SIOOBE_FORMATTER"), (0, u "Ljava/util/function/BiFunction;"), (0, .class_ 126), (0, u "jdk/internal/util/Preconditions$2"), (3, u "AIOOBE_FORMATTER"), (0, .class_ 132), (0, u "jdk/internal/util/Preconditions$3"), (3, u "IOOBE_FORMATTER"), (41, u "(IILjava/util/function/BiFunction;)I")] 15

def k21m0 : Method := { name := "<init>", desc := "()V", sig := { parameters := [], returnType := none }, accessFlags := 1, code := none }
def k21c1 : Code := { maxStack := 3, maxLocals := 3, code := jdk_41_method_11_code, exceptionTable := #[], attributes := #[] }
def k21m1 : Method := { name := "checkIndex", desc := "(IILjava/util/function/BiFunction;)I", sig := { parameters := [.int, .int, (.object "java/util/function/BiFunction")], returnType := some .int }, accessFlags := 9, code := some k21c1 }
/-- jdk/internal/util/Preconditions -/
def k21 : Class := { plain "jdk/internal/util/Preconditions" (some 0) with
  accessFlags := 33
  interfaces := #[]
  cf := some (fileOf pool21 24 #[.nestMembers #[55, 131, 125, 114]] #[{ accessFlags := 1, nameIndex := 5, descriptorIndex := 6, attributes := #[] }, { accessFlags := 9, nameIndex := 33, descriptorIndex := 178, attributes := #[] }] 33 2 #[] #[{ accessFlags := 25, nameIndex := 123, descriptorIndex := 124, attributes := #[] }, { accessFlags := 25, nameIndex := 130, descriptorIndex := 124, attributes := #[] }, { accessFlags := 25, nameIndex := 136, descriptorIndex := 124, attributes := #[] }])
  fields := #[{ name := "SIOOBE_FORMATTER", type := (.object "java/util/function/BiFunction"), accessFlags := 25, slot := 0, constantValue := 0 }, { name := "AIOOBE_FORMATTER", type := (.object "java/util/function/BiFunction"), accessFlags := 25, slot := 1, constantValue := 0 }, { name := "IOOBE_FORMATTER", type := (.object "java/util/function/BiFunction"), accessFlags := 25, slot := 2, constantValue := 0 }]
  methods := #[k21m0, k21m1]
  instanceTypes := #[]
  staticTypes := #[(.object "java/util/function/BiFunction"), (.object "java/util/function/BiFunction"), (.object "java/util/function/BiFunction")]
  resolved := Array.replicate 194 none
  statics := some 2 }

def pool22 : Array CpInfo := pool [(9, u "<init>"), (6, .class_ 18), (1, u "java/lang/Object"), (0, u "()V"), (1, .class_ 23), (1, u "jdk/internal/util/ArraysSupport"), (0, u "LOG2_ARRAY_LONG_INDEX_SCALE"), (0, u "I"), (2, u "U"), (0, u "Ljdk/internal/misc/Unsafe;"), (8, u "BIG_ENDIAN"), (0, u "Z"), (8, u "LOG2_BYTE_BIT_SIZE"), (4, u "LOG2_ARRAY_INT_INDEX_SCALE"), (54, u "JLA"), (0, u "Ljdk/internal/access/JavaLangAccess;"), (11, u "LOG2_ARRAY_BOOLEAN_INDEX_SCALE"), (9, u "LOG2_ARRAY_BYTE_INDEX_SCALE"), (5, u "LOG2_ARRAY_CHAR_INDEX_SCALE"), (5, u "LOG2_ARRAY_SHORT_INDEX_SCALE"), (18, u "LOG2_ARRAY_FLOAT_INDEX_SCALE"), (24, u "LOG2_ARRAY_DOUBLE_INDEX_SCALE"), (89, u "T_BOOLEAN"), (2, u "T_CHAR"), (1, u "T_FLOAT"), (1, u "T_DOUBLE"), (1, u "T_BYTE"), (1, u "T_SHORT"), (1, u "T_INT"), (1, u "T_LONG"), (1, u "SOFT_MAX_ARRAY_LENGTH")] 83

def k22m0 : Method := { name := "<init>", desc := "()V", sig := { parameters := [], returnType := none }, accessFlags := 2, code := none }
/-- jdk/internal/util/ArraysSupport -/
def k22 : Class := { plain "jdk/internal/util/ArraysSupport" (some 0) with
  accessFlags := 33
  interfaces := #[]
  cf := some (fileOf pool22 21 #[] #[{ accessFlags := 2, nameIndex := 9, descriptorIndex := 19, attributes := #[] }] 33 16 #[] #[{ accessFlags := 24, nameIndex := 28, descriptorIndex := 29, attributes := #[] }, { accessFlags := 26, nameIndex := 38, descriptorIndex := 39, attributes := #[] }, { accessFlags := 25, nameIndex := 121, descriptorIndex := 25, attributes := #[] }, { accessFlags := 25, nameIndex := 131, descriptorIndex := 25, attributes := #[] }, { accessFlags := 25, nameIndex := 137, descriptorIndex := 25, attributes := #[] }, { accessFlags := 25, nameIndex := 143, descriptorIndex := 25, attributes := #[] }, { accessFlags := 25, nameIndex := 53, descriptorIndex := 25, attributes := #[] }, { accessFlags := 25, nameIndex := 24, descriptorIndex := 25, attributes := #[] }, { accessFlags := 25, nameIndex := 162, descriptorIndex := 25, attributes := #[] }, { accessFlags := 25, nameIndex := 187, descriptorIndex := 25, attributes := #[] }, { accessFlags := 26, nameIndex := 48, descriptorIndex := 25, attributes := #[] }, { accessFlags := 25, nameIndex := 277, descriptorIndex := 25, attributes := #[] }, { accessFlags := 25, nameIndex := 280, descriptorIndex := 25, attributes := #[] }, { accessFlags := 25, nameIndex := 282, descriptorIndex := 25, attributes := #[] }, { accessFlags := 25, nameIndex := 284, descriptorIndex := 25, attributes := #[] }, { accessFlags := 25, nameIndex := 286, descriptorIndex := 25, attributes := #[] }, { accessFlags := 25, nameIndex := 288, descriptorIndex := 25, attributes := #[] }, { accessFlags := 25, nameIndex := 290, descriptorIndex := 25, attributes := #[] }, { accessFlags := 25, nameIndex := 292, descriptorIndex := 25, attributes := #[] }, { accessFlags := 26, nameIndex := 108, descriptorIndex := 109, attributes := #[] }, { accessFlags := 25, nameIndex := 294, descriptorIndex := 25, attributes := #[] }])
  fields := #[{ name := "U", type := (.object "jdk/internal/misc/Unsafe"), accessFlags := 24, slot := 0, constantValue := 0 }, { name := "BIG_ENDIAN", type := .boolean, accessFlags := 26, slot := 1, constantValue := 0 }, { name := "LOG2_ARRAY_BOOLEAN_INDEX_SCALE", type := .int, accessFlags := 25, slot := 2, constantValue := 0 }, { name := "LOG2_ARRAY_BYTE_INDEX_SCALE", type := .int, accessFlags := 25, slot := 3, constantValue := 0 }, { name := "LOG2_ARRAY_CHAR_INDEX_SCALE", type := .int, accessFlags := 25, slot := 4, constantValue := 0 }, { name := "LOG2_ARRAY_SHORT_INDEX_SCALE", type := .int, accessFlags := 25, slot := 5, constantValue := 0 }, { name := "LOG2_ARRAY_INT_INDEX_SCALE", type := .int, accessFlags := 25, slot := 6, constantValue := 0 }, { name := "LOG2_ARRAY_LONG_INDEX_SCALE", type := .int, accessFlags := 25, slot := 7, constantValue := 0 }, { name := "LOG2_ARRAY_FLOAT_INDEX_SCALE", type := .int, accessFlags := 25, slot := 8, constantValue := 0 }, { name := "LOG2_ARRAY_DOUBLE_INDEX_SCALE", type := .int, accessFlags := 25, slot := 9, constantValue := 0 }, { name := "LOG2_BYTE_BIT_SIZE", type := .int, accessFlags := 26, slot := 10, constantValue := 0 }, { name := "T_BOOLEAN", type := .int, accessFlags := 25, slot := 11, constantValue := 0 }, { name := "T_CHAR", type := .int, accessFlags := 25, slot := 12, constantValue := 0 }, { name := "T_FLOAT", type := .int, accessFlags := 25, slot := 13, constantValue := 0 }, { name := "T_DOUBLE", type := .int, accessFlags := 25, slot := 14, constantValue := 0 }, { name := "T_BYTE", type := .int, accessFlags := 25, slot := 15, constantValue := 0 }, { name := "T_SHORT", type := .int, accessFlags := 25, slot := 16, constantValue := 0 }, { name := "T_INT", type := .int, accessFlags := 25, slot := 17, constantValue := 0 }, { name := "T_LONG", type := .int, accessFlags := 25, slot := 18, constantValue := 0 }, { name := "JLA", type := (.object "jdk/internal/access/JavaLangAccess"), accessFlags := 26, slot := 19, constantValue := 0 }, { name := "SOFT_MAX_ARRAY_LENGTH", type := .int, accessFlags := 25, slot := 20, constantValue := 0 }]
  methods := #[k22m0]
  instanceTypes := #[]
  staticTypes := #[(.object "jdk/internal/misc/Unsafe"), .boolean, .int, .int, .int, .int, .int, .int, .int, .int, .int, .int, .int, .int, .int, .int, .int, .int, .int, (.object "jdk/internal/access/JavaLangAccess"), .int]
  resolved := Array.replicate 378 none
  statics := none }

def pool23 : Array CpInfo := pool [(1, u "java/lang/Cloneable"), (0, .class_ 1), (0, u "java/lang/Object"), (0, .class_ 3)] 3

/-- java/lang/Cloneable -/
def k23 : Class := { plain "java/lang/Cloneable" (some 0) with
  accessFlags := 1537
  interfaces := #[]
  cf := some (fileOf pool23 2 #[] #[] 1537 4 #[] #[])
  fields := #[]
  methods := #[]
  instanceTypes := #[]
  staticTypes := #[]
  resolved := Array.replicate 8 none
  statics := none }

/-- the primitive byte -/
def k24 : Class := { plain "byte" none with kind := .primitive 'B', accessFlags := 0x411 }
/-- [B -/
def k25 : Class := { plain "[B" (some 0) with kind := .array 24 .byte, interfaces := #[23, 4], accessFlags := 1041 }

/-- the primitive char -/
def k26 : Class := { plain "char" none with kind := .primitive 'C', accessFlags := 0x411 }
/-- [C -/
def k27 : Class := { plain "[C" (some 0) with kind := .array 26 .char, interfaces := #[23, 4], accessFlags := 1041 }

/-- the primitive int -/
def k28 : Class := { plain "int" none with kind := .primitive 'I', accessFlags := 0x411 }
/-- [I -/
def k29 : Class := { plain "[I" (some 0) with kind := .array 28 .int, interfaces := #[23, 4], accessFlags := 1041 }

def heap : Heap := #[{ cls := 6, slots := #[.ref 7, .ref 8, .null], vm := .statics 6 },
  { cls := 9, slots := #[.long 0, .int 1, .null, .int 0, .null, .int 0, .int 0], vm := .statics 9 },
  { cls := 21, slots := #[.null, .null, .null], vm := .statics 21 },
  { cls := 25, slots := #[.int 115, .int 101, .int 110, .int 100], vm := .none },
  { cls := 25, slots := #[.int 114, .int 101, .int 99, .int 101, .int 105, .int 118, .int 101], vm := .none },
  { cls := 9, slots := #[.ref 3, .int 0, .int 0, .int 0], vm := .none },
  { cls := 9, slots := #[.ref 4, .int 0, .int 0, .int 0], vm := .none },
  { cls := 6, slots := #[.null, .int 0, .int 0, .ref 5], vm := .none },
  { cls := 6, slots := #[.null, .int 1, .int 0, .ref 6], vm := .none }]
def classes : Array Class := #[k0, k1, k2, k3, k4, k5, k6, k7, k8, k9, k10, k11, k12, k13, k14, k15, k16, k17, k18, k19, k20, k21, k22, k23, k24, k25, k26, k27, k28, k29]
def interned : List (Array UInt16 × Addr) := []
def slotsUsed : Nat := 40
def theMethod : MethodId := ⟨1, 1⟩
def args0 : Array Value := #[.int 5, .int 6, .int 7, .int 8, .int 9]
def aboutOver (below : List Frame) : State where
  vm := { classes := classes, interned := interned.toArray }
  heap := heap
  slotsUsed := slotsUsed
  threads := #[{ frames := .invoking theMethod args0 :: below }]
def below0 : List Frame := [.native { method := ⟨0, 0⟩, args := #[] }]
def about1 : State := aboutOver below0
def p0 : Program := .bare "" "" ""
def e0 : Env := launch0.env 0 0 0
theorem w_frames : about1.frames = Frame.invoking theMethod args0 :: below0 := rfl
set_option maxRecDepth 65536 in
theorem w_args : argsFit about1.vm theMethod args0 = true := by decide +kernel
set_option maxRecDepth 65536 in
theorem w_heap : heapFits about1 = true := by decide +kernel
set_option maxRecDepth 65536 in
theorem w_runnable : about1.curStatus? = some .runnable := by decide +kernel
set_option maxRecDepth 65536 in
theorem w_alone : about1.alone = true := by decide +kernel
set_option maxRecDepth 65536 in
theorem w_named : about1.methodNamed? x = some theMethod := by decide +kernel
set_option maxRecDepth 65536 in
theorem w_hears : about1.hears theMethod below0 = true := by decide +kernel
set_option maxRecDepth 65536 in
theorem w_ripe : about1.ripe theMethod args0 below0 = true := by decide +kernel
theorem w_running : about1.status = .running := rfl
set_option maxRecDepth 65536 in
theorem w_room : about1.hasRoom e0.platform room_1 = true :=
  launch0.hasRoom_least _ room_1 (by decide +kernel) (by decide +kernel) (by decide +kernel) (by decide +kernel) (by decide +kernel) (by decide +kernel)
theorem allAtoms_all (ts : List Jvm.Cond) (a : Array Jvm.Value) (st : Jvm.State) : (allAtoms ts).before a st = ts.all (fun c => c.before a st) := by
  induction ts with
  | nil => rfl
  | cons c t ih =>
    show (Jvm.Cond.and c (allAtoms t)).before a st = _
    rw [Jvm.Cond.before_and, ih, List.all_cons]
def words1 : List Jvm.Cond := Jvm.Cond.code x code maxLocals ret :: tables_1
/-- a 'code' word, met by the world's own term for the bytes: nothing is compared byte by byte -/
theorem code_word {y : MethodName} {bytes : ByteArray} {mx : Nat} {rt : Option FieldType} {a : Array Value} {s : State} {m : MethodId} {meth : Method} {c : Code} (h1 : s.methodNamed? y = some m) (h2 : s.vm.method? m = some meth) (h3 : meth.code = some c) (h4 : c.code = bytes)
    (h5 : (c.maxLocals == mx && c.exceptionTable.isEmpty && decide (c.maxStack ≤ mostOperands) && decide (meth.sig.returnType = rt) && !meth.locks && decide (parseMethodDescriptor y.desc = some meth.sig)) = true) : (Jvm.Cond.code y bytes mx rt).before a s = true := by
  simp only [Bool.and_eq_true, beq_iff_eq, Bool.not_eq_true', decide_eq_true_eq] at h5
  obtain ⟨⟨⟨⟨⟨g1, g2⟩, g3⟩, g4⟩, g5⟩, g6⟩ := h5
  simp [Cond.before, Cond.holds, Cond.value, h1, h2, h3, h4, g1, g2, g3, g4, g5, g6]
def isCode : Jvm.Cond → Bool
  | .code _ _ _ _ => true
  | _ => false
theorem all_split {L : List Jvm.Cond} {P : Jvm.Cond → Bool} (h1 : L.all (fun c => isCode c || P c) = true) (h2 : ∀ c ∈ L.filter isCode, P c = true) : L.all P = true := by
  refine List.all_eq_true.mpr fun c hc => ?_
  have h := List.all_eq_true.mp h1 c hc
  rcases Bool.eq_false_or_eq_true (isCode c) with hi | hi
  · exact h2 c (List.mem_filter.mpr ⟨hc, hi⟩)
  · simpa [hi] using h
set_option maxRecDepth 65536 in
theorem w_c0 : (Jvm.Cond.code x code maxLocals ret).before args0 about1 = true := code_word (m := ⟨1, 1⟩) (meth := k1m1) (c := k1c1) (by decide +kernel) rfl rfl rfl (by decide +kernel)
set_option maxRecDepth 65536 in
theorem w_c1 : (Jvm.Cond.code ({ cls := "com/example/protoloom/protoloom/report/ActionToStringPinLaw", name := "channel", desc := "(ICCC)Ljava/lang/String;" } : Jvm.MethodName) method_3_code (5 : Nat) (Option.some (Jvm.ClassFile.FieldType.object "java/lang/String"))).before args0 about1 = true := code_word (m := ⟨1, 2⟩) (meth := k1m2) (c := k1c2) (by decide +kernel) rfl rfl rfl (by decide +kernel)
set_option maxRecDepth 65536 in
theorem w_c2 : (Jvm.Cond.code ({ cls := "java/lang/String", name := "<init>", desc := "([C)V" } : Jvm.MethodName) jdk_42_method_3_code (2 : Nat) (Option.none : Option Jvm.ClassFile.FieldType)).before args0 about1 = true := code_word (m := ⟨9, 1⟩) (meth := k9m1) (c := k9c1) (by decide +kernel) rfl rfl rfl (by decide +kernel)
set_option maxRecDepth 65536 in
theorem w_c3 : (Jvm.Cond.code ({ cls := "java/lang/String", name := "<init>", desc := "([CIILjava/lang/Void;)V" } : Jvm.MethodName) jdk_42_method_149_code (6 : Nat) (Option.none : Option Jvm.ClassFile.FieldType)).before args0 about1 = true := code_word (m := ⟨9, 6⟩) (meth := k9m6) (c := k9c6) (by decide +kernel) rfl rfl rfl (by decide +kernel)
set_option maxRecDepth 65536 in
theorem w_c4 : (Jvm.Cond.code ({ cls := "java/lang/Object", name := "<init>", desc := "()V" } : Jvm.MethodName) object_method_1_code (1 : Nat) (Option.none : Option Jvm.ClassFile.FieldType)).before args0 about1 = true := code_word (m := ⟨0, 0⟩) (meth := k0m0) (c := k0c0) (by decide +kernel) rfl rfl rfl (by decide +kernel)
set_option maxRecDepth 65536 in
theorem w_c5 : (Jvm.Cond.code ({ cls := "java/lang/StringUTF16", name := "compress", desc := "([CII)[B" } : Jvm.MethodName) jdk_52_method_16_code (6 : Nat) (Option.some (Jvm.ClassFile.FieldType.array Jvm.ClassFile.FieldType.byte))).before args0 about1 = true := code_word (m := ⟨10, 2⟩) (meth := k10m2) (c := k10c2) (by decide +kernel) rfl rfl rfl (by decide +kernel)
set_option maxRecDepth 65536 in
theorem w_c6 : (Jvm.Cond.code ({ cls := "java/lang/StringUTF16", name := "compress", desc := "([CI[BII)I" } : Jvm.MethodName) jdk_52_method_21_code (7 : Nat) (Option.some Jvm.ClassFile.FieldType.int)).before args0 about1 = true := code_word (m := ⟨10, 3⟩) (meth := k10m3) (c := k10c3) (by decide +kernel) rfl rfl rfl (by decide +kernel)
set_option maxRecDepth 65536 in
theorem w_c7 : (Jvm.Cond.code ({ cls := "java/lang/StringUTF16", name := "coderFromArrayLen", desc := "([BI)B" } : Jvm.MethodName) jdk_52_method_15_code (2 : Nat) (Option.some Jvm.ClassFile.FieldType.byte)).before args0 about1 = true := code_word (m := ⟨10, 1⟩) (meth := k10m1) (c := k10c1) (by decide +kernel) rfl rfl rfl (by decide +kernel)
set_option maxRecDepth 65536 in
theorem w_c8 : (Jvm.Cond.code ({ cls := "com/example/protoloom/protoloom/report/Action", name := "<init>", desc := "(Lcom/example/protoloom/protoloom/report/Action$Kind;Ljava/lang/String;)V" } : Jvm.MethodName) prog_28_method_1_code (3 : Nat) (Option.none : Option Jvm.ClassFile.FieldType)).before args0 about1 = true := code_word (m := ⟨12, 0⟩) (meth := k12m0) (c := k12c0) (by decide +kernel) rfl rfl rfl (by decide +kernel)
set_option maxRecDepth 65536 in
theorem w_c9 : (Jvm.Cond.code ({ cls := "java/lang/Record", name := "<init>", desc := "()V" } : Jvm.MethodName) jdk_30_method_1_code (1 : Nat) (Option.none : Option Jvm.ClassFile.FieldType)).before args0 about1 = true := code_word (m := ⟨11, 0⟩) (meth := k11m0) (c := k11c0) (by decide +kernel) rfl rfl rfl (by decide +kernel)
set_option maxRecDepth 65536 in
theorem w_c10 : (Jvm.Cond.code ({ cls := "java/util/Objects", name := "requireNonNull", desc := "(Ljava/lang/Object;Ljava/lang/String;)Ljava/lang/Object;" } : Jvm.MethodName) jdk_31_method_11_code (2 : Nat) (Option.some (Jvm.ClassFile.FieldType.object "java/lang/Object"))).before args0 about1 = true := code_word (m := ⟨13, 1⟩) (meth := k13m1) (c := k13c1) (by decide +kernel) rfl rfl rfl (by decide +kernel)
set_option maxRecDepth 65536 in
theorem w_c11 : (Jvm.Cond.code ({ cls := "com/example/protoloom/protoloom/report/Action", name := "toString", desc := "()Ljava/lang/String;" } : Jvm.MethodName) prog_28_method_2_code (1 : Nat) (Option.some (Jvm.ClassFile.FieldType.object "java/lang/String"))).before args0 about1 = true := code_word (m := ⟨12, 1⟩) (meth := k12m1) (c := k12c1) (by decide +kernel) rfl rfl rfl (by decide +kernel)
set_option maxRecDepth 65536 in
theorem w_c12 : (Jvm.Cond.code ({ cls := "java/lang/StringBuilder", name := "<init>", desc := "()V" } : Jvm.MethodName) jdk_67_method_1_code (1 : Nat) (Option.none : Option Jvm.ClassFile.FieldType)).before args0 about1 = true := code_word (m := ⟨16, 0⟩) (meth := k16m0) (c := k16c0) (by decide +kernel) rfl rfl rfl (by decide +kernel)
set_option maxRecDepth 65536 in
theorem w_c13 : (Jvm.Cond.code ({ cls := "java/lang/AbstractStringBuilder", name := "<init>", desc := "(I)V" } : Jvm.MethodName) jdk_68_method_2_code (2 : Nat) (Option.none : Option Jvm.ClassFile.FieldType)).before args0 about1 = true := code_word (m := ⟨15, 1⟩) (meth := k15m1) (c := k15c1) (by decide +kernel) rfl rfl rfl (by decide +kernel)
set_option maxRecDepth 65536 in
theorem w_c14 : (Jvm.Cond.code ({ cls := "com/example/protoloom/protoloom/report/Action$Kind", name := "verb", desc := "()Ljava/lang/String;" } : Jvm.MethodName) prog_29_method_4_code (1 : Nat) (Option.some (Jvm.ClassFile.FieldType.object "java/lang/String"))).before args0 about1 = true := code_word (m := ⟨6, 0⟩) (meth := k6m0) (c := k6c0) (by decide +kernel) rfl rfl rfl (by decide +kernel)
set_option maxRecDepth 65536 in
theorem w_c15 : (Jvm.Cond.code ({ cls := "java/lang/StringBuilder", name := "append", desc := "(Ljava/lang/String;)Ljava/lang/StringBuilder;" } : Jvm.MethodName) jdk_67_method_7_code (2 : Nat) (Option.some (Jvm.ClassFile.FieldType.object "java/lang/StringBuilder"))).before args0 about1 = true := code_word (m := ⟨16, 1⟩) (meth := k16m1) (c := k16c1) (by decide +kernel) rfl rfl rfl (by decide +kernel)
set_option maxRecDepth 65536 in
theorem w_c16 : (Jvm.Cond.code ({ cls := "java/lang/AbstractStringBuilder", name := "append", desc := "(Ljava/lang/String;)Ljava/lang/AbstractStringBuilder;" } : Jvm.MethodName) jdk_68_method_22_code (3 : Nat) (Option.some (Jvm.ClassFile.FieldType.object "java/lang/AbstractStringBuilder"))).before args0 about1 = true := code_word (m := ⟨15, 4⟩) (meth := k15m4) (c := k15c4) (by decide +kernel) rfl rfl rfl (by decide +kernel)
set_option maxRecDepth 65536 in
theorem w_c17 : (Jvm.Cond.code ({ cls := "java/lang/String", name := "length", desc := "()I" } : Jvm.MethodName) jdk_42_method_54_code (1 : Nat) (Option.some Jvm.ClassFile.FieldType.int)).before args0 about1 = true := code_word (m := ⟨9, 3⟩) (meth := k9m3) (c := k9c3) (by decide +kernel) rfl rfl rfl (by decide +kernel)
set_option maxRecDepth 65536 in
theorem w_c18 : (Jvm.Cond.code ({ cls := "java/lang/String", name := "coder", desc := "()B" } : Jvm.MethodName) jdk_42_method_152_code (1 : Nat) (Option.some Jvm.ClassFile.FieldType.byte)).before args0 about1 = true := code_word (m := ⟨9, 8⟩) (meth := k9m8) (c := k9c8) (by decide +kernel) rfl rfl rfl (by decide +kernel)
set_option maxRecDepth 65536 in
theorem w_c19 : (Jvm.Cond.code ({ cls := "java/lang/AbstractStringBuilder", name := "ensureCapacityInternal", desc := "(I)V" } : Jvm.MethodName) jdk_68_method_9_code (3 : Nat) (Option.none : Option Jvm.ClassFile.FieldType)).before args0 about1 = true := code_word (m := ⟨15, 3⟩) (meth := k15m3) (c := k15c3) (by decide +kernel) rfl rfl rfl (by decide +kernel)
set_option maxRecDepth 65536 in
theorem w_c20 : (Jvm.Cond.code ({ cls := "java/lang/AbstractStringBuilder", name := "putStringAt", desc := "(ILjava/lang/String;)V" } : Jvm.MethodName) jdk_68_method_73_code (3 : Nat) (Option.none : Option Jvm.ClassFile.FieldType)).before args0 about1 = true := code_word (m := ⟨15, 8⟩) (meth := k15m8) (c := k15c8) (by decide +kernel) rfl rfl rfl (by decide +kernel)
set_option maxRecDepth 65536 in
theorem w_c21 : (Jvm.Cond.code ({ cls := "java/lang/AbstractStringBuilder", name := "inflateIfNeededFor", desc := "(Ljava/lang/String;)V" } : Jvm.MethodName) jdk_68_method_71_code (2 : Nat) (Option.none : Option Jvm.ClassFile.FieldType)).before args0 about1 = true := code_word (m := ⟨15, 7⟩) (meth := k15m7) (c := k15c7) (by decide +kernel) rfl rfl rfl (by decide +kernel)
set_option maxRecDepth 65536 in
theorem w_c22 : (Jvm.Cond.code ({ cls := "java/lang/String", name := "getBytes", desc := "([BIB)V" } : Jvm.MethodName) jdk_42_method_147_code (4 : Nat) (Option.none : Option Jvm.ClassFile.FieldType)).before args0 about1 = true := code_word (m := ⟨9, 5⟩) (meth := k9m5) (c := k9c5) (by decide +kernel) rfl rfl rfl (by decide +kernel)
set_option maxRecDepth 65536 in
theorem w_c23 : (Jvm.Cond.code ({ cls := "java/lang/StringBuilder", name := "toString", desc := "()Ljava/lang/String;" } : Jvm.MethodName) jdk_67_method_42_code (1 : Nat) (Option.some (Jvm.ClassFile.FieldType.object "java/lang/String"))).before args0 about1 = true := code_word (m := ⟨16, 2⟩) (meth := k16m2) (c := k16c2) (by decide +kernel) rfl rfl rfl (by decide +kernel)
set_option maxRecDepth 65536 in
theorem w_c24 : (Jvm.Cond.code ({ cls := "java/lang/String", name := "<init>", desc := "(Ljava/lang/StringBuilder;)V" } : Jvm.MethodName) jdk_42_method_53_code (2 : Nat) (Option.none : Option Jvm.ClassFile.FieldType)).before args0 about1 = true := code_word (m := ⟨9, 2⟩) (meth := k9m2) (c := k9c2) (by decide +kernel) rfl rfl rfl (by decide +kernel)
set_option maxRecDepth 65536 in
theorem w_c25 : (Jvm.Cond.code ({ cls := "java/lang/String", name := "<init>", desc := "(Ljava/lang/AbstractStringBuilder;Ljava/lang/Void;)V" } : Jvm.MethodName) jdk_42_method_150_code (5 : Nat) (Option.none : Option Jvm.ClassFile.FieldType)).before args0 about1 = true := code_word (m := ⟨9, 7⟩) (meth := k9m7) (c := k9c7) (by decide +kernel) rfl rfl rfl (by decide +kernel)
set_option maxRecDepth 65536 in
theorem w_c26 : (Jvm.Cond.code ({ cls := "java/lang/AbstractStringBuilder", name := "getValue", desc := "()[B" } : Jvm.MethodName) jdk_68_method_64_code (1 : Nat) (Option.some (Jvm.ClassFile.FieldType.array Jvm.ClassFile.FieldType.byte))).before args0 about1 = true := code_word (m := ⟨15, 5⟩) (meth := k15m5) (c := k15c5) (by decide +kernel) rfl rfl rfl (by decide +kernel)
set_option maxRecDepth 65536 in
theorem w_c27 : (Jvm.Cond.code ({ cls := "java/lang/StringBuilder", name := "length", desc := "()I" } : Jvm.MethodName) jdk_67_method_93_code (1 : Nat) (Option.some Jvm.ClassFile.FieldType.int)).before args0 about1 = true := code_word (m := ⟨16, 3⟩) (meth := k16m3) (c := k16c3) (by decide +kernel) rfl rfl rfl (by decide +kernel)
set_option maxRecDepth 65536 in
theorem w_c28 : (Jvm.Cond.code ({ cls := "java/lang/AbstractStringBuilder", name := "length", desc := "()I" } : Jvm.MethodName) jdk_68_method_6_code (1 : Nat) (Option.some Jvm.ClassFile.FieldType.int)).before args0 about1 = true := code_word (m := ⟨15, 2⟩) (meth := k15m2) (c := k15c2) (by decide +kernel) rfl rfl rfl (by decide +kernel)
set_option maxRecDepth 65536 in
theorem w_c29 : (Jvm.Cond.code ({ cls := "java/lang/AbstractStringBuilder", name := "isLatin1", desc := "()Z" } : Jvm.MethodName) jdk_68_method_68_code (1 : Nat) (Option.some Jvm.ClassFile.FieldType.boolean)).before args0 about1 = true := code_word (m := ⟨15, 6⟩) (meth := k15m6) (c := k15c6) (by decide +kernel) rfl rfl rfl (by decide +kernel)
set_option maxRecDepth 65536 in
theorem w_c30 : (Jvm.Cond.code ({ cls := "java/util/Arrays", name := "copyOfRange", desc := "([BII)[B" } : Jvm.MethodName) jdk_65_method_132_code (3 : Nat) (Option.some (Jvm.ClassFile.FieldType.array Jvm.ClassFile.FieldType.byte))).before args0 about1 = true := code_word (m := ⟨18, 2⟩) (meth := k18m2) (c := k18c2) (by decide +kernel) rfl rfl rfl (by decide +kernel)
set_option maxRecDepth 65536 in
theorem w_c31 : (Jvm.Cond.code ({ cls := "java/util/Arrays", name := "copyOfRangeByte", desc := "([BII)[B" } : Jvm.MethodName) jdk_65_method_133_code (5 : Nat) (Option.some (Jvm.ClassFile.FieldType.array Jvm.ClassFile.FieldType.byte))).before args0 about1 = true := code_word (m := ⟨18, 3⟩) (meth := k18m3) (c := k18c3) (by decide +kernel) rfl rfl rfl (by decide +kernel)
set_option maxRecDepth 65536 in
theorem w_c32 : (Jvm.Cond.code ({ cls := "java/util/Arrays", name := "checkLength", desc := "(II)V" } : Jvm.MethodName) jdk_65_method_131_code (2 : Nat) (Option.none : Option Jvm.ClassFile.FieldType)).before args0 about1 = true := code_word (m := ⟨18, 1⟩) (meth := k18m1) (c := k18c1) (by decide +kernel) rfl rfl rfl (by decide +kernel)
set_option maxRecDepth 65536 in
theorem w_c33 : (Jvm.Cond.code ({ cls := "java/lang/Math", name := "min", desc := "(II)I" } : Jvm.MethodName) jdk_29_method_69_code (2 : Nat) (Option.some Jvm.ClassFile.FieldType.int)).before args0 about1 = true := code_word (m := ⟨19, 1⟩) (meth := k19m1) (c := k19c1) (by decide +kernel) rfl rfl rfl (by decide +kernel)
set_option maxRecDepth 65536 in
theorem w_c34 : (Jvm.Cond.code ({ cls := "java/lang/String", name := "charAt", desc := "(I)C" } : Jvm.MethodName) jdk_42_method_56_code (2 : Nat) (Option.some Jvm.ClassFile.FieldType.char)).before args0 about1 = true := code_word (m := ⟨9, 4⟩) (meth := k9m4) (c := k9c4) (by decide +kernel) rfl rfl rfl (by decide +kernel)
set_option maxRecDepth 65536 in
theorem w_c35 : (Jvm.Cond.code ({ cls := "java/lang/String", name := "isLatin1", desc := "()Z" } : Jvm.MethodName) jdk_42_method_154_code (1 : Nat) (Option.some Jvm.ClassFile.FieldType.boolean)).before args0 about1 = true := code_word (m := ⟨9, 9⟩) (meth := k9m9) (c := k9c9) (by decide +kernel) rfl rfl rfl (by decide +kernel)
set_option maxRecDepth 65536 in
theorem w_c36 : (Jvm.Cond.code ({ cls := "java/lang/StringLatin1", name := "charAt", desc := "([BI)C" } : Jvm.MethodName) jdk_43_method_2_code (2 : Nat) (Option.some Jvm.ClassFile.FieldType.char)).before args0 about1 = true := code_word (m := ⟨20, 1⟩) (meth := k20m1) (c := k20c1) (by decide +kernel) rfl rfl rfl (by decide +kernel)
set_option maxRecDepth 65536 in
theorem w_c37 : (Jvm.Cond.code ({ cls := "java/lang/String", name := "checkIndex", desc := "(II)V" } : Jvm.MethodName) jdk_42_method_155_code (2 : Nat) (Option.none : Option Jvm.ClassFile.FieldType)).before args0 about1 = true := code_word (m := ⟨9, 10⟩) (meth := k9m10) (c := k9c10) (by decide +kernel) rfl rfl rfl (by decide +kernel)
set_option maxRecDepth 65536 in
theorem w_c38 : (Jvm.Cond.code ({ cls := "jdk/internal/util/Preconditions", name := "checkIndex", desc := "(IILjava/util/function/BiFunction;)I" } : Jvm.MethodName) jdk_41_method_11_code (3 : Nat) (Option.some Jvm.ClassFile.FieldType.int)).before args0 about1 = true := code_word (m := ⟨21, 1⟩) (meth := k21m1) (c := k21c1) (by decide +kernel) rfl rfl rfl (by decide +kernel)
def codes1 : List Jvm.Cond := [Jvm.Cond.code x code maxLocals ret, Jvm.Cond.code ({ cls := "com/example/protoloom/protoloom/report/ActionToStringPinLaw", name := "channel", desc := "(ICCC)Ljava/lang/String;" } : Jvm.MethodName) method_3_code (5 : Nat) (Option.some (Jvm.ClassFile.FieldType.object "java/lang/String")), Jvm.Cond.code ({ cls := "java/lang/String", name := "<init>", desc := "([C)V" } : Jvm.MethodName) jdk_42_method_3_code (2 : Nat) (Option.none : Option Jvm.ClassFile.FieldType), Jvm.Cond.code ({ cls := "java/lang/String", name := "<init>", desc := "([CIILjava/lang/Void;)V" } : Jvm.MethodName) jdk_42_method_149_code (6 : Nat) (Option.none : Option Jvm.ClassFile.FieldType), Jvm.Cond.code ({ cls := "java/lang/Object", name := "<init>", desc := "()V" } : Jvm.MethodName) object_method_1_code (1 : Nat) (Option.none : Option Jvm.ClassFile.FieldType), Jvm.Cond.code ({ cls := "java/lang/StringUTF16", name := "compress", desc := "([CII)[B" } : Jvm.MethodName) jdk_52_method_16_code (6 : Nat) (Option.some (Jvm.ClassFile.FieldType.array Jvm.ClassFile.FieldType.byte)), Jvm.Cond.code ({ cls := "java/lang/StringUTF16", name := "compress", desc := "([CI[BII)I" } : Jvm.MethodName) jdk_52_method_21_code (7 : Nat) (Option.some Jvm.ClassFile.FieldType.int), Jvm.Cond.code ({ cls := "java/lang/StringUTF16", name := "coderFromArrayLen", desc := "([BI)B" } : Jvm.MethodName) jdk_52_method_15_code (2 : Nat) (Option.some Jvm.ClassFile.FieldType.byte), Jvm.Cond.code ({ cls := "com/example/protoloom/protoloom/report/Action", name := "<init>", desc := "(Lcom/example/protoloom/protoloom/report/Action$Kind;Ljava/lang/String;)V" } : Jvm.MethodName) prog_28_method_1_code (3 : Nat) (Option.none : Option Jvm.ClassFile.FieldType), Jvm.Cond.code ({ cls := "java/lang/Record", name := "<init>", desc := "()V" } : Jvm.MethodName) jdk_30_method_1_code (1 : Nat) (Option.none : Option Jvm.ClassFile.FieldType), Jvm.Cond.code ({ cls := "java/util/Objects", name := "requireNonNull", desc := "(Ljava/lang/Object;Ljava/lang/String;)Ljava/lang/Object;" } : Jvm.MethodName) jdk_31_method_11_code (2 : Nat) (Option.some (Jvm.ClassFile.FieldType.object "java/lang/Object")), Jvm.Cond.code ({ cls := "com/example/protoloom/protoloom/report/Action", name := "toString", desc := "()Ljava/lang/String;" } : Jvm.MethodName) prog_28_method_2_code (1 : Nat) (Option.some (Jvm.ClassFile.FieldType.object "java/lang/String")), Jvm.Cond.code ({ cls := "java/lang/StringBuilder", name := "<init>", desc := "()V" } : Jvm.MethodName) jdk_67_method_1_code (1 : Nat) (Option.none : Option Jvm.ClassFile.FieldType), Jvm.Cond.code ({ cls := "java/lang/AbstractStringBuilder", name := "<init>", desc := "(I)V" } : Jvm.MethodName) jdk_68_method_2_code (2 : Nat) (Option.none : Option Jvm.ClassFile.FieldType), Jvm.Cond.code ({ cls := "com/example/protoloom/protoloom/report/Action$Kind", name := "verb", desc := "()Ljava/lang/String;" } : Jvm.MethodName) prog_29_method_4_code (1 : Nat) (Option.some (Jvm.ClassFile.FieldType.object "java/lang/String")), Jvm.Cond.code ({ cls := "java/lang/StringBuilder", name := "append", desc := "(Ljava/lang/String;)Ljava/lang/StringBuilder;" } : Jvm.MethodName) jdk_67_method_7_code (2 : Nat) (Option.some (Jvm.ClassFile.FieldType.object "java/lang/StringBuilder")), Jvm.Cond.code ({ cls := "java/lang/AbstractStringBuilder", name := "append", desc := "(Ljava/lang/String;)Ljava/lang/AbstractStringBuilder;" } : Jvm.MethodName) jdk_68_method_22_code (3 : Nat) (Option.some (Jvm.ClassFile.FieldType.object "java/lang/AbstractStringBuilder")), Jvm.Cond.code ({ cls := "java/lang/String", name := "length", desc := "()I" } : Jvm.MethodName) jdk_42_method_54_code (1 : Nat) (Option.some Jvm.ClassFile.FieldType.int), Jvm.Cond.code ({ cls := "java/lang/String", name := "coder", desc := "()B" } : Jvm.MethodName) jdk_42_method_152_code (1 : Nat) (Option.some Jvm.ClassFile.FieldType.byte), Jvm.Cond.code ({ cls := "java/lang/AbstractStringBuilder", name := "ensureCapacityInternal", desc := "(I)V" } : Jvm.MethodName) jdk_68_method_9_code (3 : Nat) (Option.none : Option Jvm.ClassFile.FieldType), Jvm.Cond.code ({ cls := "java/lang/AbstractStringBuilder", name := "putStringAt", desc := "(ILjava/lang/String;)V" } : Jvm.MethodName) jdk_68_method_73_code (3 : Nat) (Option.none : Option Jvm.ClassFile.FieldType), Jvm.Cond.code ({ cls := "java/lang/AbstractStringBuilder", name := "inflateIfNeededFor", desc := "(Ljava/lang/String;)V" } : Jvm.MethodName) jdk_68_method_71_code (2 : Nat) (Option.none : Option Jvm.ClassFile.FieldType), Jvm.Cond.code ({ cls := "java/lang/String", name := "getBytes", desc := "([BIB)V" } : Jvm.MethodName) jdk_42_method_147_code (4 : Nat) (Option.none : Option Jvm.ClassFile.FieldType), Jvm.Cond.code ({ cls := "java/lang/StringBuilder", name := "toString", desc := "()Ljava/lang/String;" } : Jvm.MethodName) jdk_67_method_42_code (1 : Nat) (Option.some (Jvm.ClassFile.FieldType.object "java/lang/String")), Jvm.Cond.code ({ cls := "java/lang/String", name := "<init>", desc := "(Ljava/lang/StringBuilder;)V" } : Jvm.MethodName) jdk_42_method_53_code (2 : Nat) (Option.none : Option Jvm.ClassFile.FieldType), Jvm.Cond.code ({ cls := "java/lang/String", name := "<init>", desc := "(Ljava/lang/AbstractStringBuilder;Ljava/lang/Void;)V" } : Jvm.MethodName) jdk_42_method_150_code (5 : Nat) (Option.none : Option Jvm.ClassFile.FieldType), Jvm.Cond.code ({ cls := "java/lang/AbstractStringBuilder", name := "getValue", desc := "()[B" } : Jvm.MethodName) jdk_68_method_64_code (1 : Nat) (Option.some (Jvm.ClassFile.FieldType.array Jvm.ClassFile.FieldType.byte)), Jvm.Cond.code ({ cls := "java/lang/StringBuilder", name := "length", desc := "()I" } : Jvm.MethodName) jdk_67_method_93_code (1 : Nat) (Option.some Jvm.ClassFile.FieldType.int), Jvm.Cond.code ({ cls := "java/lang/AbstractStringBuilder", name := "length", desc := "()I" } : Jvm.MethodName) jdk_68_method_6_code (1 : Nat) (Option.some Jvm.ClassFile.FieldType.int), Jvm.Cond.code ({ cls := "java/lang/AbstractStringBuilder", name := "isLatin1", desc := "()Z" } : Jvm.MethodName) jdk_68_method_68_code (1 : Nat) (Option.some Jvm.ClassFile.FieldType.boolean), Jvm.Cond.code ({ cls := "java/util/Arrays", name := "copyOfRange", desc := "([BII)[B" } : Jvm.MethodName) jdk_65_method_132_code (3 : Nat) (Option.some (Jvm.ClassFile.FieldType.array Jvm.ClassFile.FieldType.byte)), Jvm.Cond.code ({ cls := "java/util/Arrays", name := "copyOfRangeByte", desc := "([BII)[B" } : Jvm.MethodName) jdk_65_method_133_code (5 : Nat) (Option.some (Jvm.ClassFile.FieldType.array Jvm.ClassFile.FieldType.byte)), Jvm.Cond.code ({ cls := "java/util/Arrays", name := "checkLength", desc := "(II)V" } : Jvm.MethodName) jdk_65_method_131_code (2 : Nat) (Option.none : Option Jvm.ClassFile.FieldType), Jvm.Cond.code ({ cls := "java/lang/Math", name := "min", desc := "(II)I" } : Jvm.MethodName) jdk_29_method_69_code (2 : Nat) (Option.some Jvm.ClassFile.FieldType.int), Jvm.Cond.code ({ cls := "java/lang/String", name := "charAt", desc := "(I)C" } : Jvm.MethodName) jdk_42_method_56_code (2 : Nat) (Option.some Jvm.ClassFile.FieldType.char), Jvm.Cond.code ({ cls := "java/lang/String", name := "isLatin1", desc := "()Z" } : Jvm.MethodName) jdk_42_method_154_code (1 : Nat) (Option.some Jvm.ClassFile.FieldType.boolean), Jvm.Cond.code ({ cls := "java/lang/StringLatin1", name := "charAt", desc := "([BI)C" } : Jvm.MethodName) jdk_43_method_2_code (2 : Nat) (Option.some Jvm.ClassFile.FieldType.char), Jvm.Cond.code ({ cls := "java/lang/String", name := "checkIndex", desc := "(II)V" } : Jvm.MethodName) jdk_42_method_155_code (2 : Nat) (Option.none : Option Jvm.ClassFile.FieldType), Jvm.Cond.code ({ cls := "jdk/internal/util/Preconditions", name := "checkIndex", desc := "(IILjava/util/function/BiFunction;)I" } : Jvm.MethodName) jdk_41_method_11_code (3 : Nat) (Option.some Jvm.ClassFile.FieldType.int)]
set_option maxRecDepth 65536 in
theorem codes_eq : words1.filter isCode = codes1 := rfl
theorem w_codes : ∀ c ∈ words1.filter isCode, c.before args0 about1 = true := by
  rw [codes_eq]
  intro c hc
  simp only [codes1, List.mem_cons, List.not_mem_nil, or_false] at hc
  rcases hc with rfl | rfl | rfl | rfl | rfl | rfl | rfl | rfl | rfl | rfl | rfl | rfl | rfl | rfl | rfl | rfl | rfl | rfl | rfl | rfl | rfl | rfl | rfl | rfl | rfl | rfl | rfl | rfl | rfl | rfl | rfl | rfl | rfl | rfl | rfl | rfl | rfl | rfl | rfl
  · exact w_c0
  · exact w_c1
  · exact w_c2
  · exact w_c3
  · exact w_c4
  · exact w_c5
  · exact w_c6
  · exact w_c7
  · exact w_c8
  · exact w_c9
  · exact w_c10
  · exact w_c11
  · exact w_c12
  · exact w_c13
  · exact w_c14
  · exact w_c15
  · exact w_c16
  · exact w_c17
  · exact w_c18
  · exact w_c19
  · exact w_c20
  · exact w_c21
  · exact w_c22
  · exact w_c23
  · exact w_c24
  · exact w_c25
  · exact w_c26
  · exact w_c27
  · exact w_c28
  · exact w_c29
  · exact w_c30
  · exact w_c31
  · exact w_c32
  · exact w_c33
  · exact w_c34
  · exact w_c35
  · exact w_c36
  · exact w_c37
  · exact w_c38
set_option maxRecDepth 65536 in
theorem w_t1 : (words1.take 24).all (fun c => isCode c || c.before args0 about1) = true := by decide +kernel
set_option maxRecDepth 65536 in
theorem w_t2 : ((words1.drop 24).take 24).all (fun c => isCode c || c.before args0 about1) = true := by decide +kernel
set_option maxRecDepth 65536 in
theorem w_t3 : (((words1.drop 24).drop 24).take 24).all (fun c => isCode c || c.before args0 about1) = true := by decide +kernel
set_option maxRecDepth 65536 in
theorem w_t4 : ((((words1.drop 24).drop 24).drop 24).take 24).all (fun c => isCode c || c.before args0 about1) = true := by decide +kernel
set_option maxRecDepth 65536 in
theorem w_t5 : (((((words1.drop 24).drop 24).drop 24).drop 24).take 24).all (fun c => isCode c || c.before args0 about1) = true := by decide +kernel
set_option maxRecDepth 65536 in
theorem w_t6 : ((((((words1.drop 24).drop 24).drop 24).drop 24).drop 24).take 24).all (fun c => isCode c || c.before args0 about1) = true := by decide +kernel
set_option maxRecDepth 65536 in
theorem w_t7 : (((((((words1.drop 24).drop 24).drop 24).drop 24).drop 24).drop 24).take 24).all (fun c => isCode c || c.before args0 about1) = true := by decide +kernel
set_option maxRecDepth 65536 in
theorem w_t8 : ((((((((words1.drop 24).drop 24).drop 24).drop 24).drop 24).drop 24).drop 24).take 24).all (fun c => isCode c || c.before args0 about1) = true := by decide +kernel
set_option maxRecDepth 65536 in
theorem w_t9 : ((((((((words1.drop 24).drop 24).drop 24).drop 24).drop 24).drop 24).drop 24).drop 24).all (fun c => isCode c || c.before args0 about1) = true := by decide +kernel
theorem w_tables : (allAtoms (Jvm.Cond.code x code maxLocals ret :: tables_1)).before args0 about1 = true := by
  rw [allAtoms_all]
  show words1.all (fun c => c.before args0 about1) = true
  refine all_split ?_ w_codes
  rw [← List.take_append_drop 24 words1, List.all_append, w_t1, ← List.take_append_drop 24 (words1.drop 24), List.all_append, w_t2, ← List.take_append_drop 24 ((words1.drop 24).drop 24), List.all_append, w_t3, ← List.take_append_drop 24 (((words1.drop 24).drop 24).drop 24), List.all_append, w_t4, ← List.take_append_drop 24 ((((words1.drop 24).drop 24).drop 24).drop 24), List.all_append, w_t5, ← List.take_append_drop 24 (((((words1.drop 24).drop 24).drop 24).drop 24).drop 24), List.all_append, w_t6, ← List.take_append_drop 24 ((((((words1.drop 24).drop 24).drop 24).drop 24).drop 24).drop 24), List.all_append, w_t7, ← List.take_append_drop 24 (((((((words1.drop 24).drop 24).drop 24).drop 24).drop 24).drop 24).drop 24), List.all_append, w_t8, w_t9]
  rfl
set_option maxRecDepth 65536 in
theorem w_rest : rest_1_c.before args0 about1 = true := by decide +kernel
set_option maxRecDepth 65536 in
theorem w_case : (Jvm.Cond.and given_1 narrow_1).before args0 about1 = true := by decide +kernel
set_option maxRecDepth 65536 in
theorem w_consts : constsHeld consts_1 about1 := Jvm.Lit.constsHeldB_iff.mp (by decide +kernel)
theorem w_applies : (headSpec (Jvm.Cond.code x code maxLocals ret :: tables_1) room_1).applies x e0.platform about1 = true :=
  (Spec.applies_iff w_frames).mpr ⟨w_running, w_runnable, w_alone, w_named, w_hears, w_ripe, w_room, w_tables⟩
theorem atStart : AtStart classFile x code maxLocals ret World_1 tables_1 room_1 Calls_1 rest_1 Pre_1 launch0 p0 e0 about1 theMethod args0 below0 :=
  ⟨lists_1, trivial, launch0.admits_env _ _ _, launch0.least_env, fairChoices_fair.cas, fairChoices_fair.clock, w_frames, w_args, w_heap, w_applies, ⟨w_consts, trivial⟩, w_rest, w_case⟩
end start1
theorem witness_1 : WitnessClaimed_1 := ⟨start1.p0, start1.e0, start1.about1, start1.theMethod, start1.args0, start1.below0, start1.atStart⟩
end Jvm.Pilot.@@N@@
