import JvmDerived
import JvmDerived.Pilot.@@N@@Statement
import JvmDerived.Pilot.@@N@@Code
set_option linter.unusedVariables false
set_option linter.unusedSimpArgs false
namespace Jvm.Pilot.@@N@@
open Jvm Jvm.ClassFile Sem Op Lib Jvm.Free Jvm.Stand Jvm.LawKit Jvm.RoadKit Bundle Jvm.Pilot.@@N@@.Jvm.D
/-! THE LAYER: what a body does from a point on, as one sentence ('own_WP'); a contract is 'own_Met'. K: the launch, the start's state, the string constants that are held, 'nothing is interned'. M: the method, its bytes, its locals, what it returns, its room. -/
abbrev own_Cx : Type := Launch × State × List (String × Nat) × Bool
abbrev own_Cx.l (K : own_Cx) : Launch := K.1
abbrev own_Cx.Z (K : own_Cx) : State := K.2.1
abbrev own_Cx.E (K : own_Cx) : List (String × Nat) := K.2.2.1
abbrev own_Cx.nw (K : own_Cx) : Bool := K.2.2.2
abbrev own_Cx.n (K : own_Cx) : Nat := K.Z.heap.size
abbrev own_Mi : Type := MethodName × ByteArray × Nat × Option FieldType × Room
abbrev own_Mi.y (M : own_Mi) : MethodName := M.1
abbrev own_Mi.b (M : own_Mi) : ByteArray := M.2.1
abbrev own_Mi.mx (M : own_Mi) : Nat := M.2.2.1
abbrev own_Mi.ret (M : own_Mi) : Option FieldType := M.2.2.2.1
abbrev own_Mi.R (M : own_Mi) : Room := M.2.2.2.2
abbrev own_Q : Type := Option Value → Heap → List Addr → Prop
def own_ret (q : Value → Heap → List Addr → Prop) : own_Q := fun v h xs => ∃ w, v = some w ∧ q w h xs
def own_void (q : Heap → List Addr → Prop) : own_Q := fun v h xs => v = none ∧ q h xs
def own_Bdy (K : own_Cx) (M : own_Mi) (p : Program) (s : State) (m : MethodId) (meth : Method) (c : Code) : Prop :=
  p.tables.exec = Jvm.exec ∧ c.code = M.b ∧ c.maxLocals = M.mx ∧ s.vm.findClass M.y.cls = some m.cls ∧ meth.name = M.y.name ∧ meth.sig.returnType = M.ret ∧ meth.locks = false ∧ K.Z.Warmed39 s.vm ∧ ∃ a0, EW K.Z a0 K.E
def own_Sf (K : own_Cx) (vm : Vm) (h : Heap) (xs : List Addr) : Prop := ∀ x ∈ xs, K.n ≤ x ∧ x < h.size ∧ Safe K.Z K.E vm h x
def own_Inv (K : own_Cx) (s : State) (vm0 : Vm) (k0 : Nat) (h : Heap) (sf : List Addr) : Prop :=
  s.Since vm0 k0 ∧ k0 ≤ h.size ∧ (K.nw = true → s.WarmedH vm0) ∧ CHr K.Z K.E s.vm s.heap vm0 h ∧ own_Sf K vm0 h sf ∧ Ext K.Z.heap h
def own_End (K : own_Cx) (R : Room) (Q : own_Q) (s : State) (o : Outcome) (t : State) : Prop :=
  ∃ v L xs, o = .returned v ∧ Q v t.heap xs ∧ Fr K.n L ∧ CHr K.Z K.E s.vm s.heap t.vm t.heap ∧ own_Sf K t.vm t.heap xs ∧ Ext K.Z.heap t.heap ∧ ReturnedEndW s o t L R.cells R.slots ∧ (K.nw = true → s.WarmedH t.vm)
def own_Fin (K : own_Cx) (R : Room) (Q : own_Q) (p : Program) (e : Env) (below : List Frame) (s F : State) : Prop :=
  ∃ s₂ o, Steps p.tables e below F s₂ ∧ s₂.status = .running ∧ Ended s₂ below o ∧ own_End K R Q s o s₂
def own_WP (K : own_Cx) (M : own_Mi) (Q : own_Q) (pc : Nat) (Ls : List Slot) (St : List Value) (sf : List Addr) (h : Heap) (cs sl : Nat) : Prop :=
  ∀ (p : Program) (e : Env) (s : State) (vm0 : Vm) (k0 : Nat) (m : MethodId) (args : Array Value) (below : List Frame) (meth : Method) (c : Code) (T : State) (locs : List Loc) (cs' sl' : Nat),
    own_Bdy K M p (s.setVm vm0) m meth c → Stand p K.l e M.R (s.setVm vm0) m args below meth c T locs cs' sl' → cs' ≤ cs → sl' ≤ sl → T.heap = h → Fr K.n locs → own_Inv K s vm0 k0 h sf →
    own_Fin K M.R Q p e below s (T.setTop (mkF m pc Ls.toArray St))
def own_Met (K : own_Cx) (M : own_Mi) (as' : Array Value) (sf : List Addr) (h : Heap) (Q : own_Q) : Prop :=
  ∀ ws : List Jvm.Cond, MetFree K.l M.y (head1 (Jvm.Cond.code M.y M.b M.mx M.ret :: ws) M.R) (fun a U => a = as' ∧ K.Z.Warmed39 U.vm ∧ U.heap = h ∧ (∃ a0, EW K.Z a0 K.E) ∧ CHv K.Z K.E U.vm h ∧ own_Sf K U.vm h sf ∧ Ext K.Z.heap h) (fun _ _ _ _ _ => True) (fun _ U o U' => own_End K M.R Q U o U')
section Core
variable {K : own_Cx} {M : own_Mi} {Q : own_Q} {pc pc' : Nat} {Ls Ls' : List Slot} {St St' : List Value} {sf : List Addr} {h : Heap} {cs sl : Nat} {a0 : Array Value}
theorem own_ext_trans {h h' h2 : Heap} (E : Ext h h') (E' : Ext h' h2) : Ext h h2 := ⟨Nat.le_trans E.1 E'.1, fun x c q => E'.2 x c (E.2 x c q)⟩
theorem own_ext_refl (h : Heap) : Ext h h := ⟨Nat.le_refl _, fun _ _ q => q⟩
theorem own_met (hpn : plainFor M.y = true) {as' : Array Value} (ef : ∀ m : MethodId, entryFrame m as' M.mx = mkF m 0 Ls.toArray []) (k : own_WP K M Q 0 Ls [] sf h 0 0) : own_Met K M as' sf h Q := by
  intro ws
  refine MetFree.of_bodySF hpn hisR ?_
  intro p e s m args below meth c s₁ Bd hml0 hP hK
  obtain ⟨rfl, hZ, hh, hEW, hC, hsf, hE⟩ := hP
  have hown : s.vm.findClass M.y.cls = some m.cls := findClass_of_methodNamed Bd.named
  have hnm := (name_of_methodNamed Bd.named Bd.method).1
  have X0 : Stand p K.l e M.R s m args below meth c s₁ [] 0 0 := Stand.of_body Bd
  have e0 : s₁.heap = h := by rw [← hh, Bd.state]; rfl
  have hI : own_Inv K s s.vm 0 h sf := ⟨(State.WarmedH.refl s).since _, Nat.zero_le _, fun _ => State.WarmedH.refl s, by rw [← hh]; exact CHr.refl (by rw [hh]; exact hC), hsf, hE⟩
  obtain ⟨s₂, o, h1, h2, h3, h4⟩ := k p e s s.vm 0 m args below meth c s₁ [] 0 0 ⟨Bd.exec, Bd.bytes, hml0, hown, hnm, Bd.returns, BodyLoose.notSynchronized Bd, hZ, hEW⟩ X0 (Nat.le_refl _) (Nat.le_refl _) e0 (Fr.nil _) hI
  refine ⟨s₂, o, ?_, h2, h3, h4⟩
  rw [ef m]
  exact h1
theorem own_step (k : own_WP K M Q pc' Ls' St' sf h cs sl)
    (st : ∀ (p : Program) (e : Env) (s : State) (m : MethodId) (args : Array Value) (below : List Frame) (meth : Method) (c : Code) (T : State) (locs : List Loc) (cs' sl' : Nat), own_Bdy K M p s m meth c → Stand p K.l e M.R s m args below meth c T locs cs' sl' → T.heap = h →
      ∀ t, Steps p.tables e below (T.setTop (mkF m pc' Ls'.toArray St')) t → Steps p.tables e below (T.setTop (mkF m pc Ls.toArray St)) t) : own_WP K M Q pc Ls St sf h cs sl := by
  intro p e s vm0 k0 m args below meth c T locs cs' sl' B X hc hs eT N I
  obtain ⟨s₂, o, h1, r⟩ := k p e s vm0 k0 m args below meth c T locs cs' sl' B X hc hs eT N I
  exact ⟨s₂, o, st p e _ m args below meth c T locs cs' sl' B X eT _ h1, r⟩
theorem own_move (k : own_WP K M Q pc' Ls' St' sf h cs sl)
    (st : ∀ (p : Program) (e : Env) (s : State) (m : MethodId) (args : Array Value) (below : List Frame) (meth : Method) (c : Code) (T : State) (locs : List Loc) (cs' sl' : Nat), own_Bdy K M p s m meth c → Stand p K.l e M.R s m args below meth c T locs cs' sl' → T.heap = h → Ext K.Z.heap h →
      ∃ T', Stand p K.l e M.R s m args below meth c T' locs cs' sl' ∧ T'.heap = h ∧ ∀ t, Steps p.tables e below (T'.setTop (mkF m pc' Ls'.toArray St')) t → Steps p.tables e below (T.setTop (mkF m pc Ls.toArray St)) t) : own_WP K M Q pc Ls St sf h cs sl := by
  intro p e s vm0 k0 m args below meth c T locs cs' sl' B X hc hs eT N I
  obtain ⟨T', X', e', st'⟩ := st p e _ m args below meth c T locs cs' sl' B X eT I.2.2.2.2.2
  obtain ⟨s₂, o, h1, r⟩ := k p e s vm0 k0 m args below meth c T' locs cs' sl' B X' hc hs e' N I
  exact ⟨s₂, o, st' _ h1, r⟩
theorem own_Sf.new {vm : Vm} {h' : Heap} (E : Ext h h') (hH : CHv K.Z K.E vm h) (hE : Ext K.Z.heap h) (hlt : h.size < h'.size) (S : own_Sf K vm h sf) : own_Sf K vm h' (h.size :: sf) := by
  intro x hx
  rcases List.mem_cons.mp hx with rfl | hx
  · exact ⟨hE.1, hlt, Safe.ext E hH (Safe.new (Nat.le_refl _))⟩
  · obtain ⟨q1, q2, q3⟩ := S x hx
    exact ⟨q1, Nat.lt_of_lt_of_le q2 E.1, Safe.ext E hH q3⟩
theorem own_grow {dc ds : Nat} {P : Heap → Prop} (hc : cs + dc ≤ M.R.cells) (hs : sl + ds ≤ M.R.slots)
    (k : ∀ h', Ext h h' → P h' → own_WP K M Q pc' Ls' St' (h.size :: sf) h' (cs + dc) (sl + ds))
    (st : ∀ (p : Program) (e : Env) (s : State) (m : MethodId) (args : Array Value) (below : List Frame) (meth : Method) (c : Code) (T : State) (locs : List Loc) (cs' sl' : Nat), own_Bdy K M p s m meth c → Stand p K.l e M.R s m args below meth c T locs cs' sl' → cs' + dc ≤ M.R.cells → sl' + ds ≤ M.R.slots → T.heap = h →
      ∃ T' h', Stand p K.l e M.R s m args below meth c T' locs (cs' + dc) (sl' + ds) ∧ T'.heap = h' ∧ Ext h h' ∧ h.size < h'.size ∧ P h' ∧ ∀ t, Steps p.tables e below (T'.setTop (mkF m pc' Ls'.toArray St')) t → Steps p.tables e below (T.setTop (mkF m pc Ls.toArray St)) t) : own_WP K M Q pc Ls St sf h cs sl := by
  intro p e s vm0 k0 m args below meth c T locs cs' sl' B X hc' hs' eT N I
  obtain ⟨T', h', X', e', E, hlt, hP, st'⟩ := st p e _ m args below meth c T locs cs' sl' B X (by omega) (by omega) eT
  obtain ⟨i1, i2, i3, i4, i5, i6⟩ := I
  obtain ⟨s₂, o, h1, r⟩ := k h' E hP p e s vm0 k0 m args below meth c T' locs (cs' + dc) (sl' + ds) B X' (by omega) (by omega) e' N ⟨i1, Nat.le_trans i2 E.1, i3, i4.trans (CHr.ext E i4.1), own_Sf.new E i4.1 i6 hlt i5, own_ext_trans i6 E⟩
  exact ⟨s₂, o, st' _ h1, r⟩
theorem own_Sf.wr {vm : Vm} {h' : Heap} {a : Addr} {i : Nat} {v : Value} (W : Wr h h' a i v) (hH : CHv K.Z K.E vm h) (ha : a ∈ sf) (S : own_Sf K vm h sf) : own_Sf K vm h' sf := by
  intro x hx
  obtain ⟨q1, q2, q3⟩ := S x hx
  exact ⟨q1, by rw [W.size]; exact q2, Safe.wr W (S a ha).2.2 hH q3⟩
theorem own_ext_wr {h h' : Heap} {Z : State} {a : Addr} {i : Nat} {v : Value} (W : Wr h h' a i v) (ha : Z.heap.size ≤ a) (E : Ext Z.heap h) : Ext Z.heap h' := by
  have K := Keep.of_wr W
  exact ⟨by rw [W.size]; exact E.1, fun x c q => K.2.1 x c (E.2 x c q) (by
    intro hm
    have h1 : x < Z.heap.size := (Array.getElem?_eq_some_iff.mp q).1
    have h2 := List.mem_singleton.mp hm
    subst h2
    exact Nat.lt_irrefl _ (Nat.lt_of_lt_of_le h1 ha))⟩
theorem own_write {a : Addr} {i : Nat} {v : Value} (ha : a ∈ sf) (k : ∀ h', Wr h h' a i v → own_WP K M Q pc' Ls' St' sf h' cs sl)
    (st : ∀ (p : Program) (e : Env) (s : State) (m : MethodId) (args : Array Value) (below : List Frame) (meth : Method) (c : Code) (T : State) (locs : List Loc) (cs' sl' : Nat), own_Bdy K M p s m meth c → Stand p K.l e M.R s m args below meth c T locs cs' sl' → T.heap = h →
      ∃ T' h', Stand p K.l e M.R s m args below meth c T' (locs ++ [⟨a, i⟩]) cs' sl' ∧ T'.heap = h' ∧ Wr h h' a i v ∧ ∀ t, Steps p.tables e below (T'.setTop (mkF m pc' Ls'.toArray St')) t → Steps p.tables e below (T.setTop (mkF m pc Ls.toArray St)) t) : own_WP K M Q pc Ls St sf h cs sl := by
  intro p e s vm0 k0 m args below meth c T locs cs' sl' B X hc' hs' eT N I
  obtain ⟨T', h', X', e', W, st'⟩ := st p e _ m args below meth c T locs cs' sl' B X eT
  obtain ⟨i1, i2, i3, i4, i5, i6⟩ := I
  have hn := (i5 a ha).1
  obtain ⟨s₂, o, h1, r⟩ := k h' W p e s vm0 k0 m args below meth c T' _ cs' sl' B X' hc' hs' e' (Fr.snoc X' N hn) ⟨i1, by rw [W.size]; exact i2, i3, i4.trans (CHr.wr W (i5 a ha).2.2 i4.1), own_Sf.wr W i4.1 ha i5, own_ext_wr W hn i6⟩
  exact ⟨s₂, o, st' _ h1, r⟩
/-- fewer writable places, more room spent: a weaker sentence -/
theorem own_weak {sf' : List Addr} {cs1 sl1 : Nat} (k : own_WP K M Q pc Ls St sf' h cs1 sl1) (hsf : ∀ x ∈ sf', x ∈ sf) (hc : cs ≤ cs1) (hs : sl ≤ sl1) : own_WP K M Q pc Ls St sf h cs sl :=
  fun p e s vm0 k0 m args below meth c T locs cs' sl' B X hc' hs' eT N I => k p e s vm0 k0 m args below meth c T locs cs' sl' B X (Nat.le_trans hc' hc) (Nat.le_trans hs' hs) eT N ⟨I.1, I.2.1, I.2.2.1, I.2.2.2.1, fun x hx => I.2.2.2.2.1 x (hsf x hx), I.2.2.2.2.2⟩
/-- the end -/
theorem own_leave {v : Option Value} (hv : M.ret = none → v = none) (hc : cs ≤ M.R.cells) (hs : sl ≤ M.R.slots) (q : Q v h sf)
    (st : ∀ (p : Program) (e : Env) (s : State) (m : MethodId) (args : Array Value) (below : List Frame) (meth : Method) (c : Code) (T : State) (locs : List Loc) (cs' sl' : Nat), own_Bdy K M p s m meth c → Stand p K.l e M.R s m args below meth c T locs cs' sl' →
      ∀ fs, (∀ (f : JFrame) (acts : List Action), f.method = m → f.locked = none → f.entered = [] → (doReturn e (T.setTop f) acts v).1 = T.setFrames fs) → Steps p.tables e below (T.setTop (mkF m pc Ls.toArray St)) (T.setFrames fs)) : own_WP K M Q pc Ls St sf h cs sl := by
  intro p e s vm0 k0 m args below meth c T locs cs' sl' B X hc' hs' eT N I
  obtain ⟨i1, i2, i3, i4, i5, i6⟩ := I
  have hlk : meth.locks = false := B.2.2.2.2.2.2.1
  have hr : meth.sig.returnType = M.ret := B.2.2.2.2.2.1
  obtain ⟨a1, hEW⟩ := B.2.2.2.2.2.2.2.2
  obtain ⟨fs, h1, h2, h3, h4⟩ := X.leaveW i1 (by rw [eT]; exact i2) (v := v) (by rw [hr]; exact hv) hlk
  have A : CHr K.Z K.E vm0 h T.vm h := CHv.at X B.2.2.2.2.2.2.2.1 hEW i4.1
  refine ⟨_, _, st p e _ m args below meth c T locs cs' sl' B X fs h1, h2, h3, v, locs, sf, rfl, ?_, N, ?_, ?_, ?_, ?_, ?_⟩
  · show Q v T.heap sf; rw [eT]; exact q
  · show CHr K.Z K.E s.vm s.heap T.vm T.heap; rw [eT]; exact i4.trans A
  · show own_Sf K T.vm T.heap sf
    rw [eT]
    exact fun x hx => ⟨(i5 x hx).1, (i5 x hx).2.1, A.safe (i5 x hx).2.1 (i5 x hx).2.2⟩
  · show Ext K.Z.heap T.heap; rw [eT]; exact i6
  · obtain ⟨r1, r2, r3, r4⟩ := h4
    exact ⟨r1, r2, r3, r4.mono (by omega) (by omega)⟩
  · exact fun q => State.WarmedH.trans (t := s.setVm vm0) (i3 q) X.warmed
end Core
section Calls
variable {K : own_Cx} {M M' : own_Mi} {Q Q' : own_Q} {pc pc' : Nat} {Ls : List Slot} {St rest : List Value} {sf sf' : List Addr} {h : Heap} {cs sl : Nat} {a0 : Array Value}
theorem own_back {R : Room} {p : Program} {e : Env} {s : State} {vm0 : Vm} {k0 : Nat} {below : List Frame} {args as' : Array Value} {len W : Nat} (hM : own_Met K M' as' sf' h Q') (hsf : ∀ x ∈ sf', x ∈ sf) (hZ : K.Z.Warmed39 vm0) (hEW : ∃ a0, EW K.Z a0 K.E) (I : own_Inv K s vm0 k0 h sf)
    (wc : (Jvm.Cond.code M'.y M'.b M'.mx M'.ret).before a0 K.Z = true) (wz : (Jvm.Cond.initialized M'.y.cls).before a0 K.Z = true) (hf : M'.R.frames + 1 ≤ R.frames) (hl : W + (M'.mx + 11) + M'.R.locals ≤ R.locals) :
    BackS K.l R p e below (s.setVm vm0) args M'.y len W (fun A a => a = as' ∧ A.U.heap = h ∧ A.cells + M'.R.cells ≤ R.cells ∧ A.slots + M'.R.slots ≤ R.slots)
      (fun A _ v B => ∃ L xs, Q' v B.U.heap xs ∧ Fr K.n L ∧ B.locs = A.locs ++ L ∧ B.cells = A.cells + M'.R.cells ∧ B.slots = A.slots + M'.R.slots ∧ CHr K.Z K.E vm0 h B.U.vm B.U.heap ∧ own_Sf K B.U.vm B.U.heap xs ∧ Ext K.Z.heap B.U.heap ∧ (K.nw = true → (s.setVm vm0).WarmedH B.U.vm)) := by
  obtain ⟨a1, hE⟩ := hEW
  have H := I.2.2.2.1.1
  exact BackS.of_freeW (bytes := M'.b) (maxL := M'.mx) (ret := M'.ret) (E := fun _ first o t L k n => k = M'.R.cells ∧ n = M'.R.slots ∧ ∃ v xs, o = .returned v ∧ Q' v t.heap xs ∧ Fr K.n L ∧ CHr K.Z K.E first.vm first.heap t.vm t.heap ∧ own_Sf K t.vm t.heap xs ∧ Ext K.Z.heap t.heap ∧ (K.nw = true → first.WarmedH t.vm)) (hM []) hf hl
    (fun m meth c A a Y hp => have hU : K.Z.Warmed39 A.U.vm := wtrans (s := s.setVm vm0) hZ Y.warmed
      ⟨by show (Jvm.Cond.and _ .tt).before a A.U = true; rw [Cond.before_and, mv hU wc]; rfl, mv hU wc, mv hU wz, hp.2.2.1, hp.2.2.2⟩)
    (fun m meth c A a g mk Y hp => ⟨hp.1, wtrans (s := s.setVm vm0) hZ Y.warmed, hp.2.1, ⟨a1, hE⟩, (CHv.at Y hZ hE H).1, fun x hx => have q := I.2.2.2.2.1 x (hsf x hx); ⟨q.1, q.2.1, (CHv.at Y hZ hE H).safe q.2.1 q.2.2⟩, I.2.2.2.2.2⟩)
    (fun _ _ _ _ _ _ _ _ _ => trivial)
    (fun _ _ _ _ ⟨v, L, xs, h1, h2, h3, h4, h5, h6, h7, h8⟩ => ⟨L, _, _, h7, rfl, rfl, v, xs, h1, h2, h3, h4, h5, h6, h8⟩)
    (fun m meth c A a g mk v t L k n Y hp _ _ ⟨e1, e2, v', xs, e3, e4, e5, e6, e7, e8, e9⟩ => by
      cases e3; subst e1 e2
      refine ⟨L, xs, e4, e5, rfl, rfl, rfl, (CHv.at Y hZ hE H).trans ?_, e7, e8, fun q => ?_⟩
      · rw [← hp.2.1]; exact e6
      · exact State.WarmedH.trans Y.warmed (e9 q))
theorem own_called {p : Program} {e : Env} {s : State} {vm0 : Vm} {k0 : Nat} {m : MethodId} {args : Array Value} {below : List Frame} {meth : Method} {c : Code} {T : State} {locs : List Loc} {cs' sl' : Nat} {v : Option Value} {B : Pt}
    (k : ∀ v h' xs, Q' v h' xs → own_WP K M Q pc' Ls (v.toList ++ rest) (xs ++ sf) h' (cs + M'.R.cells) (sl + M'.R.slots)) (Bd : own_Bdy K M p (s.setVm vm0) m meth c) (hc : cs' ≤ cs) (hs : sl' ≤ sl) (eT : T.heap = h) (N : Fr K.n locs) (I : own_Inv K s vm0 k0 h sf)
    (X' : Stand p K.l e M.R ((s.setVm vm0).setVm B.U.vm) m args below meth c B.U B.locs B.cells B.slots) (hS : (s.setVm vm0).Since B.U.vm B.U.heap.size) (hg : T.heap.size ≤ B.U.heap.size)
    (P : ∃ L xs, Q' v B.U.heap xs ∧ Fr K.n L ∧ B.locs = locs ++ L ∧ B.cells = cs' + M'.R.cells ∧ B.slots = sl' + M'.R.slots ∧ CHr K.Z K.E vm0 h B.U.vm B.U.heap ∧ own_Sf K B.U.vm B.U.heap xs ∧ Ext K.Z.heap B.U.heap ∧ (K.nw = true → (s.setVm vm0).WarmedH B.U.vm))
    {F : State} (st : Steps p.tables e below F (B.U.setTop (mkF m pc' Ls.toArray (v.toList ++ rest)))) : own_Fin K M.R Q p e below s F := by
  obtain ⟨U, l1, c1, s1⟩ := B
  obtain ⟨L, xs, q, NL, eL, ec, es, C, S, E, w⟩ := P
  dsimp only [Pt.U, Pt.locs, Pt.cells, Pt.slots] at X' hS hg q eL ec es C S E w st
  subst eL ec es
  obtain ⟨i1, i2, i3, i4, i5, i6⟩ := I
  obtain ⟨b1, b2, b3, b4, b5, b6, b7, b8, b9⟩ := Bd
  obtain ⟨X2, S2, Z2, O2⟩ := rebS (Z := K.Z) (own := M.y.cls) i1 (n1 := T.heap.size) (by rw [eT]; exact i2) X' hS hg b8 b4
  obtain ⟨s₂, o, h1, r⟩ := k v U.heap xs q p e s U.vm U.heap.size m args below meth c U (locs ++ L) _ _ ⟨b1, b2, b3, O2, b5, b6, b7, Z2, b9⟩ X2 (Nat.add_le_add_right hc _) (Nat.add_le_add_right hs _) rfl (N.app NL)
    ⟨S2, Nat.le_refl _, fun q => State.WarmedH.trans (t := s.setVm vm0) (i3 q) (w q), i4.trans C, fun x hx => by
      rcases List.mem_append.mp hx with hx | hx
      · exact S x hx
      · exact ⟨(i5 x hx).1, Nat.lt_of_lt_of_le (i5 x hx).2.1 C.2.1, C.safe (i5 x hx).2.1 (i5 x hx).2.2⟩, E⟩
  exact ⟨s₂, o, st.trans h1, r⟩
theorem own_static {index : Nat} {argsL : List Value} (hd : decode M.b pc = .ok (.invokestatic index, 3)) (hp : pc + 3 = pc') (w1 : (Jvm.Cond.methodLink M.y.cls index M'.y).before a0 K.Z = true) (w2 : (Jvm.Cond.static M'.y).before a0 K.Z = true) (w3 : (Jvm.Cond.initialized M'.y.cls).before a0 K.Z = true) (w4 : (Jvm.Cond.code M'.y M'.b M'.mx M'.ret).before a0 K.Z = true)
    (hy : M'.y.cls ≠ "java/lang/invoke/MethodHandle" ∧ M'.y.cls ≠ "java/lang/invoke/VarHandle") (hsz : Ls.length = M.mx) (hlen : ∀ sig, parseMethodDescriptor M'.y.desc = some sig → argsL.length = sig.parameters.length) (hst : St = argsL.reverse ++ rest)
    (hf : Nat.ble (M'.R.frames + 1) M.R.frames = true) (hl : Nat.ble ((rest.map fun v => v.category).sum + (M'.mx + 11) + M'.R.locals) M.R.locals = true) (hc : Nat.ble (cs + M'.R.cells) M.R.cells = true) (hs : Nat.ble (sl + M'.R.slots) M.R.slots = true)
    (hM : own_Met K M' argsL.toArray sf' h Q') (hsf : ∀ x ∈ sf', x ∈ sf) (k : ∀ v h' xs, Q' v h' xs → own_WP K M Q pc' Ls (v.toList ++ rest) (xs ++ sf) h' (cs + M'.R.cells) (sl + M'.R.slots)) : own_WP K M Q pc Ls St sf h cs sl := by
  subst hst hp
  intro p e s vm0 k0 m args below meth c T locs cs' sl' B X hc' hs' eT N I
  have q1 := Nat.le_of_ble_eq_true hf
  have q2 := Nat.le_of_ble_eq_true hl
  have q3 := Nat.le_of_ble_eq_true hc
  have q4 := Nat.le_of_ble_eq_true hs
  obtain ⟨v, vm₁, B', -, X', hS, hg, P, st⟩ := callSS X B.1 (y := M'.y) (bytes := M'.b) (maxL := M'.mx) (ret := M'.ret) B.2.2.2.1 (mv B.2.2.2.2.2.2.2.1 w1) (mv B.2.2.2.2.2.2.2.1 w2) (mv B.2.2.2.2.2.2.2.1 w3) (mv B.2.2.2.2.2.2.2.1 w4) hy
    (own_back (W := (rest.map fun v => v.category).sum) hM hsf B.2.2.2.2.2.2.2.1 B.2.2.2.2.2.2.2.2 I w4 w3 q1 q2) (g := mkF m pc Ls.toArray (argsL.reverse ++ rest)) rfl (by rw [B.2.2.1, ← hsz]; simp) (argsL := argsL) (rest := rest) hlen rfl (by show 2 * 0 + _ ≤ _; omega) (hb B.2.1 hd)
    (fun vm₁ _ => ⟨rfl, eT, by show cs' + _ ≤ _; omega, by show sl' + _ ≤ _; omega⟩)
  exact own_called k B hc' hs' eT N I X' hS hg P st
theorem own_special {index : Nat} {a : Addr} {argsL : List Value} (hd : decode M.b pc = .ok (.invokespecial index, 3)) (hp : pc + 3 = pc') (hn : M'.y.name = "<init>") (hrt : M'.ret = none) (w1 : (Jvm.Cond.methodLink M.y.cls index M'.y).before a0 K.Z = true) (w2 : (Jvm.Cond.instanceMethod M'.y).before a0 K.Z = true) (w3 : (Jvm.Cond.initialized M'.y.cls).before a0 K.Z = true) (w4 : (Jvm.Cond.code M'.y M'.b M'.mx M'.ret).before a0 K.Z = true)
    (hy : M'.y.cls ≠ "java/lang/invoke/MethodHandle" ∧ M'.y.cls ≠ "java/lang/invoke/VarHandle") (hsz : Ls.length = M.mx) (hlen : ∀ sig, parseMethodDescriptor M'.y.desc = some sig → argsL.length = sig.parameters.length) (hst : St = argsL.reverse ++ .ref a :: rest)
    (hf : Nat.ble (M'.R.frames + 1) M.R.frames = true) (hl : Nat.ble ((rest.map fun v => v.category).sum + (M'.mx + 11) + M'.R.locals) M.R.locals = true) (hc : Nat.ble (cs + M'.R.cells) M.R.cells = true) (hs : Nat.ble (sl + M'.R.slots) M.R.slots = true)
    (hM : own_Met K M' (.ref a :: argsL).toArray sf' h Q') (hsf : ∀ x ∈ sf', x ∈ sf) (k : ∀ v h' xs, Q' v h' xs → own_WP K M Q pc' Ls (v.toList ++ rest) (xs ++ sf) h' (cs + M'.R.cells) (sl + M'.R.slots)) : own_WP K M Q pc Ls St sf h cs sl := by
  subst hst hp
  intro p e s vm0 k0 m args below meth c T locs cs' sl' B X hc' hs' eT N I
  have q1 := Nat.le_of_ble_eq_true hf
  have q2 := Nat.le_of_ble_eq_true hl
  have q3 := Nat.le_of_ble_eq_true hc
  have q4 := Nat.le_of_ble_eq_true hs
  have w4' : (Jvm.Cond.code M'.y M'.b M'.mx none).before a0 K.Z = true := by rw [← hrt]; exact w4
  obtain ⟨v, vm₁, B', -, X', hS, hg, P, st⟩ := X.specialBackS B.1 (y := M'.y) hn B.2.2.2.1 (mv B.2.2.2.2.2.2.2.1 w1) (mv B.2.2.2.2.2.2.2.1 w2) (bytes := M'.b) (maxL := M'.mx) (mv B.2.2.2.2.2.2.2.1 w4') hy
    (own_back (W := (rest.map fun v => v.category).sum) hM hsf B.2.2.2.2.2.2.2.1 B.2.2.2.2.2.2.2.2 I w4 w3 q1 q2) (g := mkF m pc Ls.toArray (argsL.reverse ++ .ref a :: rest)) rfl (by rw [B.2.2.1, ← hsz]; simp) (Steps.refl _) (a := a) (argsL := argsL) (rest := rest) hlen rfl (by show 2 * 0 + _ ≤ _; omega) (hb B.2.1 hd)
    (fun vm₁ _ => ⟨rfl, eT, by show cs' + _ ≤ _; omega, by show sl' + _ ≤ _; omega⟩)
  exact own_called k B hc' hs' eT N I X' hS hg P st
theorem own_virtual {index : Nat} {a : Addr} {C : String} {argsL : List Value} (hd : decode M.b pc = .ok (.invokevirtual index, 3)) (hp : pc + 3 = pc') (w1 : (Jvm.Cond.methodLink M.y.cls index M'.y).before a0 K.Z = true) (w2 : (Jvm.Cond.declares M'.y).before a0 K.Z = true) (w5 : (Jvm.Cond.selects C M'.y M'.y).before a0 K.Z = true) (w6 : (Jvm.Cond.instanceMethod M'.y).before a0 K.Z = true) (w3 : (Jvm.Cond.initialized M'.y.cls).before a0 K.Z = true) (w4 : (Jvm.Cond.code M'.y M'.b M'.mx M'.ret).before a0 K.Z = true)
    (hy : M'.y.cls ≠ "java/lang/invoke/MethodHandle" ∧ M'.y.cls ≠ "java/lang/invoke/VarHandle") (hsz : Ls.length = M.mx) (hlen : ∀ sig, parseMethodDescriptor M'.y.desc = some sig → argsL.length = sig.parameters.length) (hst : St = argsL.reverse ++ .ref a :: rest)
    (hf : Nat.ble (M'.R.frames + 1) M.R.frames = true) (hl : Nat.ble ((rest.map fun v => v.category).sum + (M'.mx + 11) + M'.R.locals) M.R.locals = true) (hc : Nat.ble (cs + M'.R.cells) M.R.cells = true) (hs : Nat.ble (sl + M'.R.slots) M.R.slots = true)
    (E : Exa K.Z h a C) (hM : own_Met K M' (.ref a :: argsL).toArray sf' h Q') (hsf : ∀ x ∈ sf', x ∈ sf) (k : ∀ v h' xs, Q' v h' xs → own_WP K M Q pc' Ls (v.toList ++ rest) (xs ++ sf) h' (cs + M'.R.cells) (sl + M'.R.slots)) : own_WP K M Q pc Ls St sf h cs sl := by
  subst hst hp
  intro p e s vm0 k0 m args below meth c T locs cs' sl' B X hc' hs' eT N I
  have q1 := Nat.le_of_ble_eq_true hf
  have q2 := Nat.le_of_ble_eq_true hl
  have q3 := Nat.le_of_ble_eq_true hc
  have q4 := Nat.le_of_ble_eq_true hs
  obtain ⟨cB, kB, r1, r2, r3⟩ := isOf (T := T) B.2.2.2.2.2.2.2.1 eT E
  obtain ⟨v, vm₁, B', -, X', hS, hg, P, st⟩ := X.virtualBackS B.1 (y := M'.y) (z := M'.y) B.2.2.2.1 (mv B.2.2.2.2.2.2.2.1 w1) (mv B.2.2.2.2.2.2.2.1 w2) (notFace_of_selects (args := #[]) (mv B.2.2.2.2.2.2.2.1 w5)) (mv B.2.2.2.2.2.2.2.1 w5) (mv B.2.2.2.2.2.2.2.1 w6) hy
    (own_back (W := (rest.map fun v => v.category).sum) hM hsf B.2.2.2.2.2.2.2.1 B.2.2.2.2.2.2.2.2 I w4 w3 q1 q2) r1 r3 (g := mkF m pc Ls.toArray (argsL.reverse ++ .ref a :: rest)) rfl (by rw [B.2.2.1, ← hsz]; simp) (Steps.refl _) (argsL := argsL) (rest := rest) hlen rfl (by show 2 * 0 + _ ≤ _; omega) (hb B.2.1 hd)
    (fun vm₁ _ => ⟨rfl, eT, by show cs' + _ ≤ _; omega, by show sl' + _ ≤ _; omega⟩)
  exact own_called k B hc' hs' eT N I X' hS hg P st
theorem own_static1v {index : Nat} {v0 : Value} {q' : Value → Heap → List Addr → Prop} (hd : decode M.b pc = .ok (.invokestatic index, 3)) (hp : pc + 3 = pc') (w1 : (Jvm.Cond.methodLink M.y.cls index M'.y).before a0 K.Z = true) (w2 : (Jvm.Cond.static M'.y).before a0 K.Z = true) (w3 : (Jvm.Cond.initialized M'.y.cls).before a0 K.Z = true) (w4 : (Jvm.Cond.code M'.y M'.b M'.mx M'.ret).before a0 K.Z = true) (hy : M'.y.cls ≠ "java/lang/invoke/MethodHandle" ∧ M'.y.cls ≠ "java/lang/invoke/VarHandle") (hsz : Ls.length = M.mx) (hlen : ∀ sig, parseMethodDescriptor M'.y.desc = some sig → 1 = sig.parameters.length)
    (hf : Nat.ble (M'.R.frames + 1) M.R.frames = true) (hl : Nat.ble ((rest.map fun v => v.category).sum + (M'.mx + 11) + M'.R.locals) M.R.locals = true) (hc : Nat.ble (cs + M'.R.cells) M.R.cells = true) (hs : Nat.ble (sl + M'.R.slots) M.R.slots = true) (hM : own_Met K M' #[v0] sf' h (own_ret q')) (hsf : ∀ x ∈ sf', x ∈ sf) (k : ∀ w h' xs, q' w h' xs → own_WP K M Q pc' Ls (w :: rest) (xs ++ sf) h' (cs + M'.R.cells) (sl + M'.R.slots)) :
    own_WP K M Q pc Ls (v0 :: rest) sf h cs sl := own_static (argsL := [v0]) hd hp w1 w2 w3 w4 hy hsz hlen rfl hf hl hc hs hM hsf (fun v h' xs ⟨w, e, q⟩ => by subst e; exact k w h' xs q)
theorem own_static2v {index : Nat} {v0 v1 : Value} {q' : Value → Heap → List Addr → Prop} (hd : decode M.b pc = .ok (.invokestatic index, 3)) (hp : pc + 3 = pc') (w1 : (Jvm.Cond.methodLink M.y.cls index M'.y).before a0 K.Z = true) (w2 : (Jvm.Cond.static M'.y).before a0 K.Z = true) (w3 : (Jvm.Cond.initialized M'.y.cls).before a0 K.Z = true) (w4 : (Jvm.Cond.code M'.y M'.b M'.mx M'.ret).before a0 K.Z = true) (hy : M'.y.cls ≠ "java/lang/invoke/MethodHandle" ∧ M'.y.cls ≠ "java/lang/invoke/VarHandle") (hsz : Ls.length = M.mx) (hlen : ∀ sig, parseMethodDescriptor M'.y.desc = some sig → 2 = sig.parameters.length)
    (hf : Nat.ble (M'.R.frames + 1) M.R.frames = true) (hl : Nat.ble ((rest.map fun v => v.category).sum + (M'.mx + 11) + M'.R.locals) M.R.locals = true) (hc : Nat.ble (cs + M'.R.cells) M.R.cells = true) (hs : Nat.ble (sl + M'.R.slots) M.R.slots = true) (hM : own_Met K M' #[v0, v1] sf' h (own_ret q')) (hsf : ∀ x ∈ sf', x ∈ sf) (k : ∀ w h' xs, q' w h' xs → own_WP K M Q pc' Ls (w :: rest) (xs ++ sf) h' (cs + M'.R.cells) (sl + M'.R.slots)) :
    own_WP K M Q pc Ls (v1 :: v0 :: rest) sf h cs sl := own_static (argsL := [v0, v1]) hd hp w1 w2 w3 w4 hy hsz hlen rfl hf hl hc hs hM hsf (fun v h' xs ⟨w, e, q⟩ => by subst e; exact k w h' xs q)
theorem own_static2n {index : Nat} {v0 v1 : Value} {q' : Heap → List Addr → Prop} (hd : decode M.b pc = .ok (.invokestatic index, 3)) (hp : pc + 3 = pc') (w1 : (Jvm.Cond.methodLink M.y.cls index M'.y).before a0 K.Z = true) (w2 : (Jvm.Cond.static M'.y).before a0 K.Z = true) (w3 : (Jvm.Cond.initialized M'.y.cls).before a0 K.Z = true) (w4 : (Jvm.Cond.code M'.y M'.b M'.mx M'.ret).before a0 K.Z = true) (hy : M'.y.cls ≠ "java/lang/invoke/MethodHandle" ∧ M'.y.cls ≠ "java/lang/invoke/VarHandle") (hsz : Ls.length = M.mx) (hlen : ∀ sig, parseMethodDescriptor M'.y.desc = some sig → 2 = sig.parameters.length)
    (hf : Nat.ble (M'.R.frames + 1) M.R.frames = true) (hl : Nat.ble ((rest.map fun v => v.category).sum + (M'.mx + 11) + M'.R.locals) M.R.locals = true) (hc : Nat.ble (cs + M'.R.cells) M.R.cells = true) (hs : Nat.ble (sl + M'.R.slots) M.R.slots = true) (hM : own_Met K M' #[v0, v1] sf' h (own_void q')) (hsf : ∀ x ∈ sf', x ∈ sf) (k : ∀ h' xs, q' h' xs → own_WP K M Q pc' Ls rest (xs ++ sf) h' (cs + M'.R.cells) (sl + M'.R.slots)) :
    own_WP K M Q pc Ls (v1 :: v0 :: rest) sf h cs sl := own_static (argsL := [v0, v1]) hd hp w1 w2 w3 w4 hy hsz hlen rfl hf hl hc hs hM hsf (fun v h' xs ⟨e, q⟩ => by subst e; exact k h' xs q)
theorem own_static3v {index : Nat} {v0 v1 v2 : Value} {q' : Value → Heap → List Addr → Prop} (hd : decode M.b pc = .ok (.invokestatic index, 3)) (hp : pc + 3 = pc') (w1 : (Jvm.Cond.methodLink M.y.cls index M'.y).before a0 K.Z = true) (w2 : (Jvm.Cond.static M'.y).before a0 K.Z = true) (w3 : (Jvm.Cond.initialized M'.y.cls).before a0 K.Z = true) (w4 : (Jvm.Cond.code M'.y M'.b M'.mx M'.ret).before a0 K.Z = true) (hy : M'.y.cls ≠ "java/lang/invoke/MethodHandle" ∧ M'.y.cls ≠ "java/lang/invoke/VarHandle") (hsz : Ls.length = M.mx) (hlen : ∀ sig, parseMethodDescriptor M'.y.desc = some sig → 3 = sig.parameters.length)
    (hf : Nat.ble (M'.R.frames + 1) M.R.frames = true) (hl : Nat.ble ((rest.map fun v => v.category).sum + (M'.mx + 11) + M'.R.locals) M.R.locals = true) (hc : Nat.ble (cs + M'.R.cells) M.R.cells = true) (hs : Nat.ble (sl + M'.R.slots) M.R.slots = true) (hM : own_Met K M' #[v0, v1, v2] sf' h (own_ret q')) (hsf : ∀ x ∈ sf', x ∈ sf) (k : ∀ w h' xs, q' w h' xs → own_WP K M Q pc' Ls (w :: rest) (xs ++ sf) h' (cs + M'.R.cells) (sl + M'.R.slots)) :
    own_WP K M Q pc Ls (v2 :: v1 :: v0 :: rest) sf h cs sl := own_static (argsL := [v0, v1, v2]) hd hp w1 w2 w3 w4 hy hsz hlen rfl hf hl hc hs hM hsf (fun v h' xs ⟨w, e, q⟩ => by subst e; exact k w h' xs q)
theorem own_static3n {index : Nat} {v0 v1 v2 : Value} {q' : Heap → List Addr → Prop} (hd : decode M.b pc = .ok (.invokestatic index, 3)) (hp : pc + 3 = pc') (w1 : (Jvm.Cond.methodLink M.y.cls index M'.y).before a0 K.Z = true) (w2 : (Jvm.Cond.static M'.y).before a0 K.Z = true) (w3 : (Jvm.Cond.initialized M'.y.cls).before a0 K.Z = true) (w4 : (Jvm.Cond.code M'.y M'.b M'.mx M'.ret).before a0 K.Z = true) (hy : M'.y.cls ≠ "java/lang/invoke/MethodHandle" ∧ M'.y.cls ≠ "java/lang/invoke/VarHandle") (hsz : Ls.length = M.mx) (hlen : ∀ sig, parseMethodDescriptor M'.y.desc = some sig → 3 = sig.parameters.length)
    (hf : Nat.ble (M'.R.frames + 1) M.R.frames = true) (hl : Nat.ble ((rest.map fun v => v.category).sum + (M'.mx + 11) + M'.R.locals) M.R.locals = true) (hc : Nat.ble (cs + M'.R.cells) M.R.cells = true) (hs : Nat.ble (sl + M'.R.slots) M.R.slots = true) (hM : own_Met K M' #[v0, v1, v2] sf' h (own_void q')) (hsf : ∀ x ∈ sf', x ∈ sf) (k : ∀ h' xs, q' h' xs → own_WP K M Q pc' Ls rest (xs ++ sf) h' (cs + M'.R.cells) (sl + M'.R.slots)) :
    own_WP K M Q pc Ls (v2 :: v1 :: v0 :: rest) sf h cs sl := own_static (argsL := [v0, v1, v2]) hd hp w1 w2 w3 w4 hy hsz hlen rfl hf hl hc hs hM hsf (fun v h' xs ⟨e, q⟩ => by subst e; exact k h' xs q)
theorem own_static4v {index : Nat} {v0 v1 v2 v3 : Value} {q' : Value → Heap → List Addr → Prop} (hd : decode M.b pc = .ok (.invokestatic index, 3)) (hp : pc + 3 = pc') (w1 : (Jvm.Cond.methodLink M.y.cls index M'.y).before a0 K.Z = true) (w2 : (Jvm.Cond.static M'.y).before a0 K.Z = true) (w3 : (Jvm.Cond.initialized M'.y.cls).before a0 K.Z = true) (w4 : (Jvm.Cond.code M'.y M'.b M'.mx M'.ret).before a0 K.Z = true) (hy : M'.y.cls ≠ "java/lang/invoke/MethodHandle" ∧ M'.y.cls ≠ "java/lang/invoke/VarHandle") (hsz : Ls.length = M.mx) (hlen : ∀ sig, parseMethodDescriptor M'.y.desc = some sig → 4 = sig.parameters.length)
    (hf : Nat.ble (M'.R.frames + 1) M.R.frames = true) (hl : Nat.ble ((rest.map fun v => v.category).sum + (M'.mx + 11) + M'.R.locals) M.R.locals = true) (hc : Nat.ble (cs + M'.R.cells) M.R.cells = true) (hs : Nat.ble (sl + M'.R.slots) M.R.slots = true) (hM : own_Met K M' #[v0, v1, v2, v3] sf' h (own_ret q')) (hsf : ∀ x ∈ sf', x ∈ sf) (k : ∀ w h' xs, q' w h' xs → own_WP K M Q pc' Ls (w :: rest) (xs ++ sf) h' (cs + M'.R.cells) (sl + M'.R.slots)) :
    own_WP K M Q pc Ls (v3 :: v2 :: v1 :: v0 :: rest) sf h cs sl := own_static (argsL := [v0, v1, v2, v3]) hd hp w1 w2 w3 w4 hy hsz hlen rfl hf hl hc hs hM hsf (fun v h' xs ⟨w, e, q⟩ => by subst e; exact k w h' xs q)
theorem own_static5v {index : Nat} {v0 v1 v2 v3 v4 : Value} {q' : Value → Heap → List Addr → Prop} (hd : decode M.b pc = .ok (.invokestatic index, 3)) (hp : pc + 3 = pc') (w1 : (Jvm.Cond.methodLink M.y.cls index M'.y).before a0 K.Z = true) (w2 : (Jvm.Cond.static M'.y).before a0 K.Z = true) (w3 : (Jvm.Cond.initialized M'.y.cls).before a0 K.Z = true) (w4 : (Jvm.Cond.code M'.y M'.b M'.mx M'.ret).before a0 K.Z = true) (hy : M'.y.cls ≠ "java/lang/invoke/MethodHandle" ∧ M'.y.cls ≠ "java/lang/invoke/VarHandle") (hsz : Ls.length = M.mx) (hlen : ∀ sig, parseMethodDescriptor M'.y.desc = some sig → 5 = sig.parameters.length)
    (hf : Nat.ble (M'.R.frames + 1) M.R.frames = true) (hl : Nat.ble ((rest.map fun v => v.category).sum + (M'.mx + 11) + M'.R.locals) M.R.locals = true) (hc : Nat.ble (cs + M'.R.cells) M.R.cells = true) (hs : Nat.ble (sl + M'.R.slots) M.R.slots = true) (hM : own_Met K M' #[v0, v1, v2, v3, v4] sf' h (own_ret q')) (hsf : ∀ x ∈ sf', x ∈ sf) (k : ∀ w h' xs, q' w h' xs → own_WP K M Q pc' Ls (w :: rest) (xs ++ sf) h' (cs + M'.R.cells) (sl + M'.R.slots)) :
    own_WP K M Q pc Ls (v4 :: v3 :: v2 :: v1 :: v0 :: rest) sf h cs sl := own_static (argsL := [v0, v1, v2, v3, v4]) hd hp w1 w2 w3 w4 hy hsz hlen rfl hf hl hc hs hM hsf (fun v h' xs ⟨w, e, q⟩ => by subst e; exact k w h' xs q)
theorem own_special0n {index : Nat} {a : Addr} {q' : Heap → List Addr → Prop} (hd : decode M.b pc = .ok (.invokespecial index, 3)) (hp : pc + 3 = pc') (hn : M'.y.name = "<init>") (hrt : M'.ret = none) (w1 : (Jvm.Cond.methodLink M.y.cls index M'.y).before a0 K.Z = true) (w2 : (Jvm.Cond.instanceMethod M'.y).before a0 K.Z = true) (w3 : (Jvm.Cond.initialized M'.y.cls).before a0 K.Z = true) (w4 : (Jvm.Cond.code M'.y M'.b M'.mx M'.ret).before a0 K.Z = true) (hy : M'.y.cls ≠ "java/lang/invoke/MethodHandle" ∧ M'.y.cls ≠ "java/lang/invoke/VarHandle") (hsz : Ls.length = M.mx) (hlen : ∀ sig, parseMethodDescriptor M'.y.desc = some sig → 0 = sig.parameters.length)
    (hf : Nat.ble (M'.R.frames + 1) M.R.frames = true) (hl : Nat.ble ((rest.map fun v => v.category).sum + (M'.mx + 11) + M'.R.locals) M.R.locals = true) (hc : Nat.ble (cs + M'.R.cells) M.R.cells = true) (hs : Nat.ble (sl + M'.R.slots) M.R.slots = true) (hM : own_Met K M' #[.ref a] sf' h (own_void q')) (hsf : ∀ x ∈ sf', x ∈ sf) (k : ∀ h' xs, q' h' xs → own_WP K M Q pc' Ls rest (xs ++ sf) h' (cs + M'.R.cells) (sl + M'.R.slots)) :
    own_WP K M Q pc Ls (.ref a :: rest) sf h cs sl := own_special (argsL := []) hd hp hn hrt w1 w2 w3 w4 hy hsz hlen rfl hf hl hc hs hM hsf (fun v h' xs ⟨e, q⟩ => by subst e; exact k h' xs q)
theorem own_special1n {index : Nat} {a : Addr} {v0 : Value} {q' : Heap → List Addr → Prop} (hd : decode M.b pc = .ok (.invokespecial index, 3)) (hp : pc + 3 = pc') (hn : M'.y.name = "<init>") (hrt : M'.ret = none) (w1 : (Jvm.Cond.methodLink M.y.cls index M'.y).before a0 K.Z = true) (w2 : (Jvm.Cond.instanceMethod M'.y).before a0 K.Z = true) (w3 : (Jvm.Cond.initialized M'.y.cls).before a0 K.Z = true) (w4 : (Jvm.Cond.code M'.y M'.b M'.mx M'.ret).before a0 K.Z = true) (hy : M'.y.cls ≠ "java/lang/invoke/MethodHandle" ∧ M'.y.cls ≠ "java/lang/invoke/VarHandle") (hsz : Ls.length = M.mx) (hlen : ∀ sig, parseMethodDescriptor M'.y.desc = some sig → 1 = sig.parameters.length)
    (hf : Nat.ble (M'.R.frames + 1) M.R.frames = true) (hl : Nat.ble ((rest.map fun v => v.category).sum + (M'.mx + 11) + M'.R.locals) M.R.locals = true) (hc : Nat.ble (cs + M'.R.cells) M.R.cells = true) (hs : Nat.ble (sl + M'.R.slots) M.R.slots = true) (hM : own_Met K M' #[.ref a, v0] sf' h (own_void q')) (hsf : ∀ x ∈ sf', x ∈ sf) (k : ∀ h' xs, q' h' xs → own_WP K M Q pc' Ls rest (xs ++ sf) h' (cs + M'.R.cells) (sl + M'.R.slots)) :
    own_WP K M Q pc Ls (v0 :: .ref a :: rest) sf h cs sl := own_special (argsL := [v0]) hd hp hn hrt w1 w2 w3 w4 hy hsz hlen rfl hf hl hc hs hM hsf (fun v h' xs ⟨e, q⟩ => by subst e; exact k h' xs q)
theorem own_special2n {index : Nat} {a : Addr} {v0 v1 : Value} {q' : Heap → List Addr → Prop} (hd : decode M.b pc = .ok (.invokespecial index, 3)) (hp : pc + 3 = pc') (hn : M'.y.name = "<init>") (hrt : M'.ret = none) (w1 : (Jvm.Cond.methodLink M.y.cls index M'.y).before a0 K.Z = true) (w2 : (Jvm.Cond.instanceMethod M'.y).before a0 K.Z = true) (w3 : (Jvm.Cond.initialized M'.y.cls).before a0 K.Z = true) (w4 : (Jvm.Cond.code M'.y M'.b M'.mx M'.ret).before a0 K.Z = true) (hy : M'.y.cls ≠ "java/lang/invoke/MethodHandle" ∧ M'.y.cls ≠ "java/lang/invoke/VarHandle") (hsz : Ls.length = M.mx) (hlen : ∀ sig, parseMethodDescriptor M'.y.desc = some sig → 2 = sig.parameters.length)
    (hf : Nat.ble (M'.R.frames + 1) M.R.frames = true) (hl : Nat.ble ((rest.map fun v => v.category).sum + (M'.mx + 11) + M'.R.locals) M.R.locals = true) (hc : Nat.ble (cs + M'.R.cells) M.R.cells = true) (hs : Nat.ble (sl + M'.R.slots) M.R.slots = true) (hM : own_Met K M' #[.ref a, v0, v1] sf' h (own_void q')) (hsf : ∀ x ∈ sf', x ∈ sf) (k : ∀ h' xs, q' h' xs → own_WP K M Q pc' Ls rest (xs ++ sf) h' (cs + M'.R.cells) (sl + M'.R.slots)) :
    own_WP K M Q pc Ls (v1 :: v0 :: .ref a :: rest) sf h cs sl := own_special (argsL := [v0, v1]) hd hp hn hrt w1 w2 w3 w4 hy hsz hlen rfl hf hl hc hs hM hsf (fun v h' xs ⟨e, q⟩ => by subst e; exact k h' xs q)
theorem own_special3n {index : Nat} {a : Addr} {v0 v1 v2 : Value} {q' : Heap → List Addr → Prop} (hd : decode M.b pc = .ok (.invokespecial index, 3)) (hp : pc + 3 = pc') (hn : M'.y.name = "<init>") (hrt : M'.ret = none) (w1 : (Jvm.Cond.methodLink M.y.cls index M'.y).before a0 K.Z = true) (w2 : (Jvm.Cond.instanceMethod M'.y).before a0 K.Z = true) (w3 : (Jvm.Cond.initialized M'.y.cls).before a0 K.Z = true) (w4 : (Jvm.Cond.code M'.y M'.b M'.mx M'.ret).before a0 K.Z = true) (hy : M'.y.cls ≠ "java/lang/invoke/MethodHandle" ∧ M'.y.cls ≠ "java/lang/invoke/VarHandle") (hsz : Ls.length = M.mx) (hlen : ∀ sig, parseMethodDescriptor M'.y.desc = some sig → 3 = sig.parameters.length)
    (hf : Nat.ble (M'.R.frames + 1) M.R.frames = true) (hl : Nat.ble ((rest.map fun v => v.category).sum + (M'.mx + 11) + M'.R.locals) M.R.locals = true) (hc : Nat.ble (cs + M'.R.cells) M.R.cells = true) (hs : Nat.ble (sl + M'.R.slots) M.R.slots = true) (hM : own_Met K M' #[.ref a, v0, v1, v2] sf' h (own_void q')) (hsf : ∀ x ∈ sf', x ∈ sf) (k : ∀ h' xs, q' h' xs → own_WP K M Q pc' Ls rest (xs ++ sf) h' (cs + M'.R.cells) (sl + M'.R.slots)) :
    own_WP K M Q pc Ls (v2 :: v1 :: v0 :: .ref a :: rest) sf h cs sl := own_special (argsL := [v0, v1, v2]) hd hp hn hrt w1 w2 w3 w4 hy hsz hlen rfl hf hl hc hs hM hsf (fun v h' xs ⟨e, q⟩ => by subst e; exact k h' xs q)
theorem own_special4n {index : Nat} {a : Addr} {v0 v1 v2 v3 : Value} {q' : Heap → List Addr → Prop} (hd : decode M.b pc = .ok (.invokespecial index, 3)) (hp : pc + 3 = pc') (hn : M'.y.name = "<init>") (hrt : M'.ret = none) (w1 : (Jvm.Cond.methodLink M.y.cls index M'.y).before a0 K.Z = true) (w2 : (Jvm.Cond.instanceMethod M'.y).before a0 K.Z = true) (w3 : (Jvm.Cond.initialized M'.y.cls).before a0 K.Z = true) (w4 : (Jvm.Cond.code M'.y M'.b M'.mx M'.ret).before a0 K.Z = true) (hy : M'.y.cls ≠ "java/lang/invoke/MethodHandle" ∧ M'.y.cls ≠ "java/lang/invoke/VarHandle") (hsz : Ls.length = M.mx) (hlen : ∀ sig, parseMethodDescriptor M'.y.desc = some sig → 4 = sig.parameters.length)
    (hf : Nat.ble (M'.R.frames + 1) M.R.frames = true) (hl : Nat.ble ((rest.map fun v => v.category).sum + (M'.mx + 11) + M'.R.locals) M.R.locals = true) (hc : Nat.ble (cs + M'.R.cells) M.R.cells = true) (hs : Nat.ble (sl + M'.R.slots) M.R.slots = true) (hM : own_Met K M' #[.ref a, v0, v1, v2, v3] sf' h (own_void q')) (hsf : ∀ x ∈ sf', x ∈ sf) (k : ∀ h' xs, q' h' xs → own_WP K M Q pc' Ls rest (xs ++ sf) h' (cs + M'.R.cells) (sl + M'.R.slots)) :
    own_WP K M Q pc Ls (v3 :: v2 :: v1 :: v0 :: .ref a :: rest) sf h cs sl := own_special (argsL := [v0, v1, v2, v3]) hd hp hn hrt w1 w2 w3 w4 hy hsz hlen rfl hf hl hc hs hM hsf (fun v h' xs ⟨e, q⟩ => by subst e; exact k h' xs q)
theorem own_virtual0v {index : Nat} {a : Addr} {C : String} {q' : Value → Heap → List Addr → Prop} (hd : decode M.b pc = .ok (.invokevirtual index, 3)) (hp : pc + 3 = pc') (w1 : (Jvm.Cond.methodLink M.y.cls index M'.y).before a0 K.Z = true) (w2 : (Jvm.Cond.declares M'.y).before a0 K.Z = true) (w5 : (Jvm.Cond.selects C M'.y M'.y).before a0 K.Z = true) (w6 : (Jvm.Cond.instanceMethod M'.y).before a0 K.Z = true) (w3 : (Jvm.Cond.initialized M'.y.cls).before a0 K.Z = true) (w4 : (Jvm.Cond.code M'.y M'.b M'.mx M'.ret).before a0 K.Z = true) (hy : M'.y.cls ≠ "java/lang/invoke/MethodHandle" ∧ M'.y.cls ≠ "java/lang/invoke/VarHandle") (hsz : Ls.length = M.mx) (hlen : ∀ sig, parseMethodDescriptor M'.y.desc = some sig → 0 = sig.parameters.length)
    (hf : Nat.ble (M'.R.frames + 1) M.R.frames = true) (hl : Nat.ble ((rest.map fun v => v.category).sum + (M'.mx + 11) + M'.R.locals) M.R.locals = true) (hc : Nat.ble (cs + M'.R.cells) M.R.cells = true) (hs : Nat.ble (sl + M'.R.slots) M.R.slots = true) (E : Exa K.Z h a C) (hM : own_Met K M' #[.ref a] sf' h (own_ret q')) (hsf : ∀ x ∈ sf', x ∈ sf) (k : ∀ w h' xs, q' w h' xs → own_WP K M Q pc' Ls (w :: rest) (xs ++ sf) h' (cs + M'.R.cells) (sl + M'.R.slots)) :
    own_WP K M Q pc Ls (.ref a :: rest) sf h cs sl := own_virtual (argsL := []) hd hp w1 w2 w5 w6 w3 w4 hy hsz hlen rfl hf hl hc hs E hM hsf (fun v h' xs ⟨w, e, q⟩ => by subst e; exact k w h' xs q)
theorem own_virtual1v {index : Nat} {a : Addr} {C : String} {v0 : Value} {q' : Value → Heap → List Addr → Prop} (hd : decode M.b pc = .ok (.invokevirtual index, 3)) (hp : pc + 3 = pc') (w1 : (Jvm.Cond.methodLink M.y.cls index M'.y).before a0 K.Z = true) (w2 : (Jvm.Cond.declares M'.y).before a0 K.Z = true) (w5 : (Jvm.Cond.selects C M'.y M'.y).before a0 K.Z = true) (w6 : (Jvm.Cond.instanceMethod M'.y).before a0 K.Z = true) (w3 : (Jvm.Cond.initialized M'.y.cls).before a0 K.Z = true) (w4 : (Jvm.Cond.code M'.y M'.b M'.mx M'.ret).before a0 K.Z = true) (hy : M'.y.cls ≠ "java/lang/invoke/MethodHandle" ∧ M'.y.cls ≠ "java/lang/invoke/VarHandle") (hsz : Ls.length = M.mx) (hlen : ∀ sig, parseMethodDescriptor M'.y.desc = some sig → 1 = sig.parameters.length)
    (hf : Nat.ble (M'.R.frames + 1) M.R.frames = true) (hl : Nat.ble ((rest.map fun v => v.category).sum + (M'.mx + 11) + M'.R.locals) M.R.locals = true) (hc : Nat.ble (cs + M'.R.cells) M.R.cells = true) (hs : Nat.ble (sl + M'.R.slots) M.R.slots = true) (E : Exa K.Z h a C) (hM : own_Met K M' #[.ref a, v0] sf' h (own_ret q')) (hsf : ∀ x ∈ sf', x ∈ sf) (k : ∀ w h' xs, q' w h' xs → own_WP K M Q pc' Ls (w :: rest) (xs ++ sf) h' (cs + M'.R.cells) (sl + M'.R.slots)) :
    own_WP K M Q pc Ls (v0 :: .ref a :: rest) sf h cs sl := own_virtual (argsL := [v0]) hd hp w1 w2 w5 w6 w3 w4 hy hsz hlen rfl hf hl hc hs E hM hsf (fun v h' xs ⟨w, e, q⟩ => by subst e; exact k w h' xs q)
theorem own_virtual2v {index : Nat} {a : Addr} {C : String} {v0 v1 : Value} {q' : Value → Heap → List Addr → Prop} (hd : decode M.b pc = .ok (.invokevirtual index, 3)) (hp : pc + 3 = pc') (w1 : (Jvm.Cond.methodLink M.y.cls index M'.y).before a0 K.Z = true) (w2 : (Jvm.Cond.declares M'.y).before a0 K.Z = true) (w5 : (Jvm.Cond.selects C M'.y M'.y).before a0 K.Z = true) (w6 : (Jvm.Cond.instanceMethod M'.y).before a0 K.Z = true) (w3 : (Jvm.Cond.initialized M'.y.cls).before a0 K.Z = true) (w4 : (Jvm.Cond.code M'.y M'.b M'.mx M'.ret).before a0 K.Z = true) (hy : M'.y.cls ≠ "java/lang/invoke/MethodHandle" ∧ M'.y.cls ≠ "java/lang/invoke/VarHandle") (hsz : Ls.length = M.mx) (hlen : ∀ sig, parseMethodDescriptor M'.y.desc = some sig → 2 = sig.parameters.length)
    (hf : Nat.ble (M'.R.frames + 1) M.R.frames = true) (hl : Nat.ble ((rest.map fun v => v.category).sum + (M'.mx + 11) + M'.R.locals) M.R.locals = true) (hc : Nat.ble (cs + M'.R.cells) M.R.cells = true) (hs : Nat.ble (sl + M'.R.slots) M.R.slots = true) (E : Exa K.Z h a C) (hM : own_Met K M' #[.ref a, v0, v1] sf' h (own_ret q')) (hsf : ∀ x ∈ sf', x ∈ sf) (k : ∀ w h' xs, q' w h' xs → own_WP K M Q pc' Ls (w :: rest) (xs ++ sf) h' (cs + M'.R.cells) (sl + M'.R.slots)) :
    own_WP K M Q pc Ls (v1 :: v0 :: .ref a :: rest) sf h cs sl := own_virtual (argsL := [v0, v1]) hd hp w1 w2 w5 w6 w3 w4 hy hsz hlen rfl hf hl hc hs E hM hsf (fun v h' xs ⟨w, e, q⟩ => by subst e; exact k w h' xs q)
end Calls
section Plain
variable {K : own_Cx} {M : own_Mi} {Q : own_Q} {pc pc' : Nat} {Ls : List Slot} {St : List Value} {sf : List Addr} {h : Heap} {cs sl : Nat} {a0 : Array Value}
theorem own_get {α : Type} {L : List α} {k : Nat} {v : α} (q : L[k]? = some v) : L.toArray[k]? = some v := by simpa using q
theorem own_aload_n {i : Fin 4} {v : Value} (hp : pc + 1 = pc') (hd : decode M.b pc = .ok (.aload_n i, 1)) (hl : Ls[i.val]? = some (.val v)) (hv : v.isRef = true) (k : own_WP K M Q pc' Ls (v :: St) sf h cs sl) : own_WP K M Q pc Ls St sf h cs sl :=
  own_step k fun p e s m args below meth c T locs cs' sl' B X eT t q => XS.aloadN X.here B.1 rfl (hb B.2.1 hd) (own_get hl) hv (by subst hp; exact q)
theorem own_aload {i : Nat} {v : Value} (hp : pc + 2 = pc') (hd : decode M.b pc = .ok (.aload i, 2)) (hl : Ls[i]? = some (.val v)) (hv : v.isRef = true) (k : own_WP K M Q pc' Ls (v :: St) sf h cs sl) : own_WP K M Q pc Ls St sf h cs sl :=
  own_step k fun p e s m args below meth c T locs cs' sl' B X eT t q => XS.aload X.here B.1 rfl (hb B.2.1 hd) (own_get hl) hv (by subst hp; exact q)
theorem own_iload_n {i : Fin 4} {v : Int32} (hp : pc + 1 = pc') (hd : decode M.b pc = .ok (.iload_n i, 1)) (hl : Ls[i.val]? = some (.val (.int v))) (k : own_WP K M Q pc' Ls (.int v :: St) sf h cs sl) : own_WP K M Q pc Ls St sf h cs sl :=
  own_step k fun p e s m args below meth c T locs cs' sl' B X eT t q => XS.iloadN X.here B.1 rfl (hb B.2.1 hd) (own_get hl) (by subst hp; exact q)
theorem own_iload {i : Nat} {v : Int32} (hp : pc + 2 = pc') (hd : decode M.b pc = .ok (.iload i, 2)) (hl : Ls[i]? = some (.val (.int v))) (k : own_WP K M Q pc' Ls (.int v :: St) sf h cs sl) : own_WP K M Q pc Ls St sf h cs sl :=
  own_step k fun p e s m args below meth c T locs cs' sl' B X eT t q => XS.iload X.here B.1 rfl (hb B.2.1 hd) (own_get hl) (by subst hp; exact q)
theorem own_iconst {i : Int} {v : Int32} (hp : pc + 1 = pc') (hd : decode M.b pc = .ok (.iconst i, 1)) (hv : Int32.ofInt i = v) (k : own_WP K M Q pc' Ls (.int v :: St) sf h cs sl) : own_WP K M Q pc Ls St sf h cs sl :=
  own_step k fun p e s m args below meth c T locs cs' sl' B X eT t q => XS.iconst X.here B.1 rfl (hb B.2.1 hd) (by subst hp hv; exact q)
theorem own_bipush {i : Int} {v : Int32} (hp : pc + 2 = pc') (hd : decode M.b pc = .ok (.bipush i, 2)) (hv : (Int8.ofInt i).toInt32 = v) (k : own_WP K M Q pc' Ls (.int v :: St) sf h cs sl) : own_WP K M Q pc Ls St sf h cs sl :=
  own_step k fun p e s m args below meth c T locs cs' sl' B X eT t q => XS.bipush X.here B.1 rfl (hb B.2.1 hd) (by subst hp hv; exact q)
theorem own_sipush {i : Int} {v : Int32} (hp : pc + 3 = pc') (hd : decode M.b pc = .ok (.sipush i, 3)) (hv : (Int16.ofInt i).toInt32 = v) (k : own_WP K M Q pc' Ls (.int v :: St) sf h cs sl) : own_WP K M Q pc Ls St sf h cs sl :=
  own_step k fun p e s m args below meth c T locs cs' sl' B X eT t q => XS.sipush X.here B.1 rfl (hb B.2.1 hd) (by subst hp hv; exact q)
theorem own_aconst_null (hp : pc + 1 = pc') (hd : decode M.b pc = .ok (.aconst_null, 1)) (k : own_WP K M Q pc' Ls (.null :: St) sf h cs sl) : own_WP K M Q pc Ls St sf h cs sl :=
  own_step k fun p e s m args below meth c T locs cs' sl' B X eT t q => XS.aconstNull X.here B.1 rfl (hb B.2.1 hd) (by subst hp; exact q)
theorem own_iadd {x y : Int32} (hp : pc + 1 = pc') (hd : decode M.b pc = .ok (.iadd, 1)) (k : own_WP K M Q pc' Ls (.int (x + y) :: St) sf h cs sl) : own_WP K M Q pc Ls (.int y :: .int x :: St) sf h cs sl :=
  own_step k fun p e s m args below meth c T locs cs' sl' B X eT t q => XS.iadd X.here B.1 rfl (hb B.2.1 hd) rfl (by subst hp; exact q)
theorem own_isub {x y : Int32} (hp : pc + 1 = pc') (hd : decode M.b pc = .ok (.isub, 1)) (k : own_WP K M Q pc' Ls (.int (x - y) :: St) sf h cs sl) : own_WP K M Q pc Ls (.int y :: .int x :: St) sf h cs sl :=
  own_step k fun p e s m args below meth c T locs cs' sl' B X eT t q => XS.isub X.here B.1 rfl (hb B.2.1 hd) rfl (by subst hp; exact q)
theorem own_iand {x y : Int32} (hp : pc + 1 = pc') (hd : decode M.b pc = .ok (.iand, 1)) (k : own_WP K M Q pc' Ls (.int (x &&& y) :: St) sf h cs sl) : own_WP K M Q pc Ls (.int y :: .int x :: St) sf h cs sl :=
  own_step k fun p e s m args below meth c T locs cs' sl' B X eT t q => XS.iand X.here B.1 rfl (hb B.2.1 hd) rfl (by subst hp; exact q)
theorem own_ior {x y : Int32} (hp : pc + 1 = pc') (hd : decode M.b pc = .ok (.ior, 1)) (k : own_WP K M Q pc' Ls (.int (x ||| y) :: St) sf h cs sl) : own_WP K M Q pc Ls (.int y :: .int x :: St) sf h cs sl :=
  own_step k fun p e s m args below meth c T locs cs' sl' B X eT t q => XS.ior X.here B.1 rfl (hb B.2.1 hd) rfl (by subst hp; exact q)
theorem own_ishl {x y : Int32} (hp : pc + 1 = pc') (hd : decode M.b pc = .ok (.ishl, 1)) (k : own_WP K M Q pc' Ls (.int (x <<< (y &&& 31)) :: St) sf h cs sl) : own_WP K M Q pc Ls (.int y :: .int x :: St) sf h cs sl :=
  own_step k fun p e s m args below meth c T locs cs' sl' B X eT t q => XS.ishl X.here B.1 rfl (hb B.2.1 hd) rfl (by subst hp; exact q)
theorem own_ishr {x y : Int32} (hp : pc + 1 = pc') (hd : decode M.b pc = .ok (.ishr, 1)) (k : own_WP K M Q pc' Ls (.int (x >>> (y &&& 31)) :: St) sf h cs sl) : own_WP K M Q pc Ls (.int y :: .int x :: St) sf h cs sl :=
  own_step k fun p e s m args below meth c T locs cs' sl' B X eT t q => XS.ishr X.here B.1 rfl (hb B.2.1 hd) rfl (by subst hp; exact q)
theorem own_iushr {x y : Int32} (hp : pc + 1 = pc') (hd : decode M.b pc = .ok (.iushr, 1)) (k : own_WP K M Q pc' Ls (.int (XT.ushr x y) :: St) sf h cs sl) : own_WP K M Q pc Ls (.int y :: .int x :: St) sf h cs sl :=
  own_step k fun p e s m args below meth c T locs cs' sl' B X eT t q => XT.iushr X.here B.1 rfl (hb B.2.1 hd) rfl (by subst hp; exact q)
theorem own_irem {x y : Int32} (hp : pc + 1 = pc') (hd : decode M.b pc = .ok (.irem, 1)) (hy : y ≠ 0) (k : own_WP K M Q pc' Ls (.int (x % y) :: St) sf h cs sl) : own_WP K M Q pc Ls (.int y :: .int x :: St) sf h cs sl :=
  own_step k fun p e s m args below meth c T locs cs' sl' B X eT t q => XS.irem X.here B.1 rfl (hb B.2.1 hd) rfl hy (by subst hp; rw [irem_eq_mod]; exact q)
theorem own_i2b {x : Int32} (hp : pc + 1 = pc') (hd : decode M.b pc = .ok (.i2b, 1)) (k : own_WP K M Q pc' Ls (.int (x.toInt8.toInt32) :: St) sf h cs sl) : own_WP K M Q pc Ls (.int x :: St) sf h cs sl :=
  own_step k fun p e s m args below meth c T locs cs' sl' B X eT t q => XS.i2b X.here B.1 rfl (hb B.2.1 hd) rfl (by subst hp; exact q)
theorem own_i2c {x : Int32} (hp : pc + 1 = pc') (hd : decode M.b pc = .ok (.i2c, 1)) (k : own_WP K M Q pc' Ls (.int (x.toUInt32.toUInt16.toUInt32.toInt32) :: St) sf h cs sl) : own_WP K M Q pc Ls (.int x :: St) sf h cs sl :=
  own_step k fun p e s m args below meth c T locs cs' sl' B X eT t q => XS.i2c X.here B.1 rfl (hb B.2.1 hd) rfl (by subst hp; exact q)
theorem own_dup {x : Value} (hp : pc + 1 = pc') (hd : decode M.b pc = .ok (.dup, 1)) (hc : x.category = 1) (k : own_WP K M Q pc' Ls (x :: x :: St) sf h cs sl) : own_WP K M Q pc Ls (x :: St) sf h cs sl :=
  own_step k fun p e s m args below meth c T locs cs' sl' B X eT t q => XS.dup X.here B.1 rfl (hb B.2.1 hd) rfl hc (by subst hp; exact q)
theorem own_pop {x : Value} (hp : pc + 1 = pc') (hd : decode M.b pc = .ok (.pop, 1)) (hc : x.category = 1) (k : own_WP K M Q pc' Ls St sf h cs sl) : own_WP K M Q pc Ls (x :: St) sf h cs sl :=
  own_step k fun p e s m args below meth c T locs cs' sl' B X eT t q => XS.pop X.here B.1 rfl (hb B.2.1 hd) rfl hc (by subst hp; exact q)
theorem own_store {Ls : List Slot} {i : Nat} {v : Value} {o : Slot} (ho : One o) (hv : v.category = 1) (hold : Ls[i]? = some o) : storeLocals Ls.toArray i v = some (Ls.set i (.val v)).toArray := by
  rw [XS.store1 (own_get hold) ho hv]; simp
theorem own_istore_n1 {u0 o : Slot} {r : List Slot} {x : Int32} (hp : pc + 1 = pc') (hd : decode M.b pc = .ok (.istore_n 1, 1)) (ho : One o) (k : own_WP K M Q pc' (u0 :: .val (.int x) :: r) St sf h cs sl) : own_WP K M Q pc (u0 :: o :: r) (.int x :: St) sf h cs sl :=
  own_step k fun p e s m args below meth c T locs cs' sl' B X eT t q => XS.istoreN X.here B.1 rfl (hb B.2.1 hd) rfl (own_store (Ls := u0 :: o :: r) (i := 1) ho rfl rfl) (by subst hp; exact q)
theorem own_iinc_1 {u0 : Slot} {r : List Slot} {x : Int32} {cst : Int} {z : Int32} (hp : pc + 3 = pc') (hd : decode M.b pc = .ok (.iinc 1 cst, 3)) (hz : Int32.ofInt cst = z) (k : own_WP K M Q pc' (u0 :: .val (.int (x + z)) :: r) St sf h cs sl) : own_WP K M Q pc (u0 :: .val (.int x) :: r) St sf h cs sl :=
  own_step k fun p e s m args below meth c T locs cs' sl' B X eT t q => XS.iinc X.here B.1 rfl (hb B.2.1 hd) (x := x) (own_get (L := u0 :: .val (.int x) :: r) (k := 1) rfl) (own_store (Ls := u0 :: .val (.int x) :: r) (i := 1) (One.val rfl) rfl rfl) (by subst hp hz; exact q)
theorem own_istore_n3 {u0 u1 u2 o : Slot} {r : List Slot} {x : Int32} (hp : pc + 1 = pc') (hd : decode M.b pc = .ok (.istore_n 3, 1)) (ho : One o) (k : own_WP K M Q pc' (u0 :: u1 :: u2 :: .val (.int x) :: r) St sf h cs sl) : own_WP K M Q pc (u0 :: u1 :: u2 :: o :: r) (.int x :: St) sf h cs sl :=
  own_step k fun p e s m args below meth c T locs cs' sl' B X eT t q => XS.istoreN X.here B.1 rfl (hb B.2.1 hd) rfl (own_store (Ls := u0 :: u1 :: u2 :: o :: r) (i := 3) ho rfl rfl) (by subst hp; exact q)
theorem own_astore_n3 {u0 u1 u2 o : Slot} {r : List Slot} {x : Value} (hp : pc + 1 = pc') (hd : decode M.b pc = .ok (.astore_n 3, 1)) (ho : One o) (hv : x.isRef = true) (k : own_WP K M Q pc' (u0 :: u1 :: u2 :: .val x :: r) St sf h cs sl) : own_WP K M Q pc (u0 :: u1 :: u2 :: o :: r) (x :: St) sf h cs sl :=
  own_step k fun p e s m args below meth c T locs cs' sl' B X eT t q => XS.astoreN X.here B.1 rfl (hb B.2.1 hd) rfl hv (own_store (Ls := u0 :: u1 :: u2 :: o :: r) (i := 3) ho (by rcases ref_cases hv with rfl | ⟨_, rfl⟩ <;> rfl) rfl) (by subst hp; exact q)
theorem own_iinc_3 {u0 u1 u2 : Slot} {r : List Slot} {x : Int32} {cst : Int} {z : Int32} (hp : pc + 3 = pc') (hd : decode M.b pc = .ok (.iinc 3 cst, 3)) (hz : Int32.ofInt cst = z) (k : own_WP K M Q pc' (u0 :: u1 :: u2 :: .val (.int (x + z)) :: r) St sf h cs sl) : own_WP K M Q pc (u0 :: u1 :: u2 :: .val (.int x) :: r) St sf h cs sl :=
  own_step k fun p e s m args below meth c T locs cs' sl' B X eT t q => XS.iinc X.here B.1 rfl (hb B.2.1 hd) (x := x) (own_get (L := u0 :: u1 :: u2 :: .val (.int x) :: r) (k := 3) rfl) (own_store (Ls := u0 :: u1 :: u2 :: .val (.int x) :: r) (i := 3) (One.val rfl) rfl rfl) (by subst hp hz; exact q)
theorem own_istore_4 {u0 u1 u2 u3 o : Slot} {r : List Slot} {x : Int32} (hp : pc + 2 = pc') (hd : decode M.b pc = .ok (.istore 4, 2)) (ho : One o) (k : own_WP K M Q pc' (u0 :: u1 :: u2 :: u3 :: .val (.int x) :: r) St sf h cs sl) : own_WP K M Q pc (u0 :: u1 :: u2 :: u3 :: o :: r) (.int x :: St) sf h cs sl :=
  own_step k fun p e s m args below meth c T locs cs' sl' B X eT t q => XS.istore X.here B.1 rfl (hb B.2.1 hd) rfl (own_store (Ls := u0 :: u1 :: u2 :: u3 :: o :: r) (i := 4) ho rfl rfl) (by subst hp; exact q)
theorem own_astore_4 {u0 u1 u2 u3 o : Slot} {r : List Slot} {x : Value} (hp : pc + 2 = pc') (hd : decode M.b pc = .ok (.astore 4, 2)) (ho : One o) (hv : x.isRef = true) (k : own_WP K M Q pc' (u0 :: u1 :: u2 :: u3 :: .val x :: r) St sf h cs sl) : own_WP K M Q pc (u0 :: u1 :: u2 :: u3 :: o :: r) (x :: St) sf h cs sl :=
  own_step k fun p e s m args below meth c T locs cs' sl' B X eT t q => XS.astore X.here B.1 rfl (hb B.2.1 hd) rfl hv (own_store (Ls := u0 :: u1 :: u2 :: u3 :: o :: r) (i := 4) ho (by rcases ref_cases hv with rfl | ⟨_, rfl⟩ <;> rfl) rfl) (by subst hp; exact q)
theorem own_iinc_4 {u0 u1 u2 u3 : Slot} {r : List Slot} {x : Int32} {cst : Int} {z : Int32} (hp : pc + 3 = pc') (hd : decode M.b pc = .ok (.iinc 4 cst, 3)) (hz : Int32.ofInt cst = z) (k : own_WP K M Q pc' (u0 :: u1 :: u2 :: u3 :: .val (.int (x + z)) :: r) St sf h cs sl) : own_WP K M Q pc (u0 :: u1 :: u2 :: u3 :: .val (.int x) :: r) St sf h cs sl :=
  own_step k fun p e s m args below meth c T locs cs' sl' B X eT t q => XS.iinc X.here B.1 rfl (hb B.2.1 hd) (x := x) (own_get (L := u0 :: u1 :: u2 :: u3 :: .val (.int x) :: r) (k := 4) rfl) (own_store (Ls := u0 :: u1 :: u2 :: u3 :: .val (.int x) :: r) (i := 4) (One.val rfl) rfl rfl) (by subst hp hz; exact q)
theorem own_istore_5 {u0 u1 u2 u3 u4 o : Slot} {r : List Slot} {x : Int32} (hp : pc + 2 = pc') (hd : decode M.b pc = .ok (.istore 5, 2)) (ho : One o) (k : own_WP K M Q pc' (u0 :: u1 :: u2 :: u3 :: u4 :: .val (.int x) :: r) St sf h cs sl) : own_WP K M Q pc (u0 :: u1 :: u2 :: u3 :: u4 :: o :: r) (.int x :: St) sf h cs sl :=
  own_step k fun p e s m args below meth c T locs cs' sl' B X eT t q => XS.istore X.here B.1 rfl (hb B.2.1 hd) rfl (own_store (Ls := u0 :: u1 :: u2 :: u3 :: u4 :: o :: r) (i := 5) ho rfl rfl) (by subst hp; exact q)
theorem own_astore_5 {u0 u1 u2 u3 u4 o : Slot} {r : List Slot} {x : Value} (hp : pc + 2 = pc') (hd : decode M.b pc = .ok (.astore 5, 2)) (ho : One o) (hv : x.isRef = true) (k : own_WP K M Q pc' (u0 :: u1 :: u2 :: u3 :: u4 :: .val x :: r) St sf h cs sl) : own_WP K M Q pc (u0 :: u1 :: u2 :: u3 :: u4 :: o :: r) (x :: St) sf h cs sl :=
  own_step k fun p e s m args below meth c T locs cs' sl' B X eT t q => XS.astore X.here B.1 rfl (hb B.2.1 hd) rfl hv (own_store (Ls := u0 :: u1 :: u2 :: u3 :: u4 :: o :: r) (i := 5) ho (by rcases ref_cases hv with rfl | ⟨_, rfl⟩ <;> rfl) rfl) (by subst hp; exact q)
theorem own_iinc_5 {u0 u1 u2 u3 u4 : Slot} {r : List Slot} {x : Int32} {cst : Int} {z : Int32} (hp : pc + 3 = pc') (hd : decode M.b pc = .ok (.iinc 5 cst, 3)) (hz : Int32.ofInt cst = z) (k : own_WP K M Q pc' (u0 :: u1 :: u2 :: u3 :: u4 :: .val (.int (x + z)) :: r) St sf h cs sl) : own_WP K M Q pc (u0 :: u1 :: u2 :: u3 :: u4 :: .val (.int x) :: r) St sf h cs sl :=
  own_step k fun p e s m args below meth c T locs cs' sl' B X eT t q => XS.iinc X.here B.1 rfl (hb B.2.1 hd) (x := x) (own_get (L := u0 :: u1 :: u2 :: u3 :: u4 :: .val (.int x) :: r) (k := 5) rfl) (own_store (Ls := u0 :: u1 :: u2 :: u3 :: u4 :: .val (.int x) :: r) (i := 5) (One.val rfl) rfl rfl) (by subst hp hz; exact q)
theorem own_istore_6 {u0 u1 u2 u3 u4 u5 o : Slot} {r : List Slot} {x : Int32} (hp : pc + 2 = pc') (hd : decode M.b pc = .ok (.istore 6, 2)) (ho : One o) (k : own_WP K M Q pc' (u0 :: u1 :: u2 :: u3 :: u4 :: u5 :: .val (.int x) :: r) St sf h cs sl) : own_WP K M Q pc (u0 :: u1 :: u2 :: u3 :: u4 :: u5 :: o :: r) (.int x :: St) sf h cs sl :=
  own_step k fun p e s m args below meth c T locs cs' sl' B X eT t q => XS.istore X.here B.1 rfl (hb B.2.1 hd) rfl (own_store (Ls := u0 :: u1 :: u2 :: u3 :: u4 :: u5 :: o :: r) (i := 6) ho rfl rfl) (by subst hp; exact q)
theorem own_istore_7 {u0 u1 u2 u3 u4 u5 u6 o : Slot} {r : List Slot} {x : Int32} (hp : pc + 2 = pc') (hd : decode M.b pc = .ok (.istore 7, 2)) (ho : One o) (k : own_WP K M Q pc' (u0 :: u1 :: u2 :: u3 :: u4 :: u5 :: u6 :: .val (.int x) :: r) St sf h cs sl) : own_WP K M Q pc (u0 :: u1 :: u2 :: u3 :: u4 :: u5 :: u6 :: o :: r) (.int x :: St) sf h cs sl :=
  own_step k fun p e s m args below meth c T locs cs' sl' B X eT t q => XS.istore X.here B.1 rfl (hb B.2.1 hd) rfl (own_store (Ls := u0 :: u1 :: u2 :: u3 :: u4 :: u5 :: u6 :: o :: r) (i := 7) ho rfl rfl) (by subst hp; exact q)
theorem own_istore_8 {u0 u1 u2 u3 u4 u5 u6 u7 o : Slot} {r : List Slot} {x : Int32} (hp : pc + 2 = pc') (hd : decode M.b pc = .ok (.istore 8, 2)) (ho : One o) (k : own_WP K M Q pc' (u0 :: u1 :: u2 :: u3 :: u4 :: u5 :: u6 :: u7 :: .val (.int x) :: r) St sf h cs sl) : own_WP K M Q pc (u0 :: u1 :: u2 :: u3 :: u4 :: u5 :: u6 :: u7 :: o :: r) (.int x :: St) sf h cs sl :=
  own_step k fun p e s m args below meth c T locs cs' sl' B X eT t q => XS.istore X.here B.1 rfl (hb B.2.1 hd) rfl (own_store (Ls := u0 :: u1 :: u2 :: u3 :: u4 :: u5 :: u6 :: u7 :: o :: r) (i := 8) ho rfl rfl) (by subst hp; exact q)
theorem own_istore_9 {u0 u1 u2 u3 u4 u5 u6 u7 u8 o : Slot} {r : List Slot} {x : Int32} (hp : pc + 2 = pc') (hd : decode M.b pc = .ok (.istore 9, 2)) (ho : One o) (k : own_WP K M Q pc' (u0 :: u1 :: u2 :: u3 :: u4 :: u5 :: u6 :: u7 :: u8 :: .val (.int x) :: r) St sf h cs sl) : own_WP K M Q pc (u0 :: u1 :: u2 :: u3 :: u4 :: u5 :: u6 :: u7 :: u8 :: o :: r) (.int x :: St) sf h cs sl :=
  own_step k fun p e s m args below meth c T locs cs' sl' B X eT t q => XS.istore X.here B.1 rfl (hb B.2.1 hd) rfl (own_store (Ls := u0 :: u1 :: u2 :: u3 :: u4 :: u5 :: u6 :: u7 :: u8 :: o :: r) (i := 9) ho rfl rfl) (by subst hp; exact q)
theorem own_astore_10 {u0 u1 u2 u3 u4 u5 u6 u7 u8 u9 o : Slot} {r : List Slot} {x : Value} (hp : pc + 2 = pc') (hd : decode M.b pc = .ok (.astore 10, 2)) (ho : One o) (hv : x.isRef = true) (k : own_WP K M Q pc' (u0 :: u1 :: u2 :: u3 :: u4 :: u5 :: u6 :: u7 :: u8 :: u9 :: .val x :: r) St sf h cs sl) : own_WP K M Q pc (u0 :: u1 :: u2 :: u3 :: u4 :: u5 :: u6 :: u7 :: u8 :: u9 :: o :: r) (x :: St) sf h cs sl :=
  own_step k fun p e s m args below meth c T locs cs' sl' B X eT t q => XS.astore X.here B.1 rfl (hb B.2.1 hd) rfl hv (own_store (Ls := u0 :: u1 :: u2 :: u3 :: u4 :: u5 :: u6 :: u7 :: u8 :: u9 :: o :: r) (i := 10) ho (by rcases ref_cases hv with rfl | ⟨_, rfl⟩ <;> rfl) rfl) (by subst hp; exact q)
theorem own_astore_11 {u0 u1 u2 u3 u4 u5 u6 u7 u8 u9 u10 o : Slot} {r : List Slot} {x : Value} (hp : pc + 2 = pc') (hd : decode M.b pc = .ok (.astore 11, 2)) (ho : One o) (hv : x.isRef = true) (k : own_WP K M Q pc' (u0 :: u1 :: u2 :: u3 :: u4 :: u5 :: u6 :: u7 :: u8 :: u9 :: u10 :: .val x :: r) St sf h cs sl) : own_WP K M Q pc (u0 :: u1 :: u2 :: u3 :: u4 :: u5 :: u6 :: u7 :: u8 :: u9 :: u10 :: o :: r) (x :: St) sf h cs sl :=
  own_step k fun p e s m args below meth c T locs cs' sl' B X eT t q => XS.astore X.here B.1 rfl (hb B.2.1 hd) rfl hv (own_store (Ls := u0 :: u1 :: u2 :: u3 :: u4 :: u5 :: u6 :: u7 :: u8 :: u9 :: u10 :: o :: r) (i := 11) ho (by rcases ref_cases hv with rfl | ⟨_, rfl⟩ <;> rfl) rfl) (by subst hp; exact q)
theorem own_istore_12 {u0 u1 u2 u3 u4 u5 u6 u7 u8 u9 u10 u11 o : Slot} {r : List Slot} {x : Int32} (hp : pc + 2 = pc') (hd : decode M.b pc = .ok (.istore 12, 2)) (ho : One o) (k : own_WP K M Q pc' (u0 :: u1 :: u2 :: u3 :: u4 :: u5 :: u6 :: u7 :: u8 :: u9 :: u10 :: u11 :: .val (.int x) :: r) St sf h cs sl) : own_WP K M Q pc (u0 :: u1 :: u2 :: u3 :: u4 :: u5 :: u6 :: u7 :: u8 :: u9 :: u10 :: u11 :: o :: r) (.int x :: St) sf h cs sl :=
  own_step k fun p e s m args below meth c T locs cs' sl' B X eT t q => XS.istore X.here B.1 rfl (hb B.2.1 hd) rfl (own_store (Ls := u0 :: u1 :: u2 :: u3 :: u4 :: u5 :: u6 :: u7 :: u8 :: u9 :: u10 :: u11 :: o :: r) (i := 12) ho rfl rfl) (by subst hp; exact q)
theorem own_goto {o : Int} (hd : decode M.b pc = .ok (.goto o, 3)) (ho : 0 ≤ (pc : Int) + o) (hp : ((pc : Int) + o).toNat = pc') (k : own_WP K M Q pc' Ls St sf h cs sl) : own_WP K M Q pc Ls St sf h cs sl :=
  own_step k fun p e s m args below meth c T locs cs' sl' B X eT t q => XS.goto X.here B.1 rfl (pc0 := pc) rfl (hb B.2.1 hd) ho hp q
theorem own_if {cd : ClassFile.Cond} {o : Int} {x : Int32} {pcT pcF : Nat} (hd : decode M.b pc = .ok (.ifCond cd o, 3)) (ho : 0 ≤ (pc : Int) + o) (hp : ((pc : Int) + o).toNat = pcT) (hp' : pc + 3 = pcF)
    (kT : ifCond.holds cd x = true → own_WP K M Q pcT Ls St sf h cs sl) (kF : ifCond.holds cd x = false → own_WP K M Q pcF Ls St sf h cs sl) : own_WP K M Q pc Ls (.int x :: St) sf h cs sl := by
  cases hc : ifCond.holds cd x
  · exact own_step (kF hc) fun p e s m args below meth c T locs cs' sl' B X eT t q => XS.ifNo X.here B.1 rfl (hb B.2.1 hd) rfl hc (by subst hp'; exact q)
  · exact own_step (kT hc) fun p e s m args below meth c T locs cs' sl' B X eT t q => XS.ifYes X.here B.1 rfl (pc0 := pc) rfl (hb B.2.1 hd) rfl hc ho hp q
theorem own_icmp {cd : ClassFile.Cond} {o : Int} {x y : Int32} {pcT pcF : Nat} (hd : decode M.b pc = .ok (.if_icmp cd o, 3)) (ho : 0 ≤ (pc : Int) + o) (hp : ((pc : Int) + o).toNat = pcT) (hp' : pc + 3 = pcF)
    (kT : if_icmp.holds cd x y = true → own_WP K M Q pcT Ls St sf h cs sl) (kF : if_icmp.holds cd x y = false → own_WP K M Q pcF Ls St sf h cs sl) : own_WP K M Q pc Ls (.int y :: .int x :: St) sf h cs sl := by
  cases hc : if_icmp.holds cd x y
  · exact own_step (kF hc) fun p e s m args below meth c T locs cs' sl' B X eT t q => XS.icmpNo X.here B.1 rfl (hb B.2.1 hd) rfl hc (by subst hp'; exact q)
  · exact own_step (kT hc) fun p e s m args below meth c T locs cs' sl' B X eT t q => XS.icmpYes X.here B.1 rfl (pc0 := pc) rfl (hb B.2.1 hd) rfl hc ho hp q
theorem own_ifeq {o : Int} {x : Int32} {pcT pcF : Nat} (hd : decode M.b pc = .ok (.ifCond .eq o, 3)) (ho : 0 ≤ (pc : Int) + o) (hp : ((pc : Int) + o).toNat = pcT) (hp' : pc + 3 = pcF) (kT : x = 0 → own_WP K M Q pcT Ls St sf h cs sl) (kF : ¬ x = 0 → own_WP K M Q pcF Ls St sf h cs sl) : own_WP K M Q pc Ls (.int x :: St) sf h cs sl := by
  refine own_if hd ho hp hp' (fun c => ?_) (fun c => ?_)
  · rw [if0] at c; by_cases q : x = 0
    · exact kT q
    · have z := (feq q).1; rw [z] at c; cases c
  · rw [if0] at c; by_cases q : x = 0
    · have z := (teq q).1; rw [z] at c; cases c
    · exact kF q
theorem own_icmpeq {o : Int} {x y : Int32} {pcT pcF : Nat} (hd : decode M.b pc = .ok (.if_icmp .eq o, 3)) (ho : 0 ≤ (pc : Int) + o) (hp : ((pc : Int) + o).toNat = pcT) (hp' : pc + 3 = pcF) (kT : x = y → own_WP K M Q pcT Ls St sf h cs sl) (kF : ¬ x = y → own_WP K M Q pcF Ls St sf h cs sl) : own_WP K M Q pc Ls (.int y :: .int x :: St) sf h cs sl := by
  refine own_icmp hd ho hp hp' (fun c => ?_) (fun c => ?_)
  · by_cases q : x = y
    · exact kT q
    · have z := (feq q).1; rw [z] at c; cases c
  · by_cases q : x = y
    · have z := (teq q).1; rw [z] at c; cases c
    · exact kF q
theorem own_ifne {o : Int} {x : Int32} {pcT pcF : Nat} (hd : decode M.b pc = .ok (.ifCond .ne o, 3)) (ho : 0 ≤ (pc : Int) + o) (hp : ((pc : Int) + o).toNat = pcT) (hp' : pc + 3 = pcF) (kT : ¬ x = 0 → own_WP K M Q pcT Ls St sf h cs sl) (kF : x = 0 → own_WP K M Q pcF Ls St sf h cs sl) : own_WP K M Q pc Ls (.int x :: St) sf h cs sl := by
  refine own_if hd ho hp hp' (fun c => ?_) (fun c => ?_)
  · rw [if0] at c; by_cases q : x = 0
    · have z := (teq q).2; rw [z] at c; cases c
    · exact kT q
  · rw [if0] at c; by_cases q : x = 0
    · exact kF q
    · have z := (feq q).2; rw [z] at c; cases c
theorem own_icmpne {o : Int} {x y : Int32} {pcT pcF : Nat} (hd : decode M.b pc = .ok (.if_icmp .ne o, 3)) (ho : 0 ≤ (pc : Int) + o) (hp : ((pc : Int) + o).toNat = pcT) (hp' : pc + 3 = pcF) (kT : ¬ x = y → own_WP K M Q pcT Ls St sf h cs sl) (kF : x = y → own_WP K M Q pcF Ls St sf h cs sl) : own_WP K M Q pc Ls (.int y :: .int x :: St) sf h cs sl := by
  refine own_icmp hd ho hp hp' (fun c => ?_) (fun c => ?_)
  · by_cases q : x = y
    · have z := (teq q).2; rw [z] at c; cases c
    · exact kT q
  · by_cases q : x = y
    · exact kF q
    · have z := (feq q).2; rw [z] at c; cases c
theorem own_iflt {o : Int} {x : Int32} {pcT pcF : Nat} (hd : decode M.b pc = .ok (.ifCond .lt o, 3)) (ho : 0 ≤ (pc : Int) + o) (hp : ((pc : Int) + o).toNat = pcT) (hp' : pc + 3 = pcF) (kT : x < 0 → own_WP K M Q pcT Ls St sf h cs sl) (kF : ¬ x < 0 → own_WP K M Q pcF Ls St sf h cs sl) : own_WP K M Q pc Ls (.int x :: St) sf h cs sl := by
  refine own_if hd ho hp hp' (fun c => ?_) (fun c => ?_)
  · rw [if0] at c; by_cases q : x < 0
    · exact kT q
    · have z := (flt q).1; rw [z] at c; cases c
  · rw [if0] at c; by_cases q : x < 0
    · have z := (tlt q).1; rw [z] at c; cases c
    · exact kF q
theorem own_icmplt {o : Int} {x y : Int32} {pcT pcF : Nat} (hd : decode M.b pc = .ok (.if_icmp .lt o, 3)) (ho : 0 ≤ (pc : Int) + o) (hp : ((pc : Int) + o).toNat = pcT) (hp' : pc + 3 = pcF) (kT : x < y → own_WP K M Q pcT Ls St sf h cs sl) (kF : ¬ x < y → own_WP K M Q pcF Ls St sf h cs sl) : own_WP K M Q pc Ls (.int y :: .int x :: St) sf h cs sl := by
  refine own_icmp hd ho hp hp' (fun c => ?_) (fun c => ?_)
  · by_cases q : x < y
    · exact kT q
    · have z := (flt q).1; rw [z] at c; cases c
  · by_cases q : x < y
    · have z := (tlt q).1; rw [z] at c; cases c
    · exact kF q
theorem own_ifge {o : Int} {x : Int32} {pcT pcF : Nat} (hd : decode M.b pc = .ok (.ifCond .ge o, 3)) (ho : 0 ≤ (pc : Int) + o) (hp : ((pc : Int) + o).toNat = pcT) (hp' : pc + 3 = pcF) (kT : ¬ x < 0 → own_WP K M Q pcT Ls St sf h cs sl) (kF : x < 0 → own_WP K M Q pcF Ls St sf h cs sl) : own_WP K M Q pc Ls (.int x :: St) sf h cs sl := by
  refine own_if hd ho hp hp' (fun c => ?_) (fun c => ?_)
  · rw [if0] at c; by_cases q : x < 0
    · have z := (tlt q).2.1; rw [z] at c; cases c
    · exact kT q
  · rw [if0] at c; by_cases q : x < 0
    · exact kF q
    · have z := (flt q).2.1; rw [z] at c; cases c
theorem own_icmpge {o : Int} {x y : Int32} {pcT pcF : Nat} (hd : decode M.b pc = .ok (.if_icmp .ge o, 3)) (ho : 0 ≤ (pc : Int) + o) (hp : ((pc : Int) + o).toNat = pcT) (hp' : pc + 3 = pcF) (kT : ¬ x < y → own_WP K M Q pcT Ls St sf h cs sl) (kF : x < y → own_WP K M Q pcF Ls St sf h cs sl) : own_WP K M Q pc Ls (.int y :: .int x :: St) sf h cs sl := by
  refine own_icmp hd ho hp hp' (fun c => ?_) (fun c => ?_)
  · by_cases q : x < y
    · have z := (tlt q).2.1; rw [z] at c; cases c
    · exact kT q
  · by_cases q : x < y
    · exact kF q
    · have z := (flt q).2.1; rw [z] at c; cases c
theorem own_icmpgt {o : Int} {x y : Int32} {pcT pcF : Nat} (hd : decode M.b pc = .ok (.if_icmp .gt o, 3)) (ho : 0 ≤ (pc : Int) + o) (hp : ((pc : Int) + o).toNat = pcT) (hp' : pc + 3 = pcF) (kT : y < x → own_WP K M Q pcT Ls St sf h cs sl) (kF : ¬ y < x → own_WP K M Q pcF Ls St sf h cs sl) : own_WP K M Q pc Ls (.int y :: .int x :: St) sf h cs sl := by
  refine own_icmp hd ho hp hp' (fun c => ?_) (fun c => ?_)
  · by_cases q : y < x
    · exact kT q
    · have z := (flt q).2.2.1; rw [z] at c; cases c
  · by_cases q : y < x
    · have z := (tlt q).2.2.1; rw [z] at c; cases c
    · exact kF q
theorem own_icmple {o : Int} {x y : Int32} {pcT pcF : Nat} (hd : decode M.b pc = .ok (.if_icmp .le o, 3)) (ho : 0 ≤ (pc : Int) + o) (hp : ((pc : Int) + o).toNat = pcT) (hp' : pc + 3 = pcF) (kT : ¬ y < x → own_WP K M Q pcT Ls St sf h cs sl) (kF : y < x → own_WP K M Q pcF Ls St sf h cs sl) : own_WP K M Q pc Ls (.int y :: .int x :: St) sf h cs sl := by
  refine own_icmp hd ho hp hp' (fun c => ?_) (fun c => ?_)
  · by_cases q : y < x
    · have z := (tlt q).2.2.2; rw [z] at c; cases c
    · exact kT q
  · by_cases q : y < x
    · exact kF q
    · have z := (flt q).2.2.2; rw [z] at c; cases c
/-- returns -/
theorem own_return {qn : Heap → List Addr → Prop} (hr : M.ret = none) (hd : decode M.b pc = .ok (.return_, 1)) (hc : Nat.ble cs M.R.cells = true) (hs : Nat.ble sl M.R.slots = true) (q : qn h sf) : own_WP K M (own_void qn) pc Ls [] sf h cs sl :=
  own_leave (v := none) (fun _ => rfl) (Nat.le_of_ble_eq_true hc) (Nat.le_of_ble_eq_true hs) ⟨rfl, q⟩ fun p e s m args below meth c T locs cs' sl' B X fs hl => X.returnOut B.1 (by rw [B.2.2.2.2.2.1, hr]) (hb B.2.1 hd) hl
theorem own_ireturn {qv : Value → Heap → List Addr → Prop} {z : Int32} (hr : M.ret = some .int) (hd : decode M.b pc = .ok (.ireturn, 1)) (hc : Nat.ble cs M.R.cells = true) (hs : Nat.ble sl M.R.slots = true) (q : qv (.int z) h sf) : own_WP K M (own_ret qv) pc Ls (.int z :: St) sf h cs sl :=
  own_leave (v := some (.int z)) (fun n => by rw [hr] at n; cases n) (Nat.le_of_ble_eq_true hc) (Nat.le_of_ble_eq_true hs) ⟨_, rfl, q⟩ fun p e s m args below meth c T locs cs' sl' B X fs hl => retOut X B.1 (t := .int) (by rw [B.2.2.2.2.2.1, hr]) rfl (Or.inl ⟨rfl, Or.inl rfl, z, rfl⟩) (hb B.2.1 hd) hl
theorem own_ireturnN {qv : Value → Heap → List Addr → Prop} {t : FieldType} {z z' : Int32} (hr : M.ret = some t) (ht : t = .boolean ∨ t = .byte ∨ t = .char ∨ t = .short) (hz : nar t z = z') (hd : decode M.b pc = .ok (.ireturn, 1)) (hc : Nat.ble cs M.R.cells = true) (hs : Nat.ble sl M.R.slots = true) (q : qv (.int z') h sf) : own_WP K M (own_ret qv) pc Ls (.int z :: St) sf h cs sl :=
  own_leave (v := some (.int z')) (fun n => by rw [hr] at n; cases n) (Nat.le_of_ble_eq_true hc) (Nat.le_of_ble_eq_true hs) ⟨_, rfl, q⟩ fun p e s m args below meth c T locs cs' sl' B X fs hl => retN X B.1 (t := t) (by rw [B.2.2.2.2.2.1, hr]) ht (hb B.2.1 hd) (by rw [hz]; exact hl)
theorem own_areturn {qv : Value → Heap → List Addr → Prop} {t : FieldType} {v : Value} (hr : M.ret = some t) (ht : t.isReference = true) (hv : v.isRef = true) (hd : decode M.b pc = .ok (.areturn, 1)) (hc : Nat.ble cs M.R.cells = true) (hs : Nat.ble sl M.R.slots = true) (q : qv v h sf) : own_WP K M (own_ret qv) pc Ls (v :: St) sf h cs sl :=
  own_leave (v := some v) (fun n => by rw [hr] at n; cases n) (Nat.le_of_ble_eq_true hc) (Nat.le_of_ble_eq_true hs) ⟨_, rfl, q⟩ fun p e s m args below meth c T locs cs' sl' B X fs hl => retOut X B.1 (t := t) (by rw [B.2.2.2.2.2.1, hr]) (by cases t <;> first | (cases ht; done) | (rcases ref_cases hv with rfl | ⟨_, rfl⟩ <;> rfl)) (Or.inr (Or.inr (Or.inr (Or.inr ⟨rfl, ht, hv⟩)))) (hb B.2.1 hd) hl
/-- constants of the pool, fields, statics, new objects and arrays -/
theorem own_ldcI {index : Nat} {v : Int32} (hp : pc + 2 = pc') (hd : decode M.b pc = .ok (.ldc index, 2)) (w : (Jvm.Cond.constant M.y.cls index v).before a0 K.Z = true) (k : own_WP K M Q pc' Ls (.int v :: St) sf h cs sl) : own_WP K M Q pc Ls St sf h cs sl :=
  own_step k fun p e s m args below meth c T locs cs' sl' B X eT t q => X.ldcInt B.1 B.2.2.2.1 (mv B.2.2.2.2.2.2.2.1 w) (g := mkF m pc Ls.toArray St) rfl (hb B.2.1 hd) t (by subst hp; exact q)
theorem own_getF {index : Nat} {R0 O n d : String} {a : Addr} {v : Value} (hp : pc + 3 = pc') (hd : decode M.b pc = .ok (.getfield index, 3)) (w : (Jvm.Cond.fieldLink M.y.cls index R0 n d).before a0 K.Z = true) (via : Via K.Z R0 O n d) (F : Fld K.Z h a O n d v) (k : own_WP K M Q pc' Ls (v :: St) sf h cs sl) : own_WP K M Q pc Ls (.ref a :: St) sf h cs sl := by
  subst hp
  exact own_move k fun p e s m args below meth c T locs cs' sl' B X eT hE => getF X B.1 B.2.2.2.2.2.2.2.1 (host := "") B.2.2.2.1 (Or.inl w) via eT F (g := mkF m pc Ls.toArray (.ref a :: St)) rfl rfl (hb B.2.1 hd)
theorem own_getS {index : Nat} {R0 O n d : String} {v : Value} (hp : pc + 3 = pc') (hd : decode M.b pc = .ok (.getstatic index, 3)) (w : (Jvm.Cond.fieldLink M.y.cls index R0 n d).before a0 K.Z = true) (via : Via K.Z R0 O n d) (F : Sta K.Z K.Z.heap O n d v) (k : own_WP K M Q pc' Ls (v :: St) sf h cs sl) : own_WP K M Q pc Ls St sf h cs sl := by
  subst hp
  exact own_move k fun p e s m args below meth c T locs cs' sl' B X eT hE => getS X B.1 B.2.2.2.2.2.2.2.1 (host := "") B.2.2.2.1 w via eT (F.ext hE) (g := mkF m pc Ls.toArray St) rfl (hb B.2.1 hd)
theorem own_new {index n : Nat} {C : String} (hp : pc + 3 = pc') (hd : decode M.b pc = .ok (.new index, 3)) (w : (Jvm.Cond.classLink M.y.cls index C).before a0 K.Z = true) (wi : (Jvm.Cond.instantiable C n).before a0 K.Z = true) (wz : (Jvm.Cond.initialized C).before a0 K.Z = true) (hc : Nat.ble (cs + 1) M.R.cells = true) (hs : Nat.ble (sl + n) M.R.slots = true)
    (k : ∀ (a : Addr) (h' : Heap), @Eq Nat a h.size → Ext h h' → Exa K.Z h' a C → (∀ {O nm d : String} {ty : FieldType}, Laid K.Z a0 C O nm d → parseFieldDescriptor d = some ty → Fld K.Z h' a O nm d (defaultValue ty)) → own_WP K M Q pc' Ls (.ref a :: St) (a :: sf) h' (cs + 1) (sl + n)) : own_WP K M Q pc Ls St sf h cs sl := by
  subst hp
  refine own_grow (P := fun h' => Exa K.Z h' h.size C ∧ (∀ {O nm d : String} {ty : FieldType}, Laid K.Z a0 C O nm d → parseFieldDescriptor d = some ty → Fld K.Z h' h.size O nm d (defaultValue ty))) (Nat.le_of_ble_eq_true hc) (Nat.le_of_ble_eq_true hs) (fun h' E P => k _ h' rfl E P.1 P.2) ?_
  intro p e s m args below meth c T locs cs' sl' B X hc' hs' eT
  obtain ⟨T', h', X', e', E, A, D, -, st⟩ := newO X B.1 B.2.2.2.2.2.2.2.1 B.2.2.2.1 w wi wz eT (g := mkF m pc Ls.toArray St) rfl (hb B.2.1 hd) hc' hs'
  exact ⟨T', h', X', e', E, A.lt, ⟨A, D⟩, st⟩
theorem own_putF {index kk : Nat} {R0 O n d C : String} {ty : FieldType} {a : Addr} {v v' old : Value} (hp : pc + 3 = pc') (hd : decode M.b pc = .ok (.putfield index, 3)) (w : (Jvm.Cond.fieldLink M.y.cls index R0 n d).before a0 K.Z = true) (via : Via K.Z R0 O n d)
    (L : (Jvm.Cond.lays C O n d).before a0 K.Z = true ∨ ((Jvm.Cond.laysFinal C O n d).before a0 K.Z = true ∧ M.y.cls = O ∧ M.y.name = "<init>")) (wi : (Jvm.Cond.instantiable C kk).before a0 K.Z = true) (hty : parseFieldDescriptor d = some ty) (hn : narrow ty v = v') (hf : fits ty v' = true) (F : Fld K.Z h a O n d old) (E : Exa K.Z h a C) (ha : a ∈ sf)
    (k : ∀ h', Wr h h' a (RoadKit.slotOf K.Z O n d) v' → own_WP K M Q pc' Ls St sf h' cs sl) : own_WP K M Q pc Ls (v :: .ref a :: St) sf h cs sl := by
  subst hp
  exact own_write ha k fun p e s m args below meth c T locs cs' sl' B X eT => putFN X B.1 B.2.2.2.2.2.2.2.1 B.2.2.2.1 w via eT F E (L.imp id fun q => ⟨q.1, q.2.1, by rw [B.2.2.2.2.1]; exact q.2.2⟩) wi hty hn hf (g := mkF m pc Ls.toArray (v :: .ref a :: St)) rfl rfl (hb B.2.1 hd)
theorem own_initO {index : Nat} {a : Addr} (hp : pc + 3 = pc') (hd : decode M.b pc = .ok (.invokespecial index, 3)) (w1 : (Jvm.Cond.methodLink M.y.cls index Lib.objectInit).before a0 K.Z = true) (w2 : (Jvm.Cond.instanceMethod Lib.objectInit).before a0 K.Z = true) (w3 : (Jvm.Cond.code Lib.objectInit ⟨#[0xb1]⟩ 1 none).before a0 K.Z = true) (hsz : Ls.length = M.mx) (hf : Nat.ble 1 M.R.frames = true) (hl : Nat.ble ((St.map fun v => v.category).sum + 12) M.R.locals = true)
    (k : own_WP K M Q pc' Ls St sf h cs sl) : own_WP K M Q pc Ls (.ref a :: St) sf h cs sl := by
  subst hp
  exact own_move k fun p e s m args below meth c T locs cs' sl' B X eT hE => initO X B.1 B.2.2.2.2.2.2.2.1 B.2.2.2.1 w1 w2 w3 eT (g := mkF m pc Ls.toArray (.ref a :: St)) rfl (by rw [B.2.2.1, ← hsz]; simp) rfl (hb B.2.1 hd) (Nat.le_of_ble_eq_true hf) (W := (St.map fun v => v.category).sum) (by show 2 * 0 + _ ≤ _; omega) (Nat.le_of_ble_eq_true hl)
end Plain
section Arrays
/-- the array at a holds just vs -/
def own_Ary (Z : State) (h : Heap) (a : Addr) (ty : FieldType) (vs : List Value) : Prop := ∃ c : Cell, Arr Z h a c ty ∧ c.slots = vs.toArray ∧ vs.length < 2 ^ 31
variable {K : own_Cx} {M : own_Mi} {Q : own_Q} {pc pc' : Nat} {Ls : List Slot} {St : List Value} {sf : List Addr} {h h' : Heap} {cs sl : Nat} {a0 : Array Value} {Z : State} {a b : Addr} {ty : FieldType} {vs : List Value}
theorem own_Ary.ext (F : own_Ary Z h a ty vs) (E : Ext h h') : own_Ary Z h' a ty vs := by obtain ⟨c, A, r⟩ := F; exact ⟨c, A.ext E, r⟩
theorem own_Ary.lt (F : own_Ary Z h a ty vs) : a < h.size := by obtain ⟨c, A, r⟩ := F; exact A.lt
theorem own_Ary.keep {ws : List Addr} (F : own_Ary Z h a ty vs) (k : Keep h h' ws) (q : a ∉ ws) : own_Ary Z h' a ty vs := by obtain ⟨c, A, r⟩ := F; exact ⟨c, ⟨k.2.1 a c A.1 q, A.2⟩, r⟩
theorem own_Ary.other {i : Nat} {v : Value} (F : own_Ary Z h b ty vs) (W : Wr h h' a i v) (q : b ≠ a) : own_Ary Z h' b ty vs := by obtain ⟨c, A, r⟩ := F; exact ⟨c, A.other W q, r⟩
theorem own_Ary.same {i : Nat} {v : Value} (F : own_Ary Z h a ty vs) (W : Wr h h' a i v) : own_Ary Z h' a ty (vs.set i v) := by
  obtain ⟨c, A, r1, r2⟩ := F
  refine ⟨c.setSlot i v, A.same W, ?_, by simpa using r2⟩
  simp [Cell.setSlot, r1]
theorem own_idx {j : Int32} {i n : Nat} (hj : j.toInt = i) (hi : i < n) : ¬ (j < 0 ∨ n ≤ j.toNatClampNeg) ∧ j.toNatClampNeg = i := by
  have q : j.toNatClampNeg = i := by
    have : j.toNatClampNeg = j.toInt.toNat := rfl
    rw [this, hj]; rfl
  refine ⟨fun z => ?_, q⟩
  rcases z with z | z
  · rw [Int32.lt_iff_toInt_lt, hj] at z
    have : (0 : Int32).toInt = 0 := rfl
    omega
  · omega
theorem own_len {n : Nat} (q : n < 2 ^ 31) : (n.toInt32).toInt = n := Int32.toInt_ofNat_small q
theorem own_arrlen {z : Int32} (hp : pc + 1 = pc') (hd : decode M.b pc = .ok (.arraylength, 1)) (F : own_Ary K.Z h a ty vs) (hz : z.toInt = vs.length) (k : own_WP K M Q pc' Ls (.int z :: St) sf h cs sl) : own_WP K M Q pc Ls (.ref a :: St) sf h cs sl := by
  obtain ⟨cl, A, r1, r2⟩ := F
  have e1 : cl.slots.size.toInt32 = z := by
    apply Int32.toInt_inj.mp
    rw [hz, r1]; simpa using own_len r2
  exact own_step k fun p e s m args below meth c T locs cs' sl' B X eT t q => X.arraylength B.1 (by rw [eT]; exact A.1) (State.isArrayOf_alike B.2.2.2.2.2.2.2.1.alike A.2.1) (g := mkF m pc Ls.toArray (.ref a :: St)) rfl rfl (hb B.2.1 hd) t (by subst hp; rw [e1]; exact q)
theorem own_caload {i : Nat} {j : Int32} {v : Value} (hp : pc + 1 = pc') (hd : decode M.b pc = .ok (.caload, 1)) (F : own_Ary K.Z h a .char vs) (hj : j.toInt = i) (hv : vs[i]? = some v) (k : own_WP K M Q pc' Ls (v :: St) sf h cs sl) : own_WP K M Q pc Ls (.int j :: .ref a :: St) sf h cs sl := by
  obtain ⟨cl, A, r1, r2⟩ := F
  have hi : i < vs.length := (List.getElem?_eq_some_iff.mp hv).1
  have hsz : cl.slots.size = vs.length := by rw [r1]; simp
  obtain ⟨q1, q2⟩ := own_idx (n := cl.slots.size) hj (by rw [hsz]; exact hi)
  exact own_step k fun p e s m args below meth c T locs cs' sl' B X eT t q => X.caload B.1 (j := j) (v := v) (by rw [eT]; exact A.1) (State.isArrayOf_alike B.2.2.2.2.2.2.2.1.alike A.2.1) A.2.2 q1 (by rw [q2, r1]; simpa using hv) (g := mkF m pc Ls.toArray (.int j :: .ref a :: St)) rfl rfl (hb B.2.1 hd) t (by subst hp; exact q)
theorem own_baload {i : Nat} {j : Int32} {v : Value} (hp : pc + 1 = pc') (hd : decode M.b pc = .ok (.baload, 1)) (F : own_Ary K.Z h a .byte vs) (hj : j.toInt = i) (hv : vs[i]? = some v) (k : own_WP K M Q pc' Ls (v :: St) sf h cs sl) : own_WP K M Q pc Ls (.int j :: .ref a :: St) sf h cs sl := by
  obtain ⟨cl, A, r1, r2⟩ := F
  have hi : i < vs.length := (List.getElem?_eq_some_iff.mp hv).1
  have hsz : cl.slots.size = vs.length := by rw [r1]; simp
  obtain ⟨q1, q2⟩ := own_idx (n := cl.slots.size) hj (by rw [hsz]; exact hi)
  exact own_step k fun p e s m args below meth c T locs cs' sl' B X eT t q => X.baloadBytes B.1 (j := j) (v := v) (by rw [eT]; exact A.1) (State.isArrayOf_alike B.2.2.2.2.2.2.2.1.alike A.2.1) A.2.2 q1 (by rw [q2, r1]; simpa using hv) (g := mkF m pc Ls.toArray (.int j :: .ref a :: St)) rfl rfl (hb B.2.1 hd) t (by subst hp; exact q)
theorem own_castore {i : Nat} {j x x' : Int32} (hp : pc + 1 = pc') (hd : decode M.b pc = .ok (.castore, 1)) (F : own_Ary K.Z h a .char vs) (hj : j.toInt = i) (hi : i < vs.length) (hx : nar .char x = x') (ha : a ∈ sf) (k : ∀ h', Keep h h' [a] → own_Ary K.Z h' a .char (vs.set i (.int x')) → own_WP K M Q pc' Ls St sf h' cs sl) : own_WP K M Q pc Ls (.int x :: .int j :: .ref a :: St) sf h cs sl := by
  subst hp hx
  have F' := F
  obtain ⟨cl, A, r1, r2⟩ := F
  have hsz : cl.slots.size = vs.length := by rw [r1]; simp
  obtain ⟨q1, q2⟩ := own_idx (n := cl.slots.size) hj (by rw [hsz]; exact hi)
  refine own_write ha (i := j.toNatClampNeg) (fun h' W => k h' (Keep.of_wr W) (by rw [← q2]; exact F'.same W)) ?_
  exact fun p e s m args below meth c T locs cs' sl' B X eT => stC X B.1 B.2.2.2.2.2.2.2.1 eT A (j := j) q1 (g := mkF m pc Ls.toArray (.int x :: .int j :: .ref a :: St)) rfl rfl (hb B.2.1 hd)
theorem own_bastore {i : Nat} {j x x' : Int32} (hp : pc + 1 = pc') (hd : decode M.b pc = .ok (.bastore, 1)) (F : own_Ary K.Z h a .byte vs) (hj : j.toInt = i) (hi : i < vs.length) (hx : nar .byte x = x') (ha : a ∈ sf) (k : ∀ h', Keep h h' [a] → own_Ary K.Z h' a .byte (vs.set i (.int x')) → own_WP K M Q pc' Ls St sf h' cs sl) : own_WP K M Q pc Ls (.int x :: .int j :: .ref a :: St) sf h cs sl := by
  subst hp hx
  have F' := F
  obtain ⟨cl, A, r1, r2⟩ := F
  have hsz : cl.slots.size = vs.length := by rw [r1]; simp
  obtain ⟨q1, q2⟩ := own_idx (n := cl.slots.size) hj (by rw [hsz]; exact hi)
  refine own_write ha (i := j.toNatClampNeg) (fun h' W => k h' (Keep.of_wr W) (by rw [← q2]; exact F'.same W)) ?_
  exact fun p e s m args below meth c T locs cs' sl' B X eT => stB X B.1 B.2.2.2.2.2.2.2.1 eT A (j := j) q1 (g := mkF m pc Ls.toArray (.int x :: .int j :: .ref a :: St)) rfl rfl (hb B.2.1 hd)
theorem own_newarray {aty : ArrayType} {n : Int32} {N cap : Nat} (hp : pc + 2 = pc') (hd : decode M.b pc = .ok (.newarray aty, 2)) (w : (Jvm.Cond.arrayClass (newarray.typeOf aty)).before a0 K.Z = true) (hn : n.toInt = N) (hcap : N ≤ cap) (hb' : Nat.ble (cap * 8) 536870912 = true) (hc : Nat.ble (cs + 1) M.R.cells = true) (hs : Nat.ble (sl + cap) M.R.slots = true)
    (k : ∀ (a : Addr) (h' : Heap), @Eq Nat a h.size → Ext h h' → own_Ary K.Z h' a (newarray.typeOf aty) (List.replicate N (defaultValue (newarray.typeOf aty))) → own_WP K M Q pc' Ls (.ref a :: St) (a :: sf) h' (cs + 1) (sl + cap)) : own_WP K M Q pc Ls (.int n :: St) sf h cs sl := by
  subst hp
  have hN : n.toNatClampNeg = N := by
    have : n.toNatClampNeg = n.toInt.toNat := rfl
    rw [this, hn]; rfl
  have h0 : ¬ n < 0 := fun z => by
    rw [Int32.lt_iff_toInt_lt, hn] at z
    have : (0 : Int32).toInt = 0 := rfl
    omega
  refine own_grow (P := fun h' => own_Ary K.Z h' h.size (newarray.typeOf aty) (List.replicate N (defaultValue (newarray.typeOf aty)))) (Nat.le_of_ble_eq_true hc) (Nat.le_of_ble_eq_true hs) (fun h' E P => k _ h' rfl E P) ?_
  intro p e s m args below meth c T locs cs' sl' B X hc' hs' eT
  obtain ⟨T', h', cA, X', e', E, A, st⟩ := newP X B.1 B.2.2.2.2.2.2.2.1 w eT (g := mkF m pc Ls.toArray (.int n :: St)) rfl (hb B.2.1 hd) rfl h0 (cap := cap) (by omega) (Nat.le_of_ble_eq_true hb') hc' hs'
  have hlt := (back32 h0).2
  exact ⟨T', h', X', e', E, A.lt, ⟨_, A, by simp [newA, hN], by rw [List.length_replicate, ← hN]; exact hlt⟩, st⟩
end Arrays
theorem own_lenOf {d : String} {ps : List FieldType} {r : Option FieldType} (hd : parseMethodDescriptor d = some ⟨ps, r⟩) {n : Nat} (hl : n = ps.length) : ∀ sig, parseMethodDescriptor d = some sig → n = sig.parameters.length := fun sig q => by cases hd.symm.trans q; exact hl
theorem own_cat {v : Value} (q : v.isRef = true) : v.category = 1 := by rcases ref_cases q with rfl | ⟨_, rfl⟩ <;> rfl
theorem own_ne {a b : Addr} (q : @Ne Nat a b) : a ≠ b := q
theorem own_nb0 : nar .boolean 0 = 0 := rfl
theorem own_nb1 : nar .boolean 1 = 1 := rfl
theorem own_ints_get {cs : List Int32} {i : Nat} {c : Int32} (hc : cs[i]? = some c) : (cs.map Value.int)[i]? = some (.int c) := by simp [hc]
theorem own_ints_getM {cs : List Int32} {f : Int32 → Int32} {i : Nat} {c : Int32} (hc : cs[i]? = some c) : ((cs.map f).map Value.int)[i]? = some (.int (f c)) := by simp [hc]
theorem tw_0 {a0 : Array Value} {Z : State} (hw : ∀ d ∈ tables_1, d.before a0 Z = true) : (Jvm.Cond.arrayClass Jvm.ClassFile.FieldType.char).before a0 Z = true := hw _ (List.mem_of_getElem? (i := 0) rfl)
theorem tw_1 {a0 : Array Value} {Z : State} (hw : ∀ d ∈ tables_1, d.before a0 Z = true) : (Jvm.Cond.classLink "com/example/macroweave/macroweave/TextToStringPinLaw" (8 : Nat) "java/lang/String").before a0 Z = true := hw _ (List.mem_of_getElem? (i := 1) rfl)
theorem tw_2 {a0 : Array Value} {Z : State} (hw : ∀ d ∈ tables_1, d.before a0 Z = true) : (Jvm.Cond.instantiable "java/lang/String" (4 : Nat)).before a0 Z = true := hw _ (List.mem_of_getElem? (i := 2) rfl)
theorem tw_3 {a0 : Array Value} {Z : State} (hw : ∀ d ∈ tables_1, d.before a0 Z = true) : (Jvm.Cond.initialized "java/lang/String").before a0 Z = true := hw _ (List.mem_of_getElem? (i := 3) rfl)
theorem tw_4 {a0 : Array Value} {Z : State} (hw : ∀ d ∈ tables_1, d.before a0 Z = true) : (Jvm.Cond.methodLink "com/example/macroweave/macroweave/TextToStringPinLaw" (13 : Nat) ({ cls := "java/lang/String", name := "<init>", desc := "([C)V" } : Jvm.MethodName)).before a0 Z = true := hw _ (List.mem_of_getElem? (i := 4) rfl)
theorem tw_5 {a0 : Array Value} {Z : State} (hw : ∀ d ∈ tables_1, d.before a0 Z = true) : (Jvm.Cond.instanceMethod ({ cls := "java/lang/String", name := "<init>", desc := "([C)V" } : Jvm.MethodName)).before a0 Z = true := hw _ (List.mem_of_getElem? (i := 5) rfl)
theorem tw_6 {a0 : Array Value} {Z : State} (hw : ∀ d ∈ tables_1, d.before a0 Z = true) : (Jvm.Cond.code ({ cls := "java/lang/String", name := "<init>", desc := "([C)V" } : Jvm.MethodName) jdk_42_method_3_code (2 : Nat) (Option.none : Option Jvm.ClassFile.FieldType)).before a0 Z = true := hw _ (List.mem_of_getElem? (i := 6) rfl)
theorem tw_7 {a0 : Array Value} {Z : State} (hw : ∀ d ∈ tables_1, d.before a0 Z = true) : (Jvm.Cond.methodLink "java/lang/String" (27 : Nat) ({ cls := "java/lang/String", name := "<init>", desc := "([CIILjava/lang/Void;)V" } : Jvm.MethodName)).before a0 Z = true := hw _ (List.mem_of_getElem? (i := 7) rfl)
theorem tw_8 {a0 : Array Value} {Z : State} (hw : ∀ d ∈ tables_1, d.before a0 Z = true) : (Jvm.Cond.instanceMethod ({ cls := "java/lang/String", name := "<init>", desc := "([CIILjava/lang/Void;)V" } : Jvm.MethodName)).before a0 Z = true := hw _ (List.mem_of_getElem? (i := 8) rfl)
theorem tw_10 {a0 : Array Value} {Z : State} (hw : ∀ d ∈ tables_1, d.before a0 Z = true) : (Jvm.Cond.code ({ cls := "java/lang/String", name := "<init>", desc := "([CIILjava/lang/Void;)V" } : Jvm.MethodName) jdk_42_method_149_code (6 : Nat) (Option.none : Option Jvm.ClassFile.FieldType)).before a0 Z = true := hw _ (List.mem_of_getElem? (i := 10) rfl)
theorem tw_11 {a0 : Array Value} {Z : State} (hw : ∀ d ∈ tables_1, d.before a0 Z = true) : (Jvm.Cond.methodLink "java/lang/String" (1 : Nat) ({ cls := "java/lang/Object", name := "<init>", desc := "()V" } : Jvm.MethodName)).before a0 Z = true := hw _ (List.mem_of_getElem? (i := 11) rfl)
theorem tw_12 {a0 : Array Value} {Z : State} (hw : ∀ d ∈ tables_1, d.before a0 Z = true) : (Jvm.Cond.instanceMethod ({ cls := "java/lang/Object", name := "<init>", desc := "()V" } : Jvm.MethodName)).before a0 Z = true := hw _ (List.mem_of_getElem? (i := 12) rfl)
theorem tw_13 {a0 : Array Value} {Z : State} (hw : ∀ d ∈ tables_1, d.before a0 Z = true) : (Jvm.Cond.code ({ cls := "java/lang/Object", name := "<init>", desc := "()V" } : Jvm.MethodName) object_method_1_code (1 : Nat) (Option.none : Option Jvm.ClassFile.FieldType)).before a0 Z = true := hw _ (List.mem_of_getElem? (i := 13) rfl)
theorem tw_14 {a0 : Array Value} {Z : State} (hw : ∀ d ∈ tables_1, d.before a0 Z = true) : (Jvm.Cond.fieldLink "java/lang/String" (38 : Nat) "java/lang/String" "COMPACT_STRINGS" "Z").before a0 Z = true := hw _ (List.mem_of_getElem? (i := 14) rfl)
theorem tw_15 {a0 : Array Value} {Z : State} (hw : ∀ d ∈ tables_1, d.before a0 Z = true) : (Jvm.Cond.methodLink "java/lang/String" (177 : Nat) ({ cls := "java/lang/StringUTF16", name := "compress", desc := "([CII)[B" } : Jvm.MethodName)).before a0 Z = true := hw _ (List.mem_of_getElem? (i := 15) rfl)
theorem tw_16 {a0 : Array Value} {Z : State} (hw : ∀ d ∈ tables_1, d.before a0 Z = true) : (Jvm.Cond.static ({ cls := "java/lang/StringUTF16", name := "compress", desc := "([CII)[B" } : Jvm.MethodName)).before a0 Z = true := hw _ (List.mem_of_getElem? (i := 16) rfl)
theorem tw_17 {a0 : Array Value} {Z : State} (hw : ∀ d ∈ tables_1, d.before a0 Z = true) : (Jvm.Cond.initialized "java/lang/StringUTF16").before a0 Z = true := hw _ (List.mem_of_getElem? (i := 17) rfl)
theorem tw_18 {a0 : Array Value} {Z : State} (hw : ∀ d ∈ tables_1, d.before a0 Z = true) : (Jvm.Cond.code ({ cls := "java/lang/StringUTF16", name := "compress", desc := "([CII)[B" } : Jvm.MethodName) jdk_52_method_16_code (6 : Nat) (Option.some (Jvm.ClassFile.FieldType.array Jvm.ClassFile.FieldType.byte))).before a0 Z = true := hw _ (List.mem_of_getElem? (i := 18) rfl)
theorem tw_19 {a0 : Array Value} {Z : State} (hw : ∀ d ∈ tables_1, d.before a0 Z = true) : (Jvm.Cond.arrayClass Jvm.ClassFile.FieldType.byte).before a0 Z = true := hw _ (List.mem_of_getElem? (i := 19) rfl)
theorem tw_20 {a0 : Array Value} {Z : State} (hw : ∀ d ∈ tables_1, d.before a0 Z = true) : (Jvm.Cond.methodLink "java/lang/StringUTF16" (115 : Nat) ({ cls := "java/lang/StringUTF16", name := "compress", desc := "([CI[BII)I" } : Jvm.MethodName)).before a0 Z = true := hw _ (List.mem_of_getElem? (i := 20) rfl)
theorem tw_21 {a0 : Array Value} {Z : State} (hw : ∀ d ∈ tables_1, d.before a0 Z = true) : (Jvm.Cond.static ({ cls := "java/lang/StringUTF16", name := "compress", desc := "([CI[BII)I" } : Jvm.MethodName)).before a0 Z = true := hw _ (List.mem_of_getElem? (i := 21) rfl)
theorem tw_22 {a0 : Array Value} {Z : State} (hw : ∀ d ∈ tables_1, d.before a0 Z = true) : (Jvm.Cond.code ({ cls := "java/lang/StringUTF16", name := "compress", desc := "([CI[BII)I" } : Jvm.MethodName) jdk_52_method_21_code (7 : Nat) (Option.some Jvm.ClassFile.FieldType.int)).before a0 Z = true := hw _ (List.mem_of_getElem? (i := 22) rfl)
theorem tw_23 {a0 : Array Value} {Z : State} (hw : ∀ d ∈ tables_1, d.before a0 Z = true) : (Jvm.Cond.methodLink "java/lang/String" (47 : Nat) ({ cls := "java/lang/StringUTF16", name := "coderFromArrayLen", desc := "([BI)B" } : Jvm.MethodName)).before a0 Z = true := hw _ (List.mem_of_getElem? (i := 23) rfl)
theorem tw_24 {a0 : Array Value} {Z : State} (hw : ∀ d ∈ tables_1, d.before a0 Z = true) : (Jvm.Cond.static ({ cls := "java/lang/StringUTF16", name := "coderFromArrayLen", desc := "([BI)B" } : Jvm.MethodName)).before a0 Z = true := hw _ (List.mem_of_getElem? (i := 24) rfl)
theorem tw_25 {a0 : Array Value} {Z : State} (hw : ∀ d ∈ tables_1, d.before a0 Z = true) : (Jvm.Cond.code ({ cls := "java/lang/StringUTF16", name := "coderFromArrayLen", desc := "([BI)B" } : Jvm.MethodName) jdk_52_method_15_code (2 : Nat) (Option.some Jvm.ClassFile.FieldType.byte)).before a0 Z = true := hw _ (List.mem_of_getElem? (i := 25) rfl)
theorem tw_26 {a0 : Array Value} {Z : State} (hw : ∀ d ∈ tables_1, d.before a0 Z = true) : (Jvm.Cond.fieldLink "java/lang/String" (15 : Nat) "java/lang/String" "coder" "B").before a0 Z = true := hw _ (List.mem_of_getElem? (i := 26) rfl)
theorem tw_27 {a0 : Array Value} {Z : State} (hw : ∀ d ∈ tables_1, d.before a0 Z = true) : (Jvm.Cond.laysFinal "java/lang/String" "java/lang/String" "coder" "B").before a0 Z = true := hw _ (List.mem_of_getElem? (i := 27) rfl)
theorem tw_28 {a0 : Array Value} {Z : State} (hw : ∀ d ∈ tables_1, d.before a0 Z = true) : (Jvm.Cond.fieldLink "java/lang/String" (9 : Nat) "java/lang/String" "value" "[B").before a0 Z = true := hw _ (List.mem_of_getElem? (i := 28) rfl)
theorem tw_29 {a0 : Array Value} {Z : State} (hw : ∀ d ∈ tables_1, d.before a0 Z = true) : (Jvm.Cond.laysFinal "java/lang/String" "java/lang/String" "value" "[B").before a0 Z = true := hw _ (List.mem_of_getElem? (i := 29) rfl)
theorem tw_30 {a0 : Array Value} {Z : State} (hw : ∀ d ∈ tables_1, d.before a0 Z = true) : (Jvm.Cond.constant "com/example/macroweave/macroweave/TextToStringPinLaw" (16 : Nat) (2147483647 : Int32)).before a0 Z = true := hw _ (List.mem_of_getElem? (i := 30) rfl)
theorem tw_31 {a0 : Array Value} {Z : State} (hw : ∀ d ∈ tables_1, d.before a0 Z = true) : (Jvm.Cond.methodLink "com/example/macroweave/macroweave/TextToStringPinLaw" (17 : Nat) ({ cls := "java/lang/Math", name := "min", desc := "(II)I" } : Jvm.MethodName)).before a0 Z = true := hw _ (List.mem_of_getElem? (i := 31) rfl)
theorem tw_32 {a0 : Array Value} {Z : State} (hw : ∀ d ∈ tables_1, d.before a0 Z = true) : (Jvm.Cond.static ({ cls := "java/lang/Math", name := "min", desc := "(II)I" } : Jvm.MethodName)).before a0 Z = true := hw _ (List.mem_of_getElem? (i := 32) rfl)
theorem tw_33 {a0 : Array Value} {Z : State} (hw : ∀ d ∈ tables_1, d.before a0 Z = true) : (Jvm.Cond.initialized "java/lang/Math").before a0 Z = true := hw _ (List.mem_of_getElem? (i := 33) rfl)
theorem tw_34 {a0 : Array Value} {Z : State} (hw : ∀ d ∈ tables_1, d.before a0 Z = true) : (Jvm.Cond.code ({ cls := "java/lang/Math", name := "min", desc := "(II)I" } : Jvm.MethodName) jdk_29_method_69_code (2 : Nat) (Option.some Jvm.ClassFile.FieldType.int)).before a0 Z = true := hw _ (List.mem_of_getElem? (i := 34) rfl)
theorem tw_35 {a0 : Array Value} {Z : State} (hw : ∀ d ∈ tables_1, d.before a0 Z = true) : (Jvm.Cond.methodLink "com/example/macroweave/macroweave/TextToStringPinLaw" (23 : Nat) ({ cls := "java/lang/Math", name := "max", desc := "(II)I" } : Jvm.MethodName)).before a0 Z = true := hw _ (List.mem_of_getElem? (i := 35) rfl)
theorem tw_36 {a0 : Array Value} {Z : State} (hw : ∀ d ∈ tables_1, d.before a0 Z = true) : (Jvm.Cond.static ({ cls := "java/lang/Math", name := "max", desc := "(II)I" } : Jvm.MethodName)).before a0 Z = true := hw _ (List.mem_of_getElem? (i := 36) rfl)
theorem tw_37 {a0 : Array Value} {Z : State} (hw : ∀ d ∈ tables_1, d.before a0 Z = true) : (Jvm.Cond.code ({ cls := "java/lang/Math", name := "max", desc := "(II)I" } : Jvm.MethodName) jdk_29_method_65_code (2 : Nat) (Option.some Jvm.ClassFile.FieldType.int)).before a0 Z = true := hw _ (List.mem_of_getElem? (i := 37) rfl)
theorem tw_38 {a0 : Array Value} {Z : State} (hw : ∀ d ∈ tables_1, d.before a0 Z = true) : (Jvm.Cond.classLink "com/example/macroweave/macroweave/TextToStringPinLaw" (26 : Nat) "com/example/macroweave/macroweave/Text").before a0 Z = true := hw _ (List.mem_of_getElem? (i := 38) rfl)
theorem tw_39 {a0 : Array Value} {Z : State} (hw : ∀ d ∈ tables_1, d.before a0 Z = true) : (Jvm.Cond.instantiable "com/example/macroweave/macroweave/Text" (3 : Nat)).before a0 Z = true := hw _ (List.mem_of_getElem? (i := 39) rfl)
theorem tw_40 {a0 : Array Value} {Z : State} (hw : ∀ d ∈ tables_1, d.before a0 Z = true) : (Jvm.Cond.initialized "com/example/macroweave/macroweave/Text").before a0 Z = true := hw _ (List.mem_of_getElem? (i := 40) rfl)
theorem tw_41 {a0 : Array Value} {Z : State} (hw : ∀ d ∈ tables_1, d.before a0 Z = true) : (Jvm.Cond.methodLink "com/example/macroweave/macroweave/TextToStringPinLaw" (28 : Nat) ({ cls := "com/example/macroweave/macroweave/Text", name := "<init>", desc := "(Ljava/lang/String;II)V" } : Jvm.MethodName)).before a0 Z = true := hw _ (List.mem_of_getElem? (i := 41) rfl)
theorem tw_42 {a0 : Array Value} {Z : State} (hw : ∀ d ∈ tables_1, d.before a0 Z = true) : (Jvm.Cond.instanceMethod ({ cls := "com/example/macroweave/macroweave/Text", name := "<init>", desc := "(Ljava/lang/String;II)V" } : Jvm.MethodName)).before a0 Z = true := hw _ (List.mem_of_getElem? (i := 42) rfl)
theorem tw_43 {a0 : Array Value} {Z : State} (hw : ∀ d ∈ tables_1, d.before a0 Z = true) : (Jvm.Cond.code ({ cls := "com/example/macroweave/macroweave/Text", name := "<init>", desc := "(Ljava/lang/String;II)V" } : Jvm.MethodName) prog_64_method_1_code (4 : Nat) (Option.none : Option Jvm.ClassFile.FieldType)).before a0 Z = true := hw _ (List.mem_of_getElem? (i := 43) rfl)
theorem tw_44 {a0 : Array Value} {Z : State} (hw : ∀ d ∈ tables_1, d.before a0 Z = true) : (Jvm.Cond.methodLink "com/example/macroweave/macroweave/Text" (1 : Nat) ({ cls := "java/lang/Record", name := "<init>", desc := "()V" } : Jvm.MethodName)).before a0 Z = true := hw _ (List.mem_of_getElem? (i := 44) rfl)
theorem tw_45 {a0 : Array Value} {Z : State} (hw : ∀ d ∈ tables_1, d.before a0 Z = true) : (Jvm.Cond.instanceMethod ({ cls := "java/lang/Record", name := "<init>", desc := "()V" } : Jvm.MethodName)).before a0 Z = true := hw _ (List.mem_of_getElem? (i := 45) rfl)
theorem tw_47 {a0 : Array Value} {Z : State} (hw : ∀ d ∈ tables_1, d.before a0 Z = true) : (Jvm.Cond.initialized "java/lang/Record").before a0 Z = true := hw _ (List.mem_of_getElem? (i := 47) rfl)
theorem tw_48 {a0 : Array Value} {Z : State} (hw : ∀ d ∈ tables_1, d.before a0 Z = true) : (Jvm.Cond.code ({ cls := "java/lang/Record", name := "<init>", desc := "()V" } : Jvm.MethodName) jdk_30_method_1_code (1 : Nat) (Option.none : Option Jvm.ClassFile.FieldType)).before a0 Z = true := hw _ (List.mem_of_getElem? (i := 48) rfl)
theorem tw_49 {a0 : Array Value} {Z : State} (hw : ∀ d ∈ tables_1, d.before a0 Z = true) : (Jvm.Cond.methodLink "java/lang/Record" (1 : Nat) ({ cls := "java/lang/Object", name := "<init>", desc := "()V" } : Jvm.MethodName)).before a0 Z = true := hw _ (List.mem_of_getElem? (i := 49) rfl)
theorem tw_50 {a0 : Array Value} {Z : State} (hw : ∀ d ∈ tables_1, d.before a0 Z = true) : (Jvm.Cond.methodLink "com/example/macroweave/macroweave/Text" (7 : Nat) ({ cls := "java/lang/String", name := "length", desc := "()I" } : Jvm.MethodName)).before a0 Z = true := hw _ (List.mem_of_getElem? (i := 50) rfl)
theorem tw_51 {a0 : Array Value} {Z : State} (hw : ∀ d ∈ tables_1, d.before a0 Z = true) : (Jvm.Cond.declares ({ cls := "java/lang/String", name := "length", desc := "()I" } : Jvm.MethodName)).before a0 Z = true := hw _ (List.mem_of_getElem? (i := 51) rfl)
theorem tw_52 {a0 : Array Value} {Z : State} (hw : ∀ d ∈ tables_1, d.before a0 Z = true) : (Jvm.Cond.instanceMethod ({ cls := "java/lang/String", name := "length", desc := "()I" } : Jvm.MethodName)).before a0 Z = true := hw _ (List.mem_of_getElem? (i := 52) rfl)
theorem tw_53 {a0 : Array Value} {Z : State} (hw : ∀ d ∈ tables_1, d.before a0 Z = true) : (Jvm.Cond.selects "java/lang/String" ({ cls := "java/lang/String", name := "length", desc := "()I" } : Jvm.MethodName) ({ cls := "java/lang/String", name := "length", desc := "()I" } : Jvm.MethodName)).before a0 Z = true := hw _ (List.mem_of_getElem? (i := 53) rfl)
theorem tw_54 {a0 : Array Value} {Z : State} (hw : ∀ d ∈ tables_1, d.before a0 Z = true) : (Jvm.Cond.code ({ cls := "java/lang/String", name := "length", desc := "()I" } : Jvm.MethodName) jdk_42_method_54_code (1 : Nat) (Option.some Jvm.ClassFile.FieldType.int)).before a0 Z = true := hw _ (List.mem_of_getElem? (i := 54) rfl)
theorem tw_55 {a0 : Array Value} {Z : State} (hw : ∀ d ∈ tables_1, d.before a0 Z = true) : (Jvm.Cond.methodLink "java/lang/String" (335 : Nat) ({ cls := "java/lang/String", name := "coder", desc := "()B" } : Jvm.MethodName)).before a0 Z = true := hw _ (List.mem_of_getElem? (i := 55) rfl)
theorem tw_56 {a0 : Array Value} {Z : State} (hw : ∀ d ∈ tables_1, d.before a0 Z = true) : (Jvm.Cond.declares ({ cls := "java/lang/String", name := "coder", desc := "()B" } : Jvm.MethodName)).before a0 Z = true := hw _ (List.mem_of_getElem? (i := 56) rfl)
theorem tw_57 {a0 : Array Value} {Z : State} (hw : ∀ d ∈ tables_1, d.before a0 Z = true) : (Jvm.Cond.instanceMethod ({ cls := "java/lang/String", name := "coder", desc := "()B" } : Jvm.MethodName)).before a0 Z = true := hw _ (List.mem_of_getElem? (i := 57) rfl)
theorem tw_58 {a0 : Array Value} {Z : State} (hw : ∀ d ∈ tables_1, d.before a0 Z = true) : (Jvm.Cond.selects "java/lang/String" ({ cls := "java/lang/String", name := "coder", desc := "()B" } : Jvm.MethodName) ({ cls := "java/lang/String", name := "coder", desc := "()B" } : Jvm.MethodName)).before a0 Z = true := hw _ (List.mem_of_getElem? (i := 58) rfl)
theorem tw_59 {a0 : Array Value} {Z : State} (hw : ∀ d ∈ tables_1, d.before a0 Z = true) : (Jvm.Cond.code ({ cls := "java/lang/String", name := "coder", desc := "()B" } : Jvm.MethodName) jdk_42_method_152_code (1 : Nat) (Option.some Jvm.ClassFile.FieldType.byte)).before a0 Z = true := hw _ (List.mem_of_getElem? (i := 59) rfl)
theorem tw_60 {a0 : Array Value} {Z : State} (hw : ∀ d ∈ tables_1, d.before a0 Z = true) : (Jvm.Cond.methodLink "com/example/macroweave/macroweave/Text" (13 : Nat) ({ cls := "java/util/Objects", name := "checkFromToIndex", desc := "(III)I" } : Jvm.MethodName)).before a0 Z = true := hw _ (List.mem_of_getElem? (i := 60) rfl)
theorem tw_61 {a0 : Array Value} {Z : State} (hw : ∀ d ∈ tables_1, d.before a0 Z = true) : (Jvm.Cond.static ({ cls := "java/util/Objects", name := "checkFromToIndex", desc := "(III)I" } : Jvm.MethodName)).before a0 Z = true := hw _ (List.mem_of_getElem? (i := 61) rfl)
theorem tw_62 {a0 : Array Value} {Z : State} (hw : ∀ d ∈ tables_1, d.before a0 Z = true) : (Jvm.Cond.initialized "java/util/Objects").before a0 Z = true := hw _ (List.mem_of_getElem? (i := 62) rfl)
theorem tw_63 {a0 : Array Value} {Z : State} (hw : ∀ d ∈ tables_1, d.before a0 Z = true) : (Jvm.Cond.code ({ cls := "java/util/Objects", name := "checkFromToIndex", desc := "(III)I" } : Jvm.MethodName) jdk_31_method_18_code (3 : Nat) (Option.some Jvm.ClassFile.FieldType.int)).before a0 Z = true := hw _ (List.mem_of_getElem? (i := 63) rfl)
theorem tw_64 {a0 : Array Value} {Z : State} (hw : ∀ d ∈ tables_1, d.before a0 Z = true) : (Jvm.Cond.methodLink "java/util/Objects" (111 : Nat) ({ cls := "jdk/internal/util/Preconditions", name := "checkFromToIndex", desc := "(IIILjava/util/function/BiFunction;)I" } : Jvm.MethodName)).before a0 Z = true := hw _ (List.mem_of_getElem? (i := 64) rfl)
theorem tw_65 {a0 : Array Value} {Z : State} (hw : ∀ d ∈ tables_1, d.before a0 Z = true) : (Jvm.Cond.static ({ cls := "jdk/internal/util/Preconditions", name := "checkFromToIndex", desc := "(IIILjava/util/function/BiFunction;)I" } : Jvm.MethodName)).before a0 Z = true := hw _ (List.mem_of_getElem? (i := 65) rfl)
theorem tw_66 {a0 : Array Value} {Z : State} (hw : ∀ d ∈ tables_1, d.before a0 Z = true) : (Jvm.Cond.initialized "jdk/internal/util/Preconditions").before a0 Z = true := hw _ (List.mem_of_getElem? (i := 66) rfl)
theorem tw_67 {a0 : Array Value} {Z : State} (hw : ∀ d ∈ tables_1, d.before a0 Z = true) : (Jvm.Cond.code ({ cls := "jdk/internal/util/Preconditions", name := "checkFromToIndex", desc := "(IIILjava/util/function/BiFunction;)I" } : Jvm.MethodName) jdk_41_method_12_code (4 : Nat) (Option.some Jvm.ClassFile.FieldType.int)).before a0 Z = true := hw _ (List.mem_of_getElem? (i := 67) rfl)
theorem tw_68 {a0 : Array Value} {Z : State} (hw : ∀ d ∈ tables_1, d.before a0 Z = true) : (Jvm.Cond.fieldLink "com/example/macroweave/macroweave/Text" (19 : Nat) "com/example/macroweave/macroweave/Text" "string" "Ljava/lang/String;").before a0 Z = true := hw _ (List.mem_of_getElem? (i := 68) rfl)
theorem tw_69 {a0 : Array Value} {Z : State} (hw : ∀ d ∈ tables_1, d.before a0 Z = true) : (Jvm.Cond.laysFinal "com/example/macroweave/macroweave/Text" "com/example/macroweave/macroweave/Text" "string" "Ljava/lang/String;").before a0 Z = true := hw _ (List.mem_of_getElem? (i := 69) rfl)
theorem tw_70 {a0 : Array Value} {Z : State} (hw : ∀ d ∈ tables_1, d.before a0 Z = true) : (Jvm.Cond.fieldLink "com/example/macroweave/macroweave/Text" (25 : Nat) "com/example/macroweave/macroweave/Text" "start" "I").before a0 Z = true := hw _ (List.mem_of_getElem? (i := 70) rfl)
theorem tw_71 {a0 : Array Value} {Z : State} (hw : ∀ d ∈ tables_1, d.before a0 Z = true) : (Jvm.Cond.laysFinal "com/example/macroweave/macroweave/Text" "com/example/macroweave/macroweave/Text" "start" "I").before a0 Z = true := hw _ (List.mem_of_getElem? (i := 71) rfl)
theorem tw_72 {a0 : Array Value} {Z : State} (hw : ∀ d ∈ tables_1, d.before a0 Z = true) : (Jvm.Cond.fieldLink "com/example/macroweave/macroweave/Text" (29 : Nat) "com/example/macroweave/macroweave/Text" "end" "I").before a0 Z = true := hw _ (List.mem_of_getElem? (i := 72) rfl)
theorem tw_73 {a0 : Array Value} {Z : State} (hw : ∀ d ∈ tables_1, d.before a0 Z = true) : (Jvm.Cond.laysFinal "com/example/macroweave/macroweave/Text" "com/example/macroweave/macroweave/Text" "end" "I").before a0 Z = true := hw _ (List.mem_of_getElem? (i := 73) rfl)
theorem tw_74 {a0 : Array Value} {Z : State} (hw : ∀ d ∈ tables_1, d.before a0 Z = true) : (Jvm.Cond.methodLink "com/example/macroweave/macroweave/TextToStringPinLaw" (31 : Nat) ({ cls := "com/example/macroweave/macroweave/Text", name := "toString", desc := "()Ljava/lang/String;" } : Jvm.MethodName)).before a0 Z = true := hw _ (List.mem_of_getElem? (i := 74) rfl)
theorem tw_75 {a0 : Array Value} {Z : State} (hw : ∀ d ∈ tables_1, d.before a0 Z = true) : (Jvm.Cond.declares ({ cls := "com/example/macroweave/macroweave/Text", name := "toString", desc := "()Ljava/lang/String;" } : Jvm.MethodName)).before a0 Z = true := hw _ (List.mem_of_getElem? (i := 75) rfl)
theorem tw_76 {a0 : Array Value} {Z : State} (hw : ∀ d ∈ tables_1, d.before a0 Z = true) : (Jvm.Cond.instanceMethod ({ cls := "com/example/macroweave/macroweave/Text", name := "toString", desc := "()Ljava/lang/String;" } : Jvm.MethodName)).before a0 Z = true := hw _ (List.mem_of_getElem? (i := 76) rfl)
theorem tw_77 {a0 : Array Value} {Z : State} (hw : ∀ d ∈ tables_1, d.before a0 Z = true) : (Jvm.Cond.selects "com/example/macroweave/macroweave/Text" ({ cls := "com/example/macroweave/macroweave/Text", name := "toString", desc := "()Ljava/lang/String;" } : Jvm.MethodName) ({ cls := "com/example/macroweave/macroweave/Text", name := "toString", desc := "()Ljava/lang/String;" } : Jvm.MethodName)).before a0 Z = true := hw _ (List.mem_of_getElem? (i := 77) rfl)
theorem tw_78 {a0 : Array Value} {Z : State} (hw : ∀ d ∈ tables_1, d.before a0 Z = true) : (Jvm.Cond.code ({ cls := "com/example/macroweave/macroweave/Text", name := "toString", desc := "()Ljava/lang/String;" } : Jvm.MethodName) prog_64_method_7_code (1 : Nat) (Option.some (Jvm.ClassFile.FieldType.object "java/lang/String"))).before a0 Z = true := hw _ (List.mem_of_getElem? (i := 78) rfl)
theorem tw_79 {a0 : Array Value} {Z : State} (hw : ∀ d ∈ tables_1, d.before a0 Z = true) : (Jvm.Cond.methodLink "com/example/macroweave/macroweave/Text" (48 : Nat) ({ cls := "java/lang/String", name := "substring", desc := "(II)Ljava/lang/String;" } : Jvm.MethodName)).before a0 Z = true := hw _ (List.mem_of_getElem? (i := 79) rfl)
theorem tw_80 {a0 : Array Value} {Z : State} (hw : ∀ d ∈ tables_1, d.before a0 Z = true) : (Jvm.Cond.declares ({ cls := "java/lang/String", name := "substring", desc := "(II)Ljava/lang/String;" } : Jvm.MethodName)).before a0 Z = true := hw _ (List.mem_of_getElem? (i := 80) rfl)
theorem tw_81 {a0 : Array Value} {Z : State} (hw : ∀ d ∈ tables_1, d.before a0 Z = true) : (Jvm.Cond.instanceMethod ({ cls := "java/lang/String", name := "substring", desc := "(II)Ljava/lang/String;" } : Jvm.MethodName)).before a0 Z = true := hw _ (List.mem_of_getElem? (i := 81) rfl)
theorem tw_82 {a0 : Array Value} {Z : State} (hw : ∀ d ∈ tables_1, d.before a0 Z = true) : (Jvm.Cond.selects "java/lang/String" ({ cls := "java/lang/String", name := "substring", desc := "(II)Ljava/lang/String;" } : Jvm.MethodName) ({ cls := "java/lang/String", name := "substring", desc := "(II)Ljava/lang/String;" } : Jvm.MethodName)).before a0 Z = true := hw _ (List.mem_of_getElem? (i := 82) rfl)
theorem tw_83 {a0 : Array Value} {Z : State} (hw : ∀ d ∈ tables_1, d.before a0 Z = true) : (Jvm.Cond.code ({ cls := "java/lang/String", name := "substring", desc := "(II)Ljava/lang/String;" } : Jvm.MethodName) jdk_42_method_92_code (5 : Nat) (Option.some (Jvm.ClassFile.FieldType.object "java/lang/String"))).before a0 Z = true := hw _ (List.mem_of_getElem? (i := 83) rfl)
theorem tw_84 {a0 : Array Value} {Z : State} (hw : ∀ d ∈ tables_1, d.before a0 Z = true) : (Jvm.Cond.methodLink "java/lang/String" (505 : Nat) ({ cls := "java/lang/String", name := "length", desc := "()I" } : Jvm.MethodName)).before a0 Z = true := hw _ (List.mem_of_getElem? (i := 84) rfl)
theorem tw_85 {a0 : Array Value} {Z : State} (hw : ∀ d ∈ tables_1, d.before a0 Z = true) : (Jvm.Cond.methodLink "java/lang/String" (521 : Nat) ({ cls := "java/lang/String", name := "checkBoundsBeginEnd", desc := "(III)V" } : Jvm.MethodName)).before a0 Z = true := hw _ (List.mem_of_getElem? (i := 85) rfl)
theorem tw_86 {a0 : Array Value} {Z : State} (hw : ∀ d ∈ tables_1, d.before a0 Z = true) : (Jvm.Cond.static ({ cls := "java/lang/String", name := "checkBoundsBeginEnd", desc := "(III)V" } : Jvm.MethodName)).before a0 Z = true := hw _ (List.mem_of_getElem? (i := 86) rfl)
theorem tw_87 {a0 : Array Value} {Z : State} (hw : ∀ d ∈ tables_1, d.before a0 Z = true) : (Jvm.Cond.code ({ cls := "java/lang/String", name := "checkBoundsBeginEnd", desc := "(III)V" } : Jvm.MethodName) jdk_42_method_158_code (3 : Nat) (Option.none : Option Jvm.ClassFile.FieldType)).before a0 Z = true := hw _ (List.mem_of_getElem? (i := 87) rfl)
theorem tw_88 {a0 : Array Value} {Z : State} (hw : ∀ d ∈ tables_1, d.before a0 Z = true) : (Jvm.Cond.fieldLink "java/lang/String" (1053 : Nat) "jdk/internal/util/Preconditions" "SIOOBE_FORMATTER" "Ljava/util/function/BiFunction;").before a0 Z = true := hw _ (List.mem_of_getElem? (i := 88) rfl)
theorem tw_89 {a0 : Array Value} {Z : State} (hw : ∀ d ∈ tables_1, d.before a0 Z = true) : (Jvm.Cond.methodLink "java/lang/String" (1062 : Nat) ({ cls := "jdk/internal/util/Preconditions", name := "checkFromToIndex", desc := "(IIILjava/util/function/BiFunction;)I" } : Jvm.MethodName)).before a0 Z = true := hw _ (List.mem_of_getElem? (i := 89) rfl)
theorem tw_90 {a0 : Array Value} {Z : State} (hw : ∀ d ∈ tables_1, d.before a0 Z = true) : (Jvm.Cond.methodLink "java/lang/String" (492 : Nat) ({ cls := "java/lang/String", name := "isLatin1", desc := "()Z" } : Jvm.MethodName)).before a0 Z = true := hw _ (List.mem_of_getElem? (i := 90) rfl)
theorem tw_91 {a0 : Array Value} {Z : State} (hw : ∀ d ∈ tables_1, d.before a0 Z = true) : (Jvm.Cond.declares ({ cls := "java/lang/String", name := "isLatin1", desc := "()Z" } : Jvm.MethodName)).before a0 Z = true := hw _ (List.mem_of_getElem? (i := 91) rfl)
theorem tw_92 {a0 : Array Value} {Z : State} (hw : ∀ d ∈ tables_1, d.before a0 Z = true) : (Jvm.Cond.instanceMethod ({ cls := "java/lang/String", name := "isLatin1", desc := "()Z" } : Jvm.MethodName)).before a0 Z = true := hw _ (List.mem_of_getElem? (i := 92) rfl)
theorem tw_93 {a0 : Array Value} {Z : State} (hw : ∀ d ∈ tables_1, d.before a0 Z = true) : (Jvm.Cond.selects "java/lang/String" ({ cls := "java/lang/String", name := "isLatin1", desc := "()Z" } : Jvm.MethodName) ({ cls := "java/lang/String", name := "isLatin1", desc := "()Z" } : Jvm.MethodName)).before a0 Z = true := hw _ (List.mem_of_getElem? (i := 93) rfl)
theorem tw_94 {a0 : Array Value} {Z : State} (hw : ∀ d ∈ tables_1, d.before a0 Z = true) : (Jvm.Cond.code ({ cls := "java/lang/String", name := "isLatin1", desc := "()Z" } : Jvm.MethodName) jdk_42_method_154_code (1 : Nat) (Option.some Jvm.ClassFile.FieldType.boolean)).before a0 Z = true := hw _ (List.mem_of_getElem? (i := 94) rfl)
theorem tw_95 {a0 : Array Value} {Z : State} (hw : ∀ d ∈ tables_1, d.before a0 Z = true) : (Jvm.Cond.methodLink "java/lang/String" (685 : Nat) ({ cls := "java/lang/StringLatin1", name := "newString", desc := "([BII)Ljava/lang/String;" } : Jvm.MethodName)).before a0 Z = true := hw _ (List.mem_of_getElem? (i := 95) rfl)
theorem tw_96 {a0 : Array Value} {Z : State} (hw : ∀ d ∈ tables_1, d.before a0 Z = true) : (Jvm.Cond.static ({ cls := "java/lang/StringLatin1", name := "newString", desc := "([BII)Ljava/lang/String;" } : Jvm.MethodName)).before a0 Z = true := hw _ (List.mem_of_getElem? (i := 96) rfl)
theorem tw_97 {a0 : Array Value} {Z : State} (hw : ∀ d ∈ tables_1, d.before a0 Z = true) : (Jvm.Cond.initialized "java/lang/StringLatin1").before a0 Z = true := hw _ (List.mem_of_getElem? (i := 97) rfl)
theorem tw_98 {a0 : Array Value} {Z : State} (hw : ∀ d ∈ tables_1, d.before a0 Z = true) : (Jvm.Cond.code ({ cls := "java/lang/StringLatin1", name := "newString", desc := "([BII)Ljava/lang/String;" } : Jvm.MethodName) jdk_43_method_47_code (3 : Nat) (Option.some (Jvm.ClassFile.FieldType.object "java/lang/String"))).before a0 Z = true := hw _ (List.mem_of_getElem? (i := 98) rfl)
theorem tw_99 {a0 : Array Value} {Z : State} (hw : ∀ d ∈ tables_1, d.before a0 Z = true) : (Jvm.Cond.classLink "java/lang/StringLatin1" (1 : Nat) "java/lang/String").before a0 Z = true := hw _ (List.mem_of_getElem? (i := 99) rfl)
theorem tw_100 {a0 : Array Value} {Z : State} (hw : ∀ d ∈ tables_1, d.before a0 Z = true) : (Jvm.Cond.methodLink "java/lang/StringLatin1" (232 : Nat) ({ cls := "java/util/Arrays", name := "copyOfRange", desc := "([BII)[B" } : Jvm.MethodName)).before a0 Z = true := hw _ (List.mem_of_getElem? (i := 100) rfl)
theorem tw_101 {a0 : Array Value} {Z : State} (hw : ∀ d ∈ tables_1, d.before a0 Z = true) : (Jvm.Cond.static ({ cls := "java/util/Arrays", name := "copyOfRange", desc := "([BII)[B" } : Jvm.MethodName)).before a0 Z = true := hw _ (List.mem_of_getElem? (i := 101) rfl)
theorem tw_102 {a0 : Array Value} {Z : State} (hw : ∀ d ∈ tables_1, d.before a0 Z = true) : (Jvm.Cond.initialized "java/util/Arrays").before a0 Z = true := hw _ (List.mem_of_getElem? (i := 102) rfl)
theorem tw_103 {a0 : Array Value} {Z : State} (hw : ∀ d ∈ tables_1, d.before a0 Z = true) : (Jvm.Cond.code ({ cls := "java/util/Arrays", name := "copyOfRange", desc := "([BII)[B" } : Jvm.MethodName) jdk_65_method_132_code (3 : Nat) (Option.some (Jvm.ClassFile.FieldType.array Jvm.ClassFile.FieldType.byte))).before a0 Z = true := hw _ (List.mem_of_getElem? (i := 103) rfl)
theorem tw_104 {a0 : Array Value} {Z : State} (hw : ∀ d ∈ tables_1, d.before a0 Z = true) : (Jvm.Cond.methodLink "java/util/Arrays" (339 : Nat) ({ cls := "java/util/Arrays", name := "copyOfRangeByte", desc := "([BII)[B" } : Jvm.MethodName)).before a0 Z = true := hw _ (List.mem_of_getElem? (i := 104) rfl)
theorem tw_105 {a0 : Array Value} {Z : State} (hw : ∀ d ∈ tables_1, d.before a0 Z = true) : (Jvm.Cond.static ({ cls := "java/util/Arrays", name := "copyOfRangeByte", desc := "([BII)[B" } : Jvm.MethodName)).before a0 Z = true := hw _ (List.mem_of_getElem? (i := 105) rfl)
theorem tw_106 {a0 : Array Value} {Z : State} (hw : ∀ d ∈ tables_1, d.before a0 Z = true) : (Jvm.Cond.code ({ cls := "java/util/Arrays", name := "copyOfRangeByte", desc := "([BII)[B" } : Jvm.MethodName) jdk_65_method_133_code (5 : Nat) (Option.some (Jvm.ClassFile.FieldType.array Jvm.ClassFile.FieldType.byte))).before a0 Z = true := hw _ (List.mem_of_getElem? (i := 106) rfl)
theorem tw_107 {a0 : Array Value} {Z : State} (hw : ∀ d ∈ tables_1, d.before a0 Z = true) : (Jvm.Cond.methodLink "java/util/Arrays" (343 : Nat) ({ cls := "java/util/Arrays", name := "checkLength", desc := "(II)V" } : Jvm.MethodName)).before a0 Z = true := hw _ (List.mem_of_getElem? (i := 107) rfl)
theorem tw_108 {a0 : Array Value} {Z : State} (hw : ∀ d ∈ tables_1, d.before a0 Z = true) : (Jvm.Cond.static ({ cls := "java/util/Arrays", name := "checkLength", desc := "(II)V" } : Jvm.MethodName)).before a0 Z = true := hw _ (List.mem_of_getElem? (i := 108) rfl)
theorem tw_109 {a0 : Array Value} {Z : State} (hw : ∀ d ∈ tables_1, d.before a0 Z = true) : (Jvm.Cond.code ({ cls := "java/util/Arrays", name := "checkLength", desc := "(II)V" } : Jvm.MethodName) jdk_65_method_131_code (2 : Nat) (Option.none : Option Jvm.ClassFile.FieldType)).before a0 Z = true := hw _ (List.mem_of_getElem? (i := 109) rfl)
theorem tw_110 {a0 : Array Value} {Z : State} (hw : ∀ d ∈ tables_1, d.before a0 Z = true) : (Jvm.Cond.methodLink "java/util/Arrays" (304 : Nat) ({ cls := "java/lang/Math", name := "min", desc := "(II)I" } : Jvm.MethodName)).before a0 Z = true := hw _ (List.mem_of_getElem? (i := 110) rfl)
theorem tw_111 {a0 : Array Value} {Z : State} (hw : ∀ d ∈ tables_1, d.before a0 Z = true) : (Jvm.Cond.methodLink "java/util/Arrays" (150 : Nat) ({ cls := "java/lang/System", name := "arraycopy", desc := "(Ljava/lang/Object;ILjava/lang/Object;II)V" } : Jvm.MethodName)).before a0 Z = true := hw _ (List.mem_of_getElem? (i := 111) rfl)
theorem tw_112 {a0 : Array Value} {Z : State} (hw : ∀ d ∈ tables_1, d.before a0 Z = true) : (Jvm.Cond.static ({ cls := "java/lang/System", name := "arraycopy", desc := "(Ljava/lang/Object;ILjava/lang/Object;II)V" } : Jvm.MethodName)).before a0 Z = true := hw _ (List.mem_of_getElem? (i := 112) rfl)
theorem tw_113 {a0 : Array Value} {Z : State} (hw : ∀ d ∈ tables_1, d.before a0 Z = true) : (Jvm.Cond.initialized "java/lang/System").before a0 Z = true := hw _ (List.mem_of_getElem? (i := 113) rfl)
theorem tw_114 {a0 : Array Value} {Z : State} (hw : ∀ d ∈ tables_1, d.before a0 Z = true) : (Jvm.Cond.native ({ cls := "java/lang/System", name := "arraycopy", desc := "(Ljava/lang/Object;ILjava/lang/Object;II)V" } : Jvm.MethodName)).before a0 Z = true := hw _ (List.mem_of_getElem? (i := 114) rfl)
theorem tw_115 {a0 : Array Value} {Z : State} (hw : ∀ d ∈ tables_1, d.before a0 Z = true) : (Jvm.Cond.methodLink "java/lang/StringLatin1" (112 : Nat) ({ cls := "java/lang/String", name := "<init>", desc := "([BB)V" } : Jvm.MethodName)).before a0 Z = true := hw _ (List.mem_of_getElem? (i := 115) rfl)
theorem tw_116 {a0 : Array Value} {Z : State} (hw : ∀ d ∈ tables_1, d.before a0 Z = true) : (Jvm.Cond.instanceMethod ({ cls := "java/lang/String", name := "<init>", desc := "([BB)V" } : Jvm.MethodName)).before a0 Z = true := hw _ (List.mem_of_getElem? (i := 116) rfl)
theorem tw_117 {a0 : Array Value} {Z : State} (hw : ∀ d ∈ tables_1, d.before a0 Z = true) : (Jvm.Cond.code ({ cls := "java/lang/String", name := "<init>", desc := "([BB)V" } : Jvm.MethodName) jdk_42_method_151_code (3 : Nat) (Option.none : Option Jvm.ClassFile.FieldType)).before a0 Z = true := hw _ (List.mem_of_getElem? (i := 117) rfl)
theorem tw_118 {a0 : Array Value} {Z : State} (hw : ∀ d ∈ tables_1, d.before a0 Z = true) : (Jvm.Cond.methodLink "com/example/macroweave/macroweave/TextToStringPinLaw" (35 : Nat) ({ cls := "java/lang/String", name := "length", desc := "()I" } : Jvm.MethodName)).before a0 Z = true := hw _ (List.mem_of_getElem? (i := 118) rfl)
theorem tw_119 {a0 : Array Value} {Z : State} (hw : ∀ d ∈ tables_1, d.before a0 Z = true) : (Jvm.Cond.methodLink "com/example/macroweave/macroweave/TextToStringPinLaw" (39 : Nat) ({ cls := "com/example/macroweave/macroweave/TextToStringPinLaw", name := "charOk", desc := "(Ljava/lang/String;[CIII)Z" } : Jvm.MethodName)).before a0 Z = true := hw _ (List.mem_of_getElem? (i := 119) rfl)
theorem tw_120 {a0 : Array Value} {Z : State} (hw : ∀ d ∈ tables_1, d.before a0 Z = true) : (Jvm.Cond.static ({ cls := "com/example/macroweave/macroweave/TextToStringPinLaw", name := "charOk", desc := "(Ljava/lang/String;[CIII)Z" } : Jvm.MethodName)).before a0 Z = true := hw _ (List.mem_of_getElem? (i := 120) rfl)
theorem tw_121 {a0 : Array Value} {Z : State} (hw : ∀ d ∈ tables_1, d.before a0 Z = true) : (Jvm.Cond.initialized "com/example/macroweave/macroweave/TextToStringPinLaw").before a0 Z = true := hw _ (List.mem_of_getElem? (i := 121) rfl)
theorem tw_122 {a0 : Array Value} {Z : State} (hw : ∀ d ∈ tables_1, d.before a0 Z = true) : (Jvm.Cond.code ({ cls := "com/example/macroweave/macroweave/TextToStringPinLaw", name := "charOk", desc := "(Ljava/lang/String;[CIII)Z" } : Jvm.MethodName) method_2_code (5 : Nat) (Option.some Jvm.ClassFile.FieldType.boolean)).before a0 Z = true := hw _ (List.mem_of_getElem? (i := 122) rfl)
theorem tw_123 {a0 : Array Value} {Z : State} (hw : ∀ d ∈ tables_1, d.before a0 Z = true) : (Jvm.Cond.methodLink "com/example/macroweave/macroweave/TextToStringPinLaw" (7 : Nat) ({ cls := "java/lang/String", name := "charAt", desc := "(I)C" } : Jvm.MethodName)).before a0 Z = true := hw _ (List.mem_of_getElem? (i := 123) rfl)
theorem tw_124 {a0 : Array Value} {Z : State} (hw : ∀ d ∈ tables_1, d.before a0 Z = true) : (Jvm.Cond.declares ({ cls := "java/lang/String", name := "charAt", desc := "(I)C" } : Jvm.MethodName)).before a0 Z = true := hw _ (List.mem_of_getElem? (i := 124) rfl)
theorem tw_125 {a0 : Array Value} {Z : State} (hw : ∀ d ∈ tables_1, d.before a0 Z = true) : (Jvm.Cond.instanceMethod ({ cls := "java/lang/String", name := "charAt", desc := "(I)C" } : Jvm.MethodName)).before a0 Z = true := hw _ (List.mem_of_getElem? (i := 125) rfl)
theorem tw_126 {a0 : Array Value} {Z : State} (hw : ∀ d ∈ tables_1, d.before a0 Z = true) : (Jvm.Cond.selects "java/lang/String" ({ cls := "java/lang/String", name := "charAt", desc := "(I)C" } : Jvm.MethodName) ({ cls := "java/lang/String", name := "charAt", desc := "(I)C" } : Jvm.MethodName)).before a0 Z = true := hw _ (List.mem_of_getElem? (i := 126) rfl)
theorem tw_127 {a0 : Array Value} {Z : State} (hw : ∀ d ∈ tables_1, d.before a0 Z = true) : (Jvm.Cond.code ({ cls := "java/lang/String", name := "charAt", desc := "(I)C" } : Jvm.MethodName) jdk_42_method_56_code (2 : Nat) (Option.some Jvm.ClassFile.FieldType.char)).before a0 Z = true := hw _ (List.mem_of_getElem? (i := 127) rfl)
theorem tw_128 {a0 : Array Value} {Z : State} (hw : ∀ d ∈ tables_1, d.before a0 Z = true) : (Jvm.Cond.methodLink "java/lang/String" (495 : Nat) ({ cls := "java/lang/StringLatin1", name := "charAt", desc := "([BI)C" } : Jvm.MethodName)).before a0 Z = true := hw _ (List.mem_of_getElem? (i := 128) rfl)
theorem tw_129 {a0 : Array Value} {Z : State} (hw : ∀ d ∈ tables_1, d.before a0 Z = true) : (Jvm.Cond.static ({ cls := "java/lang/StringLatin1", name := "charAt", desc := "([BI)C" } : Jvm.MethodName)).before a0 Z = true := hw _ (List.mem_of_getElem? (i := 129) rfl)
theorem tw_130 {a0 : Array Value} {Z : State} (hw : ∀ d ∈ tables_1, d.before a0 Z = true) : (Jvm.Cond.code ({ cls := "java/lang/StringLatin1", name := "charAt", desc := "([BI)C" } : Jvm.MethodName) jdk_43_method_2_code (2 : Nat) (Option.some Jvm.ClassFile.FieldType.char)).before a0 Z = true := hw _ (List.mem_of_getElem? (i := 130) rfl)
theorem tw_131 {a0 : Array Value} {Z : State} (hw : ∀ d ∈ tables_1, d.before a0 Z = true) : (Jvm.Cond.methodLink "java/lang/StringLatin1" (9 : Nat) ({ cls := "java/lang/String", name := "checkIndex", desc := "(II)V" } : Jvm.MethodName)).before a0 Z = true := hw _ (List.mem_of_getElem? (i := 131) rfl)
theorem tw_132 {a0 : Array Value} {Z : State} (hw : ∀ d ∈ tables_1, d.before a0 Z = true) : (Jvm.Cond.static ({ cls := "java/lang/String", name := "checkIndex", desc := "(II)V" } : Jvm.MethodName)).before a0 Z = true := hw _ (List.mem_of_getElem? (i := 132) rfl)
theorem tw_133 {a0 : Array Value} {Z : State} (hw : ∀ d ∈ tables_1, d.before a0 Z = true) : (Jvm.Cond.code ({ cls := "java/lang/String", name := "checkIndex", desc := "(II)V" } : Jvm.MethodName) jdk_42_method_155_code (2 : Nat) (Option.none : Option Jvm.ClassFile.FieldType)).before a0 Z = true := hw _ (List.mem_of_getElem? (i := 133) rfl)
theorem tw_134 {a0 : Array Value} {Z : State} (hw : ∀ d ∈ tables_1, d.before a0 Z = true) : (Jvm.Cond.methodLink "java/lang/String" (1059 : Nat) ({ cls := "jdk/internal/util/Preconditions", name := "checkIndex", desc := "(IILjava/util/function/BiFunction;)I" } : Jvm.MethodName)).before a0 Z = true := hw _ (List.mem_of_getElem? (i := 134) rfl)
theorem tw_135 {a0 : Array Value} {Z : State} (hw : ∀ d ∈ tables_1, d.before a0 Z = true) : (Jvm.Cond.static ({ cls := "jdk/internal/util/Preconditions", name := "checkIndex", desc := "(IILjava/util/function/BiFunction;)I" } : Jvm.MethodName)).before a0 Z = true := hw _ (List.mem_of_getElem? (i := 135) rfl)
theorem tw_136 {a0 : Array Value} {Z : State} (hw : ∀ d ∈ tables_1, d.before a0 Z = true) : (Jvm.Cond.code ({ cls := "jdk/internal/util/Preconditions", name := "checkIndex", desc := "(IILjava/util/function/BiFunction;)I" } : Jvm.MethodName) jdk_41_method_11_code (3 : Nat) (Option.some Jvm.ClassFile.FieldType.int)).before a0 Z = true := hw _ (List.mem_of_getElem? (i := 136) rfl)
theorem tw_137 {a0 : Array Value} {Z : State} (hw : ∀ d ∈ tables_1, d.before a0 Z = true) : (Jvm.Cond.methodLink "java/lang/StringUTF16" (119 : Nat) ({ cls := "java/lang/StringUTF16", name := "toBytes", desc := "([CII)[B" } : Jvm.MethodName)).before a0 Z = true := hw _ (List.mem_of_getElem? (i := 137) rfl)
theorem tw_138 {a0 : Array Value} {Z : State} (hw : ∀ d ∈ tables_1, d.before a0 Z = true) : (Jvm.Cond.static ({ cls := "java/lang/StringUTF16", name := "toBytes", desc := "([CII)[B" } : Jvm.MethodName)).before a0 Z = true := hw _ (List.mem_of_getElem? (i := 138) rfl)
theorem tw_139 {a0 : Array Value} {Z : State} (hw : ∀ d ∈ tables_1, d.before a0 Z = true) : (Jvm.Cond.code ({ cls := "java/lang/StringUTF16", name := "toBytes", desc := "([CII)[B" } : Jvm.MethodName) jdk_52_method_14_code (5 : Nat) (Option.some (Jvm.ClassFile.FieldType.array Jvm.ClassFile.FieldType.byte))).before a0 Z = true := hw _ (List.mem_of_getElem? (i := 139) rfl)
theorem tw_140 {a0 : Array Value} {Z : State} (hw : ∀ d ∈ tables_1, d.before a0 Z = true) : (Jvm.Cond.methodLink "java/lang/StringUTF16" (107 : Nat) ({ cls := "java/lang/StringUTF16", name := "newBytesFor", desc := "(I)[B" } : Jvm.MethodName)).before a0 Z = true := hw _ (List.mem_of_getElem? (i := 140) rfl)
theorem tw_141 {a0 : Array Value} {Z : State} (hw : ∀ d ∈ tables_1, d.before a0 Z = true) : (Jvm.Cond.static ({ cls := "java/lang/StringUTF16", name := "newBytesFor", desc := "(I)[B" } : Jvm.MethodName)).before a0 Z = true := hw _ (List.mem_of_getElem? (i := 141) rfl)
theorem tw_142 {a0 : Array Value} {Z : State} (hw : ∀ d ∈ tables_1, d.before a0 Z = true) : (Jvm.Cond.code ({ cls := "java/lang/StringUTF16", name := "newBytesFor", desc := "(I)[B" } : Jvm.MethodName) jdk_52_method_2_code (1 : Nat) (Option.some (Jvm.ClassFile.FieldType.array Jvm.ClassFile.FieldType.byte))).before a0 Z = true := hw _ (List.mem_of_getElem? (i := 142) rfl)
theorem tw_143 {a0 : Array Value} {Z : State} (hw : ∀ d ∈ tables_1, d.before a0 Z = true) : (Jvm.Cond.methodLink "java/lang/StringUTF16" (11 : Nat) ({ cls := "java/lang/StringUTF16", name := "newBytesLength", desc := "(I)I" } : Jvm.MethodName)).before a0 Z = true := hw _ (List.mem_of_getElem? (i := 143) rfl)
theorem tw_144 {a0 : Array Value} {Z : State} (hw : ∀ d ∈ tables_1, d.before a0 Z = true) : (Jvm.Cond.static ({ cls := "java/lang/StringUTF16", name := "newBytesLength", desc := "(I)I" } : Jvm.MethodName)).before a0 Z = true := hw _ (List.mem_of_getElem? (i := 144) rfl)
theorem tw_145 {a0 : Array Value} {Z : State} (hw : ∀ d ∈ tables_1, d.before a0 Z = true) : (Jvm.Cond.code ({ cls := "java/lang/StringUTF16", name := "newBytesLength", desc := "(I)I" } : Jvm.MethodName) jdk_52_method_3_code (1 : Nat) (Option.some Jvm.ClassFile.FieldType.int)).before a0 Z = true := hw _ (List.mem_of_getElem? (i := 145) rfl)
theorem tw_146 {a0 : Array Value} {Z : State} (hw : ∀ d ∈ tables_1, d.before a0 Z = true) : (Jvm.Cond.constant "java/lang/StringUTF16" (20 : Nat) (1073741823 : Int32)).before a0 Z = true := hw _ (List.mem_of_getElem? (i := 146) rfl)
theorem tw_147 {a0 : Array Value} {Z : State} (hw : ∀ d ∈ tables_1, d.before a0 Z = true) : (Jvm.Cond.methodLink "java/lang/StringUTF16" (111 : Nat) ({ cls := "java/lang/StringUTF16", name := "putChar", desc := "([BII)V" } : Jvm.MethodName)).before a0 Z = true := hw _ (List.mem_of_getElem? (i := 147) rfl)
theorem tw_148 {a0 : Array Value} {Z : State} (hw : ∀ d ∈ tables_1, d.before a0 Z = true) : (Jvm.Cond.static ({ cls := "java/lang/StringUTF16", name := "putChar", desc := "([BII)V" } : Jvm.MethodName)).before a0 Z = true := hw _ (List.mem_of_getElem? (i := 148) rfl)
theorem tw_149 {a0 : Array Value} {Z : State} (hw : ∀ d ∈ tables_1, d.before a0 Z = true) : (Jvm.Cond.code ({ cls := "java/lang/StringUTF16", name := "putChar", desc := "([BII)V" } : Jvm.MethodName) jdk_52_method_4_code (3 : Nat) (Option.none : Option Jvm.ClassFile.FieldType)).before a0 Z = true := hw _ (List.mem_of_getElem? (i := 149) rfl)
theorem tw_150 {a0 : Array Value} {Z : State} (hw : ∀ d ∈ tables_1, d.before a0 Z = true) : (Jvm.Cond.fieldLink "java/lang/StringUTF16" (44 : Nat) "java/lang/StringUTF16" "$assertionsDisabled" "Z").before a0 Z = true := hw _ (List.mem_of_getElem? (i := 150) rfl)
theorem tw_151 {a0 : Array Value} {Z : State} (hw : ∀ d ∈ tables_1, d.before a0 Z = true) : (Jvm.Cond.fieldLink "java/lang/StringUTF16" (59 : Nat) "java/lang/StringUTF16" "HI_BYTE_SHIFT" "I").before a0 Z = true := hw _ (List.mem_of_getElem? (i := 151) rfl)
theorem tw_152 {a0 : Array Value} {Z : State} (hw : ∀ d ∈ tables_1, d.before a0 Z = true) : (Jvm.Cond.fieldLink "java/lang/StringUTF16" (63 : Nat) "java/lang/StringUTF16" "LO_BYTE_SHIFT" "I").before a0 Z = true := hw _ (List.mem_of_getElem? (i := 152) rfl)
theorem tw_153 {a0 : Array Value} {Z : State} (hw : ∀ d ∈ tables_1, d.before a0 Z = true) : (Jvm.Cond.methodLink "java/lang/StringUTF16" (71 : Nat) ({ cls := "java/lang/StringUTF16", name := "getChar", desc := "([BI)C" } : Jvm.MethodName)).before a0 Z = true := hw _ (List.mem_of_getElem? (i := 153) rfl)
theorem tw_154 {a0 : Array Value} {Z : State} (hw : ∀ d ∈ tables_1, d.before a0 Z = true) : (Jvm.Cond.static ({ cls := "java/lang/StringUTF16", name := "getChar", desc := "([BI)C" } : Jvm.MethodName)).before a0 Z = true := hw _ (List.mem_of_getElem? (i := 154) rfl)
theorem tw_155 {a0 : Array Value} {Z : State} (hw : ∀ d ∈ tables_1, d.before a0 Z = true) : (Jvm.Cond.code ({ cls := "java/lang/StringUTF16", name := "getChar", desc := "([BI)C" } : Jvm.MethodName) jdk_52_method_5_code (2 : Nat) (Option.some Jvm.ClassFile.FieldType.char)).before a0 Z = true := hw _ (List.mem_of_getElem? (i := 155) rfl)
theorem tw_156 {a0 : Array Value} {Z : State} (hw : ∀ d ∈ tables_1, d.before a0 Z = true) : (Jvm.Cond.methodLink "java/lang/String" (689 : Nat) ({ cls := "java/lang/StringUTF16", name := "newString", desc := "([BII)Ljava/lang/String;" } : Jvm.MethodName)).before a0 Z = true := hw _ (List.mem_of_getElem? (i := 156) rfl)
theorem tw_157 {a0 : Array Value} {Z : State} (hw : ∀ d ∈ tables_1, d.before a0 Z = true) : (Jvm.Cond.static ({ cls := "java/lang/StringUTF16", name := "newString", desc := "([BII)Ljava/lang/String;" } : Jvm.MethodName)).before a0 Z = true := hw _ (List.mem_of_getElem? (i := 157) rfl)
theorem tw_158 {a0 : Array Value} {Z : State} (hw : ∀ d ∈ tables_1, d.before a0 Z = true) : (Jvm.Cond.code ({ cls := "java/lang/StringUTF16", name := "newString", desc := "([BII)Ljava/lang/String;" } : Jvm.MethodName) jdk_52_method_69_code (5 : Nat) (Option.some (Jvm.ClassFile.FieldType.object "java/lang/String"))).before a0 Z = true := hw _ (List.mem_of_getElem? (i := 158) rfl)
theorem tw_159 {a0 : Array Value} {Z : State} (hw : ∀ d ∈ tables_1, d.before a0 Z = true) : (Jvm.Cond.fieldLink "java/lang/StringUTF16" (251 : Nat) "java/lang/String" "COMPACT_STRINGS" "Z").before a0 Z = true := hw _ (List.mem_of_getElem? (i := 159) rfl)
theorem tw_160 {a0 : Array Value} {Z : State} (hw : ∀ d ∈ tables_1, d.before a0 Z = true) : (Jvm.Cond.methodLink "java/lang/StringUTF16" (257 : Nat) ({ cls := "java/lang/StringUTF16", name := "compress", desc := "([BII)[B" } : Jvm.MethodName)).before a0 Z = true := hw _ (List.mem_of_getElem? (i := 160) rfl)
theorem tw_161 {a0 : Array Value} {Z : State} (hw : ∀ d ∈ tables_1, d.before a0 Z = true) : (Jvm.Cond.static ({ cls := "java/lang/StringUTF16", name := "compress", desc := "([BII)[B" } : Jvm.MethodName)).before a0 Z = true := hw _ (List.mem_of_getElem? (i := 161) rfl)
theorem tw_162 {a0 : Array Value} {Z : State} (hw : ∀ d ∈ tables_1, d.before a0 Z = true) : (Jvm.Cond.code ({ cls := "java/lang/StringUTF16", name := "compress", desc := "([BII)[B" } : Jvm.MethodName) jdk_52_method_17_code (6 : Nat) (Option.some (Jvm.ClassFile.FieldType.array Jvm.ClassFile.FieldType.byte))).before a0 Z = true := hw _ (List.mem_of_getElem? (i := 162) rfl)
theorem tw_163 {a0 : Array Value} {Z : State} (hw : ∀ d ∈ tables_1, d.before a0 Z = true) : (Jvm.Cond.methodLink "java/lang/StringUTF16" (123 : Nat) ({ cls := "java/lang/StringUTF16", name := "compress", desc := "([BI[BII)I" } : Jvm.MethodName)).before a0 Z = true := hw _ (List.mem_of_getElem? (i := 163) rfl)
theorem tw_164 {a0 : Array Value} {Z : State} (hw : ∀ d ∈ tables_1, d.before a0 Z = true) : (Jvm.Cond.static ({ cls := "java/lang/StringUTF16", name := "compress", desc := "([BI[BII)I" } : Jvm.MethodName)).before a0 Z = true := hw _ (List.mem_of_getElem? (i := 164) rfl)
theorem tw_165 {a0 : Array Value} {Z : State} (hw : ∀ d ∈ tables_1, d.before a0 Z = true) : (Jvm.Cond.code ({ cls := "java/lang/StringUTF16", name := "compress", desc := "([BI[BII)I" } : Jvm.MethodName) jdk_52_method_22_code (7 : Nat) (Option.some Jvm.ClassFile.FieldType.int)).before a0 Z = true := hw _ (List.mem_of_getElem? (i := 165) rfl)
theorem tw_166 {a0 : Array Value} {Z : State} (hw : ∀ d ∈ tables_1, d.before a0 Z = true) : (Jvm.Cond.methodLink "java/lang/StringUTF16" (173 : Nat) ({ cls := "java/lang/StringUTF16", name := "checkBoundsOffCount", desc := "(II[B)V" } : Jvm.MethodName)).before a0 Z = true := hw _ (List.mem_of_getElem? (i := 166) rfl)
theorem tw_167 {a0 : Array Value} {Z : State} (hw : ∀ d ∈ tables_1, d.before a0 Z = true) : (Jvm.Cond.static ({ cls := "java/lang/StringUTF16", name := "checkBoundsOffCount", desc := "(II[B)V" } : Jvm.MethodName)).before a0 Z = true := hw _ (List.mem_of_getElem? (i := 167) rfl)
theorem tw_168 {a0 : Array Value} {Z : State} (hw : ∀ d ∈ tables_1, d.before a0 Z = true) : (Jvm.Cond.code ({ cls := "java/lang/StringUTF16", name := "checkBoundsOffCount", desc := "(II[B)V" } : Jvm.MethodName) jdk_52_method_94_code (3 : Nat) (Option.none : Option Jvm.ClassFile.FieldType)).before a0 Z = true := hw _ (List.mem_of_getElem? (i := 168) rfl)
theorem tw_169 {a0 : Array Value} {Z : State} (hw : ∀ d ∈ tables_1, d.before a0 Z = true) : (Jvm.Cond.methodLink "java/lang/StringUTF16" (48 : Nat) ({ cls := "java/lang/StringUTF16", name := "length", desc := "([B)I" } : Jvm.MethodName)).before a0 Z = true := hw _ (List.mem_of_getElem? (i := 169) rfl)
theorem tw_170 {a0 : Array Value} {Z : State} (hw : ∀ d ∈ tables_1, d.before a0 Z = true) : (Jvm.Cond.static ({ cls := "java/lang/StringUTF16", name := "length", desc := "([B)I" } : Jvm.MethodName)).before a0 Z = true := hw _ (List.mem_of_getElem? (i := 170) rfl)
theorem tw_171 {a0 : Array Value} {Z : State} (hw : ∀ d ∈ tables_1, d.before a0 Z = true) : (Jvm.Cond.code ({ cls := "java/lang/StringUTF16", name := "length", desc := "([B)I" } : Jvm.MethodName) jdk_52_method_6_code (1 : Nat) (Option.some Jvm.ClassFile.FieldType.int)).before a0 Z = true := hw _ (List.mem_of_getElem? (i := 171) rfl)
theorem tw_172 {a0 : Array Value} {Z : State} (hw : ∀ d ∈ tables_1, d.before a0 Z = true) : (Jvm.Cond.methodLink "java/lang/StringUTF16" (419 : Nat) ({ cls := "java/lang/String", name := "checkBoundsOffCount", desc := "(III)I" } : Jvm.MethodName)).before a0 Z = true := hw _ (List.mem_of_getElem? (i := 172) rfl)
theorem tw_173 {a0 : Array Value} {Z : State} (hw : ∀ d ∈ tables_1, d.before a0 Z = true) : (Jvm.Cond.static ({ cls := "java/lang/String", name := "checkBoundsOffCount", desc := "(III)I" } : Jvm.MethodName)).before a0 Z = true := hw _ (List.mem_of_getElem? (i := 173) rfl)
theorem tw_174 {a0 : Array Value} {Z : State} (hw : ∀ d ∈ tables_1, d.before a0 Z = true) : (Jvm.Cond.code ({ cls := "java/lang/String", name := "checkBoundsOffCount", desc := "(III)I" } : Jvm.MethodName) jdk_42_method_157_code (3 : Nat) (Option.some Jvm.ClassFile.FieldType.int)).before a0 Z = true := hw _ (List.mem_of_getElem? (i := 174) rfl)
theorem tw_175 {a0 : Array Value} {Z : State} (hw : ∀ d ∈ tables_1, d.before a0 Z = true) : (Jvm.Cond.methodLink "java/lang/String" (1065 : Nat) ({ cls := "jdk/internal/util/Preconditions", name := "checkFromIndexSize", desc := "(IIILjava/util/function/BiFunction;)I" } : Jvm.MethodName)).before a0 Z = true := hw _ (List.mem_of_getElem? (i := 175) rfl)
theorem tw_176 {a0 : Array Value} {Z : State} (hw : ∀ d ∈ tables_1, d.before a0 Z = true) : (Jvm.Cond.static ({ cls := "jdk/internal/util/Preconditions", name := "checkFromIndexSize", desc := "(IIILjava/util/function/BiFunction;)I" } : Jvm.MethodName)).before a0 Z = true := hw _ (List.mem_of_getElem? (i := 176) rfl)
theorem tw_177 {a0 : Array Value} {Z : State} (hw : ∀ d ∈ tables_1, d.before a0 Z = true) : (Jvm.Cond.code ({ cls := "jdk/internal/util/Preconditions", name := "checkFromIndexSize", desc := "(IIILjava/util/function/BiFunction;)I" } : Jvm.MethodName) jdk_41_method_13_code (4 : Nat) (Option.some Jvm.ClassFile.FieldType.int)).before a0 Z = true := hw _ (List.mem_of_getElem? (i := 177) rfl)
theorem tw_178 {a0 : Array Value} {Z : State} (hw : ∀ d ∈ tables_1, d.before a0 Z = true) : (Jvm.Cond.methodLink "java/lang/StringUTF16" (126 : Nat) ({ cls := "java/util/Arrays", name := "copyOfRange", desc := "([BII)[B" } : Jvm.MethodName)).before a0 Z = true := hw _ (List.mem_of_getElem? (i := 178) rfl)
theorem tw_179 {a0 : Array Value} {Z : State} (hw : ∀ d ∈ tables_1, d.before a0 Z = true) : (Jvm.Cond.methodLink "java/lang/StringUTF16" (259 : Nat) ({ cls := "java/lang/StringUTF16", name := "coderFromArrayLen", desc := "([BI)B" } : Jvm.MethodName)).before a0 Z = true := hw _ (List.mem_of_getElem? (i := 179) rfl)
theorem tw_180 {a0 : Array Value} {Z : State} (hw : ∀ d ∈ tables_1, d.before a0 Z = true) : (Jvm.Cond.classLink "java/lang/StringUTF16" (3 : Nat) "java/lang/String").before a0 Z = true := hw _ (List.mem_of_getElem? (i := 180) rfl)
theorem tw_181 {a0 : Array Value} {Z : State} (hw : ∀ d ∈ tables_1, d.before a0 Z = true) : (Jvm.Cond.methodLink "java/lang/StringUTF16" (263 : Nat) ({ cls := "java/lang/String", name := "<init>", desc := "([BB)V" } : Jvm.MethodName)).before a0 Z = true := hw _ (List.mem_of_getElem? (i := 181) rfl)
theorem tw_182 {a0 : Array Value} {Z : State} (hw : ∀ d ∈ tables_1, d.before a0 Z = true) : (Jvm.Cond.methodLink "java/lang/String" (498 : Nat) ({ cls := "java/lang/StringUTF16", name := "charAt", desc := "([BI)C" } : Jvm.MethodName)).before a0 Z = true := hw _ (List.mem_of_getElem? (i := 182) rfl)
theorem tw_183 {a0 : Array Value} {Z : State} (hw : ∀ d ∈ tables_1, d.before a0 Z = true) : (Jvm.Cond.static ({ cls := "java/lang/StringUTF16", name := "charAt", desc := "([BI)C" } : Jvm.MethodName)).before a0 Z = true := hw _ (List.mem_of_getElem? (i := 183) rfl)
theorem tw_184 {a0 : Array Value} {Z : State} (hw : ∀ d ∈ tables_1, d.before a0 Z = true) : (Jvm.Cond.code ({ cls := "java/lang/StringUTF16", name := "charAt", desc := "([BI)C" } : Jvm.MethodName) jdk_52_method_83_code (2 : Nat) (Option.some Jvm.ClassFile.FieldType.char)).before a0 Z = true := hw _ (List.mem_of_getElem? (i := 184) rfl)
theorem tw_185 {a0 : Array Value} {Z : State} (hw : ∀ d ∈ tables_1, d.before a0 Z = true) : (Jvm.Cond.methodLink "java/lang/StringUTF16" (67 : Nat) ({ cls := "java/lang/StringUTF16", name := "checkIndex", desc := "(I[B)V" } : Jvm.MethodName)).before a0 Z = true := hw _ (List.mem_of_getElem? (i := 185) rfl)
theorem tw_186 {a0 : Array Value} {Z : State} (hw : ∀ d ∈ tables_1, d.before a0 Z = true) : (Jvm.Cond.static ({ cls := "java/lang/StringUTF16", name := "checkIndex", desc := "(I[B)V" } : Jvm.MethodName)).before a0 Z = true := hw _ (List.mem_of_getElem? (i := 186) rfl)
theorem tw_187 {a0 : Array Value} {Z : State} (hw : ∀ d ∈ tables_1, d.before a0 Z = true) : (Jvm.Cond.code ({ cls := "java/lang/StringUTF16", name := "checkIndex", desc := "(I[B)V" } : Jvm.MethodName) jdk_52_method_91_code (2 : Nat) (Option.none : Option Jvm.ClassFile.FieldType)).before a0 Z = true := hw _ (List.mem_of_getElem? (i := 187) rfl)
theorem tw_188 {a0 : Array Value} {Z : State} (hw : ∀ d ∈ tables_1, d.before a0 Z = true) : (Jvm.Cond.methodLink "java/lang/StringUTF16" (414 : Nat) ({ cls := "java/lang/String", name := "checkIndex", desc := "(II)V" } : Jvm.MethodName)).before a0 Z = true := hw _ (List.mem_of_getElem? (i := 188) rfl)
theorem tw_190 {a0 : Array Value} {Z : State} (hw : ∀ d ∈ tables_1, d.before a0 Z = true) : (Jvm.Cond.soleField "java/lang/String" "value").before a0 Z = true := hw _ (List.mem_of_getElem? (i := 190) rfl)
theorem tw_191 {a0 : Array Value} {Z : State} (hw : ∀ d ∈ tables_1, d.before a0 Z = true) : (Jvm.Cond.soleField "java/lang/String" "coder").before a0 Z = true := hw _ (List.mem_of_getElem? (i := 191) rfl)
theorem pd_0 : parseMethodDescriptor "(I)I" = some ⟨[.int], some .int⟩ := by decide +kernel
theorem pd_1 : parseMethodDescriptor "(I)[B" = some ⟨[.int], some (.array .byte)⟩ := by decide +kernel
theorem pd_2 : parseMethodDescriptor "([BII)V" = some ⟨[(.array .byte), .int, .int], none⟩ := by decide +kernel
theorem pd_3 : parseMethodDescriptor "([CI[BII)I" = some ⟨[(.array .char), .int, (.array .byte), .int, .int], some .int⟩ := by decide +kernel
theorem pd_4 : parseMethodDescriptor "([CII)[B" = some ⟨[(.array .char), .int, .int], some (.array .byte)⟩ := by decide +kernel
theorem pd_5 : parseMethodDescriptor "([BI)C" = some ⟨[(.array .byte), .int], some .char⟩ := by decide +kernel
theorem pd_6 : parseMethodDescriptor "([BI)B" = some ⟨[(.array .byte), .int], some .byte⟩ := by decide +kernel
theorem pd_7 : parseMethodDescriptor "([CIILjava/lang/Void;)V" = some ⟨[(.array .char), .int, .int, (.object "java/lang/Void")], none⟩ := by decide +kernel
theorem pd_8 : parseMethodDescriptor "()B" = some ⟨[], some .byte⟩ := by decide +kernel
theorem pd_9 : parseMethodDescriptor "(IILjava/util/function/BiFunction;)I" = some ⟨[.int, .int, (.object "java/util/function/BiFunction")], some .int⟩ := by decide +kernel
theorem pd_10 : parseMethodDescriptor "(II)V" = some ⟨[.int, .int], none⟩ := by decide +kernel
theorem pd_11 : parseMethodDescriptor "([B)I" = some ⟨[(.array .byte)], some .int⟩ := by decide +kernel
theorem pd_12 : parseMethodDescriptor "(I[B)V" = some ⟨[.int, (.array .byte)], none⟩ := by decide +kernel
theorem pd_13 : parseMethodDescriptor "()Z" = some ⟨[], some .boolean⟩ := by decide +kernel
theorem pd_14 : parseMethodDescriptor "(II)I" = some ⟨[.int, .int], some .int⟩ := by decide +kernel
theorem pd_15 : parseMethodDescriptor "([BII)[B" = some ⟨[(.array .byte), .int, .int], some (.array .byte)⟩ := by decide +kernel
theorem pd_16 : parseMethodDescriptor "(IIILjava/util/function/BiFunction;)I" = some ⟨[.int, .int, .int, (.object "java/util/function/BiFunction")], some .int⟩ := by decide +kernel
theorem pd_17 : parseMethodDescriptor "(III)I" = some ⟨[.int, .int, .int], some .int⟩ := by decide +kernel
theorem pd_18 : parseMethodDescriptor "()V" = some ⟨[], none⟩ := by decide +kernel
theorem pd_19 : parseMethodDescriptor "()I" = some ⟨[], some .int⟩ := by decide +kernel
theorem pd_20 : parseMethodDescriptor "(II[B)V" = some ⟨[.int, .int, (.array .byte)], none⟩ := by decide +kernel
theorem pd_21 : parseMethodDescriptor "([BI[BII)I" = some ⟨[(.array .byte), .int, (.array .byte), .int, .int], some .int⟩ := by decide +kernel
theorem pd_22 : parseMethodDescriptor "([BB)V" = some ⟨[(.array .byte), .byte], none⟩ := by decide +kernel
theorem pd_23 : parseMethodDescriptor "([BII)Ljava/lang/String;" = some ⟨[(.array .byte), .int, .int], some (.object "java/lang/String")⟩ := by decide +kernel
theorem pd_24 : parseMethodDescriptor "(III)V" = some ⟨[.int, .int, .int], none⟩ := by decide +kernel
theorem pd_25 : parseMethodDescriptor "(II)Ljava/lang/String;" = some ⟨[.int, .int], some (.object "java/lang/String")⟩ := by decide +kernel
theorem pd_26 : parseMethodDescriptor "(I)C" = some ⟨[.int], some .char⟩ := by decide +kernel
theorem pd_27 : parseMethodDescriptor "([C)V" = some ⟨[(.array .char)], none⟩ := by decide +kernel
theorem pd_28 : parseMethodDescriptor "(Ljava/lang/String;II)V" = some ⟨[(.object "java/lang/String"), .int, .int], none⟩ := by decide +kernel
theorem pd_29 : parseMethodDescriptor "()Ljava/lang/String;" = some ⟨[], some (.object "java/lang/String")⟩ := by decide +kernel
theorem pd_30 : parseMethodDescriptor "(Ljava/lang/String;[CIII)Z" = some ⟨[(.object "java/lang/String"), (.array .char), .int, .int, .int], some .boolean⟩ := by decide +kernel
theorem own_met_1_0 {K : own_Cx} {M : own_Mi} {Q : own_Q} {sf : List Addr} {h : Heap} {v0 : Value} (hpn : plainFor M.y = true) (hm : M.mx = 1) (c0 : v0.category = 1) (k : own_WP K M Q 0 [.val v0] [] sf h 0 0) : own_Met K M #[v0] sf h Q := own_met hpn (fun m => by rw [hm]; simp [entryFrame, mkF, argsToLocals, c0, List.replicate, Array.replicate]) k
theorem own_met_2_0 {K : own_Cx} {M : own_Mi} {Q : own_Q} {sf : List Addr} {h : Heap} {v0 v1 : Value} (hpn : plainFor M.y = true) (hm : M.mx = 2) (c0 : v0.category = 1) (c1 : v1.category = 1) (k : own_WP K M Q 0 [.val v0, .val v1] [] sf h 0 0) : own_Met K M #[v0, v1] sf h Q := own_met hpn (fun m => by rw [hm]; simp [entryFrame, mkF, argsToLocals, c0, c1, List.replicate, Array.replicate]) k
theorem own_met_3_0 {K : own_Cx} {M : own_Mi} {Q : own_Q} {sf : List Addr} {h : Heap} {v0 v1 v2 : Value} (hpn : plainFor M.y = true) (hm : M.mx = 3) (c0 : v0.category = 1) (c1 : v1.category = 1) (c2 : v2.category = 1) (k : own_WP K M Q 0 [.val v0, .val v1, .val v2] [] sf h 0 0) : own_Met K M #[v0, v1, v2] sf h Q := own_met hpn (fun m => by rw [hm]; simp [entryFrame, mkF, argsToLocals, c0, c1, c2, List.replicate, Array.replicate]) k
theorem own_met_3_2 {K : own_Cx} {M : own_Mi} {Q : own_Q} {sf : List Addr} {h : Heap} {v0 v1 v2 : Value} (hpn : plainFor M.y = true) (hm : M.mx = 5) (c0 : v0.category = 1) (c1 : v1.category = 1) (c2 : v2.category = 1) (k : own_WP K M Q 0 [.val v0, .val v1, .val v2, .unset, .unset] [] sf h 0 0) : own_Met K M #[v0, v1, v2] sf h Q := own_met hpn (fun m => by rw [hm]; simp [entryFrame, mkF, argsToLocals, c0, c1, c2, List.replicate, Array.replicate]) k
theorem own_met_3_3 {K : own_Cx} {M : own_Mi} {Q : own_Q} {sf : List Addr} {h : Heap} {v0 v1 v2 : Value} (hpn : plainFor M.y = true) (hm : M.mx = 6) (c0 : v0.category = 1) (c1 : v1.category = 1) (c2 : v2.category = 1) (k : own_WP K M Q 0 [.val v0, .val v1, .val v2, .unset, .unset, .unset] [] sf h 0 0) : own_Met K M #[v0, v1, v2] sf h Q := own_met hpn (fun m => by rw [hm]; simp [entryFrame, mkF, argsToLocals, c0, c1, c2, List.replicate, Array.replicate]) k
theorem own_met_4_0 {K : own_Cx} {M : own_Mi} {Q : own_Q} {sf : List Addr} {h : Heap} {v0 v1 v2 v3 : Value} (hpn : plainFor M.y = true) (hm : M.mx = 4) (c0 : v0.category = 1) (c1 : v1.category = 1) (c2 : v2.category = 1) (c3 : v3.category = 1) (k : own_WP K M Q 0 [.val v0, .val v1, .val v2, .val v3] [] sf h 0 0) : own_Met K M #[v0, v1, v2, v3] sf h Q := own_met hpn (fun m => by rw [hm]; simp [entryFrame, mkF, argsToLocals, c0, c1, c2, c3, List.replicate, Array.replicate]) k
theorem own_met_4_9 {K : own_Cx} {M : own_Mi} {Q : own_Q} {sf : List Addr} {h : Heap} {v0 v1 v2 v3 : Value} (hpn : plainFor M.y = true) (hm : M.mx = 13) (c0 : v0.category = 1) (c1 : v1.category = 1) (c2 : v2.category = 1) (c3 : v3.category = 1) (k : own_WP K M Q 0 [.val v0, .val v1, .val v2, .val v3, .unset, .unset, .unset, .unset, .unset, .unset, .unset, .unset, .unset] [] sf h 0 0) : own_Met K M #[v0, v1, v2, v3] sf h Q := own_met hpn (fun m => by rw [hm]; simp [entryFrame, mkF, argsToLocals, c0, c1, c2, c3, List.replicate, Array.replicate]) k
theorem own_met_5_0 {K : own_Cx} {M : own_Mi} {Q : own_Q} {sf : List Addr} {h : Heap} {v0 v1 v2 v3 v4 : Value} (hpn : plainFor M.y = true) (hm : M.mx = 5) (c0 : v0.category = 1) (c1 : v1.category = 1) (c2 : v2.category = 1) (c3 : v3.category = 1) (c4 : v4.category = 1) (k : own_WP K M Q 0 [.val v0, .val v1, .val v2, .val v3, .val v4] [] sf h 0 0) : own_Met K M #[v0, v1, v2, v3, v4] sf h Q := own_met hpn (fun m => by rw [hm]; simp [entryFrame, mkF, argsToLocals, c0, c1, c2, c3, c4, List.replicate, Array.replicate]) k
theorem own_met_5_1 {K : own_Cx} {M : own_Mi} {Q : own_Q} {sf : List Addr} {h : Heap} {v0 v1 v2 v3 v4 : Value} (hpn : plainFor M.y = true) (hm : M.mx = 6) (c0 : v0.category = 1) (c1 : v1.category = 1) (c2 : v2.category = 1) (c3 : v3.category = 1) (c4 : v4.category = 1) (k : own_WP K M Q 0 [.val v0, .val v1, .val v2, .val v3, .val v4, .unset] [] sf h 0 0) : own_Met K M #[v0, v1, v2, v3, v4] sf h Q := own_met hpn (fun m => by rw [hm]; simp [entryFrame, mkF, argsToLocals, c0, c1, c2, c3, c4, List.replicate, Array.replicate]) k
theorem own_met_5_2 {K : own_Cx} {M : own_Mi} {Q : own_Q} {sf : List Addr} {h : Heap} {v0 v1 v2 v3 v4 : Value} (hpn : plainFor M.y = true) (hm : M.mx = 7) (c0 : v0.category = 1) (c1 : v1.category = 1) (c2 : v2.category = 1) (c3 : v3.category = 1) (c4 : v4.category = 1) (k : own_WP K M Q 0 [.val v0, .val v1, .val v2, .val v3, .val v4, .unset, .unset] [] sf h 0 0) : own_Met K M #[v0, v1, v2, v3, v4] sf h Q := own_met hpn (fun m => by rw [hm]; simp [entryFrame, mkF, argsToLocals, c0, c1, c2, c3, c4, List.replicate, Array.replicate]) k
/-! STRINGS: chars as ints of 0 to 65535; what a String's bytes spell -/
abbrev own_Chs (cs : List Int32) : Prop := ∀ c ∈ cs, 0 ≤ c.toInt ∧ c.toInt < 65536
def own_lat (cs : List Int32) : Bool := cs.all fun c => decide (c.toInt < 256)
def own_bt (c : Int32) : Int32 := c.toInt8.toInt32
def own_hb (c : Int32) : Int32 := (c >>> ((8 : Int32) &&& 31)).toInt8.toInt32
def own_two (cs : List Int32) : List Int32 := cs.flatMap fun c => [own_bt c, own_hb c]
def own_enc (cs : List Int32) : List Int32 := if own_lat cs then cs.map own_bt else own_two cs
def own_cod (cs : List Int32) : Int32 := if own_lat cs then 0 else 1
abbrev own_ints (xs : List Int32) : List Value := xs.map Value.int
def own_Str (Z : State) (h : Heap) (a : Addr) (cs : List Int32) : Prop := Exa Z h a "java/lang/String" ∧ own_Chs cs ∧ cs.length < 2 ^ 30 ∧ ∃ b : Addr, Fld Z h a "java/lang/String" "value" "[B" (.ref b) ∧ Fld Z h a "java/lang/String" "coder" "B" (.int (own_cod cs)) ∧ own_Ary Z h b .byte (own_ints (own_enc cs))
theorem own_Str.ext {Z : State} {h h' : Heap} {a : Addr} {cs : List Int32} (F : own_Str Z h a cs) (E : Ext h h') : own_Str Z h' a cs := by
  obtain ⟨h1, h2, h3, b, h4, h5, h6⟩ := F
  exact ⟨h1.ext E, h2, h3, b, h4.ext E, h5.ext E, h6.ext E⟩
theorem own_Str.keepO {Z : State} {h h' : Heap} {a t : Addr} {cs : List Int32} {C : String} {kk : Nat} {a0 : Array Value} (F : own_Str Z h a cs) (k : Keep h h' [t]) (E : Exa Z h t C) (hC : C ≠ "java/lang/String") (wi : (Jvm.Cond.instantiable C kk).before a0 Z = true) : own_Str Z h' a cs := by
  obtain ⟨h1, h2, h3, b, h4, h5, h6⟩ := F
  have n1 : a ∉ [t] := ninS (ne_exa h1 E (Ne.symm hC)) nin0
  have n2 : b ∉ [t] := ninS (fun q => by obtain ⟨c, A, -⟩ := h6; exact ne_arr E wi A q.symm) nin0
  exact ⟨h1.keep k, h2, h3, b, h4.keep k n1, h5.keep k n1, h6.keep k n2⟩
theorem own_Str.lt {Z : State} {h : Heap} {a : Addr} {cs : List Int32} (F : own_Str Z h a cs) : a < h.size := F.1.lt
theorem own_ext_keep {h0 h h' : Heap} {ws : List Addr} (E : Ext h0 h) (k : Keep h h' ws) (q : ∀ x ∈ ws, h0.size ≤ x) : Ext h0 h' :=
  ⟨Nat.le_trans E.1 k.1, fun x c z => k.2.1 x c (E.2 x c z) fun m => by
    have := q x m
    have := (Array.getElem?_eq_some_iff.mp z).1
    omega⟩
theorem own_lit (n : Nat) (q : n < 2 ^ 31) : (n.toInt32).toInt = n := Int32.toInt_ofNat_small q
theorem own_add {x y : Int32} {a b : Int} (hx : x.toInt = a) (hy : y.toInt = b) (h1 : -2147483648 ≤ a + b) (h2 : a + b < 2147483648) : (x + y).toInt = a + b := by
  have := c_iadd x y
  have := rng32 (x + y)
  omega
theorem own_sub {x y : Int32} {a b : Int} (hx : x.toInt = a) (hy : y.toInt = b) (h1 : -2147483648 ≤ a - b) (h2 : a - b < 2147483648) : (x - y).toInt = a - b := by
  have := c_isub x y
  have := rng32 (x - y)
  omega
theorem own_setmid {α : Type} (L : List α) (z v : α) (k : Nat) : (L ++ List.replicate (k + 1) z).set L.length v = (L ++ [v]) ++ List.replicate k z := by
  simp [List.replicate_succ]
theorem own_bt_nar (c : Int32) : nar .byte (c.toInt8.toInt32) = own_bt c := by
  show (c.toInt8.toInt32).toInt8.toInt32 = c.toInt8.toInt32
  simp
theorem own_lat_get {cs : List Int32} (q : own_lat cs = true) {i : Nat} {c : Int32} (hc : cs[i]? = some c) : c.toInt < 256 := by
  have := List.all_eq_true.mp q c (List.mem_of_getElem? hc)
  simpa using this
theorem own_lat_snoc {cs : List Int32} {i : Nat} {c : Int32} (hc : cs[i]? = some c) (q : own_lat (cs.take i) = true) (hl : c.toInt < 256) : own_lat (cs.take (i + 1)) = true := by
  have e : cs.take (i + 1) = cs.take i ++ [c] := by rw [List.take_add_one, hc]; rfl
  rw [e]
  simp only [own_lat, List.all_append, Bool.and_eq_true] at q ⊢
  exact ⟨q, by simp [hl]⟩
theorem own_lat_no {cs : List Int32} {i : Nat} {c : Int32} (hc : cs[i]? = some c) (hl : ¬ c.toInt < 256) : own_lat cs = false := by
  cases q : own_lat cs
  · rfl
  · exact absurd (own_lat_get q hc) hl
theorem own_cod_byte (cs : List Int32) : narrow .byte (.int (own_cod cs)) = .int (own_cod cs) ∧ fits .byte (.int (own_cod cs)) = true := by
  unfold own_cod; split <;> exact ⟨rfl, rfl⟩
theorem own_enc_lat {cs : List Int32} (q : own_lat cs = true) : own_enc cs = cs.map own_bt ∧ own_cod cs = 0 := by simp [own_enc, own_cod, q]
theorem own_enc_utf {cs : List Int32} (q : own_lat cs = false) : own_enc cs = own_two cs ∧ own_cod cs = 1 := by simp [own_enc, own_cod, q]
theorem own_two_len (cs : List Int32) : (own_two cs).length = 2 * cs.length := by
  induction cs with
  | nil => rfl
  | cons c r ih => simp [own_two] at ih ⊢; omega
theorem own_ushr31 {x : Int32} (q : x.toInt < 0) : XT.ushr x 31 = 1 := by
  apply Int32.toInt_inj.mp
  have := c_iushr x 31 31 (by decide) (by decide)
  have r := rng32 x
  have e : (XT.ushr x 31).toInt = (x.toInt % 4294967296) / (2 ^ 31 : Nat) := this
  rw [e]
  have : (1 : Int32).toInt = 1 := rfl
  omega
theorem own_shl1 {x : Int32} {N : Nat} (hx : x.toInt = N) (hN : N < 2 ^ 29) : (x <<< ((1 : Int32) &&& 31)).toInt = ((2 * N : Nat) : Int) := by
  have := c_ishl x 1 1 (by decide)
  have := rng32 (x <<< ((1 : Int32) &&& 31))
  omega
theorem own_shr0 (x : Int32) : x >>> ((0 : Int32) &&& 31) = x := by
  apply Int32.toInt_inj.mp
  have := c_ishr x 0 0 (by decide)
  rw [this]; simp
theorem own_shl0 (x : Int32) : x <<< ((0 : Int32) &&& 31) = x := by
  apply Int32.toInt_inj.mp
  have := c_ishl x 0 0 (by decide)
  have := rng32 (x <<< ((0 : Int32) &&& 31))
  have := rng32 x
  omega
theorem own_i2c_id {x : Int32} (h0 : 0 ≤ x.toInt) (h1 : x.toInt < 65536) : x.toUInt32.toUInt16.toUInt32.toInt32 = x := by
  apply Int32.toInt_inj.mp
  have := c_i2c x
  omega
theorem own_join {c : Int32} (h0 : 0 ≤ c.toInt) (h1 : c.toInt < 65536) : ((own_bt c &&& 255) <<< ((0 : Int32) &&& 31)) ||| ((own_hb c &&& 255) <<< ((8 : Int32) &&& 31)) = c := by
  rw [own_shl0]
  have b1 := c_mask (own_bt c) 255 8 (by decide) (by decide)
  have b2 := (c_i2b c).1
  have s1 := c_ishr c 8 8 (by decide)
  have b3 := c_mask (own_hb c) 255 8 (by decide) (by decide)
  have b4 := (c_i2b (c >>> ((8 : Int32) &&& 31))).1
  have s2 := c_ishl (own_hb c &&& 255) 8 8 (by decide)
  have r2 := rng32 ((own_hb c &&& 255) <<< ((8 : Int32) &&& 31))
  have e1 : (own_bt c &&& 255).toInt = c.toInt % 256 := by
    have : (own_bt c).toInt = c.toInt8.toInt32.toInt := rfl
    omega
  have e2 : (own_hb c &&& 255).toInt = c.toInt / 256 := by
    have : (own_hb c).toInt = (c >>> ((8 : Int32) &&& 31)).toInt8.toInt32.toInt := rfl
    omega
  have e3 : ((own_hb c &&& 255) <<< ((8 : Int32) &&& 31)).toInt = c.toInt / 256 * 256 := by omega
  have o := c_or ((own_hb c &&& 255) <<< ((8 : Int32) &&& 31)) (own_bt c &&& 255) 8 (by decide) 256 (by decide) (by omega) (by omega) (by omega)
  rw [Int32.or_comm] at o
  apply Int32.toInt_inj.mp
  have r := rng32 ((own_bt c &&& 255) ||| (own_hb c &&& 255) <<< ((8 : Int32) &&& 31))
  omega
theorem own_two_get {cs : List Int32} : ∀ {i : Nat} {c : Int32}, cs[i]? = some c → (own_two cs)[2 * i]? = some (own_bt c) ∧ (own_two cs)[2 * i + 1]? = some (own_hb c) := by
  induction cs with
  | nil => intro i c hc; simp at hc
  | cons d r ih =>
    intro i c hc
    have e : own_two (d :: r) = own_bt d :: own_hb d :: own_two r := rfl
    cases i with
    | zero => simp at hc; subst hc; rw [e]; exact ⟨rfl, rfl⟩
    | succ i =>
      simp at hc
      have := ih hc
      rw [e, show 2 * (i + 1) = 2 * i + 2 by omega]
      exact ⟨by simpa using this.1, by simpa using this.2⟩
theorem own_settwo {α : Type} (L : List α) (z x y : α) (k : Nat) : ((L ++ List.replicate (2 * (k + 1)) z).set L.length x).set (L.length + 1) y = (L ++ [x, y]) ++ List.replicate (2 * k) z := by
  have e : List.replicate (2 * (k + 1)) z = z :: z :: List.replicate (2 * k) z := by
    rw [show 2 * (k + 1) = 2 * k + 1 + 1 by omega, List.replicate_succ, List.replicate_succ]
  rw [e]
  induction L with
  | nil => rfl
  | cons a r ih => simpa using ih
theorem own_two_snoc {cs : List Int32} {i : Nat} {c : Int32} (hc : cs[i]? = some c) : own_two (cs.take (i + 1)) = own_two (cs.take i) ++ [own_bt c, own_hb c] := by
  have e : cs.take (i + 1) = cs.take i ++ [c] := by rw [List.take_add_one, hc]; rfl
  rw [e]; simp [own_two]
theorem d_cp5_0 : decode jdk_52_method_21_code 0 = .ok (.iconst 0, 1) := by decide +kernel
theorem d_cp5_1 : decode jdk_52_method_21_code 1 = .ok (.istore 5, 2) := by decide +kernel
theorem d_cp5_3 : decode jdk_52_method_21_code 3 = .ok (.iload 5, 2) := by decide +kernel
theorem d_cp5_5 : decode jdk_52_method_21_code 5 = .ok (.iload 4, 2) := by decide +kernel
theorem d_cp5_7 : decode jdk_52_method_21_code 7 = .ok (.if_icmp .ge 37, 3) := by decide +kernel
theorem d_cp5_10 : decode jdk_52_method_21_code 10 = .ok (.aload_n 0, 1) := by decide +kernel
theorem d_cp5_11 : decode jdk_52_method_21_code 11 = .ok (.iload_n 1, 1) := by decide +kernel
theorem d_cp5_12 : decode jdk_52_method_21_code 12 = .ok (.caload, 1) := by decide +kernel
theorem d_cp5_13 : decode jdk_52_method_21_code 13 = .ok (.istore 6, 2) := by decide +kernel
theorem d_cp5_15 : decode jdk_52_method_21_code 15 = .ok (.iload 6, 2) := by decide +kernel
theorem d_cp5_17 : decode jdk_52_method_21_code 17 = .ok (.sipush 255, 3) := by decide +kernel
theorem d_cp5_20 : decode jdk_52_method_21_code 20 = .ok (.if_icmp .le 6, 3) := by decide +kernel
theorem d_cp5_23 : decode jdk_52_method_21_code 23 = .ok (.iload 5, 2) := by decide +kernel
theorem d_cp5_25 : decode jdk_52_method_21_code 25 = .ok (.ireturn, 1) := by decide +kernel
theorem d_cp5_26 : decode jdk_52_method_21_code 26 = .ok (.aload_n 2, 1) := by decide +kernel
theorem d_cp5_27 : decode jdk_52_method_21_code 27 = .ok (.iload_n 3, 1) := by decide +kernel
theorem d_cp5_28 : decode jdk_52_method_21_code 28 = .ok (.iload 6, 2) := by decide +kernel
theorem d_cp5_30 : decode jdk_52_method_21_code 30 = .ok (.i2b, 1) := by decide +kernel
theorem d_cp5_31 : decode jdk_52_method_21_code 31 = .ok (.bastore, 1) := by decide +kernel
theorem d_cp5_32 : decode jdk_52_method_21_code 32 = .ok (.iinc 1 1, 3) := by decide +kernel
theorem d_cp5_35 : decode jdk_52_method_21_code 35 = .ok (.iinc 3 1, 3) := by decide +kernel
theorem d_cp5_38 : decode jdk_52_method_21_code 38 = .ok (.iinc 5 1, 3) := by decide +kernel
theorem d_cp5_41 : decode jdk_52_method_21_code 41 = .ok (.goto (-38), 3) := by decide +kernel
theorem d_cp5_44 : decode jdk_52_method_21_code 44 = .ok (.iload 4, 2) := by decide +kernel
theorem d_cp5_46 : decode jdk_52_method_21_code 46 = .ok (.ireturn, 1) := by decide +kernel
abbrev M_cp5 : own_Mi := ((⟨"java/lang/StringUTF16", "compress", "([CI[BII)I"⟩ : MethodName), jdk_52_method_21_code, 7, (Option.some FieldType.int), ({ frames := 0, cells := 0, slots := 0, locals := 0 } : Room))
theorem pn_cp5 : plainFor (own_Mi.y M_cp5) = true := plainFor_of_name (by first | (simp [plainName, overriddenIn]; done) | decide +kernel)
def Q_cp5 (K : own_Cx) (b : Addr) (n : Int32) (cs : List Int32) (h : Heap) : own_Q := own_ret fun w h' _ => ∃ r : Int32, w = .int r ∧ Keep h h' [b] ∧ ((own_lat cs = true ∧ r = n ∧ own_Ary K.Z h' b .byte (own_ints (cs.map own_bt))) ∨ (own_lat cs = false ∧ ∃ (i : Nat) (c : Int32), r.toInt = i ∧ cs[i]? = some c ∧ 256 ≤ c.toInt))
set_option maxRecDepth 65536 in
set_option maxHeartbeats 40000000 in
theorem c_cp5 (K : own_Cx) (a0 : Array Value) (hw : ∀ d ∈ tables_1, d.before a0 K.Z = true) (a b : Addr) (n : Int32) (cs : List Int32) (h : Heap) (hn : n.toInt = cs.length) (hcs : own_Chs cs) (A : own_Ary K.Z h a .char (own_ints cs)) (Bq : own_Ary K.Z h b .byte (List.replicate cs.length (.int 0))) (hab : a ≠ b) :
    own_Met K M_cp5 #[.ref a, .int 0, .ref b, .int 0, .int n] [b] h (Q_cp5 K b n cs h) := by
  have hlen := rng32 n
  refine own_met_5_2 (M := M_cp5) pn_cp5 rfl (by first | rfl | exact own_cat (by assumption)) (by first | rfl | exact own_cat (by assumption)) (by first | rfl | exact own_cat (by assumption)) (by first | rfl | exact own_cat (by assumption)) (by first | rfl | exact own_cat (by assumption)) ?_
  refine own_iconst (v := (0 : Int32)) (pc' := 1) rfl d_cp5_0 rfl ?_
  refine own_istore_5 (pc' := 3) rfl d_cp5_1 (by first | exact One.u | exact One.val rfl | assumption | exact One.val (by assumption)) ?_
  suffices key : ∀ (k i : Nat) (j : Int32) (h1 : Heap) (o : Slot), i + k = cs.length → j.toInt = i → One o → Keep h h1 [b] → own_lat (cs.take i) = true → own_Ary K.Z h1 b .byte (own_ints ((cs.take i).map own_bt) ++ List.replicate k (.int 0)) → own_WP K M_cp5 (Q_cp5 K b n cs h) 3 [.val (.ref a), .val (.int j), .val (.ref b), .val (.int j), .val (.int n), .val (.int j), o] [] [b] h1 0 0 from
    key cs.length 0 0 h .unset (by simp) rfl One.u (Keep.refl _ _) (by simp [own_lat]) (by simpa using Bq)
  intro k
  induction k with
  | zero =>
    intro i j h1 o hik hj ho hk hl hA
    refine own_iload (pc' := 5) rfl d_cp5_3 rfl ?_
    refine own_iload (pc' := 7) rfl d_cp5_5 rfl ?_
    refine own_icmpge (pcT := 44) (pcF := 10) d_cp5_7 (by decide) (by decide) rfl (fun q => ?_) (fun q => ?_)
    · skip
      refine own_iload (pc' := 46) rfl d_cp5_44 rfl ?_
      refine own_ireturn rfl d_cp5_46 rfl rfl ?_
      have e : cs.take i = cs := List.take_of_length_le (by omega)
      rw [e] at hl hA
      exact ⟨n, rfl, hk, Or.inl ⟨hl, rfl, by simpa using hA⟩⟩
    · rw [Int32.lt_iff_toInt_lt] at q
      omega
  | succ k ih =>
    intro i j h1 o hik hj ho hk hl hA
    have hi : i < cs.length := by omega
    obtain ⟨c, hc⟩ : ∃ c, cs[i]? = some c := ⟨cs[i], by simp [hi]⟩
    have hcr := hcs c (List.mem_of_getElem? hc)
    refine own_iload (pc' := 5) rfl d_cp5_3 rfl ?_
    refine own_iload (pc' := 7) rfl d_cp5_5 rfl ?_
    refine own_icmpge (pcT := 44) (pcF := 10) d_cp5_7 (by decide) (by decide) rfl (fun q => ?_) (fun q => ?_)
    · exact absurd (by rw [Int32.lt_iff_toInt_lt]; omega) q
    · skip
      refine own_aload_n (pc' := 11) rfl d_cp5_10 rfl (by first | rfl | assumption) ?_
      refine own_iload_n (pc' := 12) rfl d_cp5_11 rfl ?_
      refine own_caload (pc' := 13) rfl d_cp5_12 (A.keep hk (ninS hab nin0)) (i := i) hj (by first | exact own_ints_get hc | exact own_ints_getM hc) ?_
      refine own_istore_6 (pc' := 15) rfl d_cp5_13 (by first | exact One.u | exact One.val rfl | assumption | exact One.val (by assumption)) ?_
      refine own_iload (pc' := 17) rfl d_cp5_15 rfl ?_
      refine own_sipush (v := (255 : Int32)) (pc' := 20) rfl d_cp5_17 rfl ?_
      refine own_icmple (pcT := 26) (pcF := 23) d_cp5_20 (by decide) (by decide) rfl (fun q2 => ?_) (fun q2 => ?_)
      · have hc2 : c.toInt < 256 := by
          rw [Int32.lt_iff_toInt_lt] at q2
          have : (255 : Int32).toInt = 255 := rfl
          omega
        refine own_aload_n (pc' := 27) rfl d_cp5_26 rfl (by first | rfl | assumption) ?_
        refine own_iload_n (pc' := 28) rfl d_cp5_27 rfl ?_
        refine own_iload (pc' := 30) rfl d_cp5_28 rfl ?_
        refine own_i2b (pc' := 31) rfl d_cp5_30 ?_
        refine own_bastore (pc' := 32) rfl d_cp5_31 hA (i := i) hj (by simp; omega) (own_bt_nar c) (by simp) ?_
        intro h2 k2 hA2
        refine own_iinc_1 (z := (1 : Int32)) (pc' := 35) rfl d_cp5_32 rfl ?_
        refine own_iinc_3 (z := (1 : Int32)) (pc' := 38) rfl d_cp5_35 rfl ?_
        refine own_iinc_5 (z := (1 : Int32)) (pc' := 41) rfl d_cp5_38 rfl ?_
        refine own_goto (pc' := 3) d_cp5_41 (by decide) (by decide) ?_
        have e1 : i = (own_ints ((cs.take i).map own_bt)).length := by simp; omega
        have e2 : own_ints ((cs.take (i + 1)).map own_bt) = own_ints ((cs.take i).map own_bt) ++ [.int (own_bt c)] := by
          have e : cs.take (i + 1) = cs.take i ++ [c] := by rw [List.take_add_one, hc]; rfl
          rw [e]; simp [own_ints]
        refine ih (i + 1) (j + 1) h2 _ (by omega) (by rw [own_add hj (by rfl : (1 : Int32).toInt = 1)] <;> omega) (One.val rfl) (hk.trans k2 (fun x hx => Or.inl hx)) (own_lat_snoc hc hl hc2) ?_
        rw [e2, ← own_setmid, ← e1]
        exact hA2
      · skip
        refine own_iload (pc' := 25) rfl d_cp5_23 rfl ?_
        refine own_ireturn rfl d_cp5_25 rfl rfl ?_
        have hc2 : 256 ≤ c.toInt := by
          rw [Int32.lt_iff_toInt_lt] at q2
          have : (255 : Int32).toInt = 255 := rfl
          omega
        exact ⟨j, rfl, hk, Or.inr ⟨own_lat_no hc (by omega), i, c, hj, hc, hc2⟩⟩
theorem d_cfa_0 : decode jdk_52_method_15_code 0 = .ok (.iload_n 1, 1) := by decide +kernel
theorem d_cfa_1 : decode jdk_52_method_15_code 1 = .ok (.aload_n 0, 1) := by decide +kernel
theorem d_cfa_2 : decode jdk_52_method_15_code 2 = .ok (.arraylength, 1) := by decide +kernel
theorem d_cfa_3 : decode jdk_52_method_15_code 3 = .ok (.isub, 1) := by decide +kernel
theorem d_cfa_4 : decode jdk_52_method_15_code 4 = .ok (.bipush 31, 2) := by decide +kernel
theorem d_cfa_6 : decode jdk_52_method_15_code 6 = .ok (.iushr, 1) := by decide +kernel
theorem d_cfa_7 : decode jdk_52_method_15_code 7 = .ok (.i2b, 1) := by decide +kernel
theorem d_cfa_8 : decode jdk_52_method_15_code 8 = .ok (.ireturn, 1) := by decide +kernel
abbrev M_cfa : own_Mi := ((⟨"java/lang/StringUTF16", "coderFromArrayLen", "([BI)B"⟩ : MethodName), jdk_52_method_15_code, 2, (Option.some FieldType.byte), ({ frames := 0, cells := 0, slots := 0, locals := 0 } : Room))
theorem pn_cfa : plainFor (own_Mi.y M_cfa) = true := plainFor_of_name (by first | (simp [plainName, overriddenIn]; done) | decide +kernel)
set_option maxRecDepth 65536 in
set_option maxHeartbeats 40000000 in
theorem c_cfa (K : own_Cx) (a0 : Array Value) (hw : ∀ d ∈ tables_1, d.before a0 K.Z = true) (b : Addr) (n : Int32) (cs : List Int32) (h : Heap) (hn : n.toInt = cs.length) (hl : cs.length < 2 ^ 30) (hp : 0 < cs.length) (Bq : own_Ary K.Z h b .byte (own_ints (own_enc cs))) :
    own_Met K M_cfa #[.ref b, .int n] [] h (own_ret fun w h' _ => w = .int (own_cod cs) ∧ h' = h) := by
  cases ql : own_lat cs
  · have hz : ((2 * cs.length).toInt32).toInt = ((2 * cs.length : Nat) : Int) := own_lit _ (by omega)
    refine own_met_2_0 (M := M_cfa) pn_cfa rfl (by first | rfl | exact own_cat (by assumption)) (by first | rfl | exact own_cat (by assumption)) ?_
    refine own_iload_n (pc' := 1) rfl d_cfa_0 rfl ?_
    refine own_aload_n (pc' := 2) rfl d_cfa_1 rfl (by first | rfl | assumption) ?_
    refine own_arrlen (z := (2 * cs.length).toInt32) (pc' := 3) rfl d_cfa_2 Bq (by rw [hz]; simp [(own_enc_utf ql).1, own_two_len]) ?_
    refine own_isub (pc' := 4) rfl d_cfa_3 ?_
    refine own_bipush (v := (31 : Int32)) (pc' := 6) rfl d_cfa_4 rfl ?_
    refine own_iushr (pc' := 7) rfl d_cfa_6 ?_
    refine own_i2b (pc' := 8) rfl d_cfa_7 ?_
    have e : XT.ushr (n - (2 * cs.length).toInt32) 31 = 1 := own_ushr31 (by rw [own_sub hn hz] <;> omega)
    rw [e]
    refine own_ireturnN (t := .byte) rfl (by simp) (z' := 1) rfl d_cfa_8 rfl rfl ?_
    exact ⟨by rw [(own_enc_utf ql).2], rfl⟩
  · skip
    refine own_met_2_0 (M := M_cfa) pn_cfa rfl (by first | rfl | exact own_cat (by assumption)) (by first | rfl | exact own_cat (by assumption)) ?_
    refine own_iload_n (pc' := 1) rfl d_cfa_0 rfl ?_
    refine own_aload_n (pc' := 2) rfl d_cfa_1 rfl (by first | rfl | assumption) ?_
    refine own_arrlen (z := n) (pc' := 3) rfl d_cfa_2 Bq (by rw [hn]; simp [(own_enc_lat ql).1]) ?_
    refine own_isub (pc' := 4) rfl d_cfa_3 ?_
    refine own_bipush (v := (31 : Int32)) (pc' := 6) rfl d_cfa_4 rfl ?_
    refine own_iushr (pc' := 7) rfl d_cfa_6 ?_
    refine own_i2b (pc' := 8) rfl d_cfa_7 ?_
    have e : XT.ushr (n - n) 31 = 0 := by rw [Int32.sub_self]; decide
    rw [e]
    refine own_ireturnN (t := .byte) rfl (by simp) (z' := 0) rfl d_cfa_8 rfl rfl ?_
    exact ⟨by rw [(own_enc_lat ql).2], rfl⟩
abbrev own_uC : String := "java/lang/StringUTF16"
def own_U16 (K : own_Cx) : Prop := Sta K.Z K.Z.heap own_uC "$assertionsDisabled" "Z" (.int 1) ∧ Sta K.Z K.Z.heap own_uC "HI_BYTE_SHIFT" "I" (.int 0) ∧ Sta K.Z K.Z.heap own_uC "LO_BYTE_SHIFT" "I" (.int 8)
theorem d_nbl_0 : decode jdk_52_method_3_code 0 = .ok (.iload_n 0, 1) := by decide +kernel
theorem d_nbl_1 : decode jdk_52_method_3_code 1 = .ok (.ifCond .ge 11, 3) := by decide +kernel
theorem d_nbl_12 : decode jdk_52_method_3_code 12 = .ok (.iload_n 0, 1) := by decide +kernel
theorem d_nbl_13 : decode jdk_52_method_3_code 13 = .ok (.ldc 20, 2) := by decide +kernel
theorem d_nbl_15 : decode jdk_52_method_3_code 15 = .ok (.if_icmp .lt 40, 3) := by decide +kernel
theorem d_nbl_55 : decode jdk_52_method_3_code 55 = .ok (.iload_n 0, 1) := by decide +kernel
theorem d_nbl_56 : decode jdk_52_method_3_code 56 = .ok (.iconst 1, 1) := by decide +kernel
theorem d_nbl_57 : decode jdk_52_method_3_code 57 = .ok (.ishl, 1) := by decide +kernel
theorem d_nbl_58 : decode jdk_52_method_3_code 58 = .ok (.ireturn, 1) := by decide +kernel
abbrev M_nbl : own_Mi := ((⟨"java/lang/StringUTF16", "newBytesLength", "(I)I"⟩ : MethodName), jdk_52_method_3_code, 1, (Option.some FieldType.int), ({ frames := 0, cells := 0, slots := 0, locals := 0 } : Room))
theorem pn_nbl : plainFor (own_Mi.y M_nbl) = true := plainFor_of_name (by first | (simp [plainName, overriddenIn]; done) | decide +kernel)
set_option maxRecDepth 65536 in
set_option maxHeartbeats 40000000 in
theorem c_nbl (K : own_Cx) (a0 : Array Value) (hw : ∀ d ∈ tables_1, d.before a0 K.Z = true) (n : Int32) (N : Nat) (h : Heap) (hn : n.toInt = N) (hN : N < 2 ^ 29) :
    own_Met K M_nbl #[.int n] [] h (own_ret fun w h' _ => ∃ r : Int32, w = .int r ∧ r.toInt = ((2 * N : Nat) : Int) ∧ h' = h) := by
  refine own_met_1_0 (M := M_nbl) pn_nbl rfl (by first | rfl | exact own_cat (by assumption)) ?_
  refine own_iload_n (pc' := 1) rfl d_nbl_0 rfl ?_
  refine own_ifge (pcT := 12) (pcF := 4) d_nbl_1 (by decide) (by decide) rfl (fun q => ?_) (fun q => ?_)
  · skip
    refine own_iload_n (pc' := 13) rfl d_nbl_12 rfl ?_
    refine own_ldcI (pc' := 15) rfl d_nbl_13 (tw_146 hw) ?_
    refine own_icmplt (pcT := 55) (pcF := 18) d_nbl_15 (by decide) (by decide) rfl (fun q2 => ?_) (fun q2 => ?_)
    · skip
      refine own_iload_n (pc' := 56) rfl d_nbl_55 rfl ?_
      refine own_iconst (v := (1 : Int32)) (pc' := 57) rfl d_nbl_56 rfl ?_
      refine own_ishl (pc' := 58) rfl d_nbl_57 ?_
      refine own_ireturn rfl d_nbl_58 rfl rfl ?_
      exact ⟨_, rfl, own_shl1 hn hN, rfl⟩
    · exfalso
      rw [Int32.lt_iff_toInt_lt] at q2
      have : (1073741823 : Int32).toInt = 1073741823 := rfl
      omega
  · exfalso
    rw [Int32.lt_iff_toInt_lt] at q
    have : (0 : Int32).toInt = 0 := rfl
    omega
theorem d_nbf_0 : decode jdk_52_method_2_code 0 = .ok (.iload_n 0, 1) := by decide +kernel
theorem d_nbf_1 : decode jdk_52_method_2_code 1 = .ok (.invokestatic 11, 3) := by decide +kernel
theorem d_nbf_4 : decode jdk_52_method_2_code 4 = .ok (.newarray .byte, 2) := by decide +kernel
theorem d_nbf_6 : decode jdk_52_method_2_code 6 = .ok (.areturn, 1) := by decide +kernel
abbrev M_nbf : own_Mi := ((⟨"java/lang/StringUTF16", "newBytesFor", "(I)[B"⟩ : MethodName), jdk_52_method_2_code, 1, (Option.some (FieldType.array FieldType.byte)), ({ frames := 1, cells := 1, slots := 8, locals := 12 } : Room))
theorem pn_nbf : plainFor (own_Mi.y M_nbf) = true := plainFor_of_name (by first | (simp [plainName, overriddenIn]; done) | decide +kernel)
set_option maxRecDepth 65536 in
set_option maxHeartbeats 40000000 in
theorem c_nbf (K : own_Cx) (a0 : Array Value) (hw : ∀ d ∈ tables_1, d.before a0 K.Z = true) (n : Int32) (N : Nat) (h : Heap) (hn : n.toInt = N) (hN : N ≤ 4) :
    own_Met K M_nbf #[.int n] [] h (own_ret fun w h' xs => ∃ b : Addr, w = .ref b ∧ Ext h h' ∧ h.size ≤ b ∧ b ∈ xs ∧ own_Ary K.Z h' b .byte (List.replicate (2 * N) (.int 0))) := by
  refine own_met_1_0 (M := M_nbf) pn_nbf rfl (by first | rfl | exact own_cat (by assumption)) ?_
  refine own_iload_n (pc' := 1) rfl d_nbf_0 rfl ?_
  refine own_static1v (M' := M_nbl) d_nbf_1 (pc' := 4) rfl (tw_143 hw) (tw_144 hw) (tw_17 hw) (tw_145 hw) (by decide) rfl (own_lenOf pd_0 rfl) rfl rfl rfl rfl (c_nbl K a0 hw n N h hn (by omega)) (by simp) ?_
  rintro w h1 xs ⟨r, rfl, hr, rfl⟩
  refine own_newarray (pc' := 6) rfl d_nbf_4 (tw_19 hw) (N := (2 * N)) (cap := 8) hr (by omega) rfl rfl rfl ?_
  intro b h2 eb E2 B2
  refine own_areturn rfl rfl (by first | rfl | assumption) d_nbf_6 rfl rfl ?_
  exact ⟨b, rfl, E2, by omega, by simp, B2⟩
theorem d_pch_0 : decode jdk_52_method_4_code 0 = .ok (.getstatic 44, 3) := by decide +kernel
theorem d_pch_3 : decode jdk_52_method_4_code 3 = .ok (.ifCond .ne 25, 3) := by decide +kernel
theorem d_pch_28 : decode jdk_52_method_4_code 28 = .ok (.iload_n 1, 1) := by decide +kernel
theorem d_pch_29 : decode jdk_52_method_4_code 29 = .ok (.iconst 1, 1) := by decide +kernel
theorem d_pch_30 : decode jdk_52_method_4_code 30 = .ok (.ishl, 1) := by decide +kernel
theorem d_pch_31 : decode jdk_52_method_4_code 31 = .ok (.istore_n 1, 1) := by decide +kernel
theorem d_pch_32 : decode jdk_52_method_4_code 32 = .ok (.aload_n 0, 1) := by decide +kernel
theorem d_pch_33 : decode jdk_52_method_4_code 33 = .ok (.iload_n 1, 1) := by decide +kernel
theorem d_pch_34 : decode jdk_52_method_4_code 34 = .ok (.iinc 1 1, 3) := by decide +kernel
theorem d_pch_37 : decode jdk_52_method_4_code 37 = .ok (.iload_n 2, 1) := by decide +kernel
theorem d_pch_38 : decode jdk_52_method_4_code 38 = .ok (.getstatic 59, 3) := by decide +kernel
theorem d_pch_41 : decode jdk_52_method_4_code 41 = .ok (.ishr, 1) := by decide +kernel
theorem d_pch_42 : decode jdk_52_method_4_code 42 = .ok (.i2b, 1) := by decide +kernel
theorem d_pch_43 : decode jdk_52_method_4_code 43 = .ok (.bastore, 1) := by decide +kernel
theorem d_pch_44 : decode jdk_52_method_4_code 44 = .ok (.aload_n 0, 1) := by decide +kernel
theorem d_pch_45 : decode jdk_52_method_4_code 45 = .ok (.iload_n 1, 1) := by decide +kernel
theorem d_pch_46 : decode jdk_52_method_4_code 46 = .ok (.iload_n 2, 1) := by decide +kernel
theorem d_pch_47 : decode jdk_52_method_4_code 47 = .ok (.getstatic 63, 3) := by decide +kernel
theorem d_pch_50 : decode jdk_52_method_4_code 50 = .ok (.ishr, 1) := by decide +kernel
theorem d_pch_51 : decode jdk_52_method_4_code 51 = .ok (.i2b, 1) := by decide +kernel
theorem d_pch_52 : decode jdk_52_method_4_code 52 = .ok (.bastore, 1) := by decide +kernel
theorem d_pch_53 : decode jdk_52_method_4_code 53 = .ok (.return_, 1) := by decide +kernel
abbrev M_pch : own_Mi := ((⟨"java/lang/StringUTF16", "putChar", "([BII)V"⟩ : MethodName), jdk_52_method_4_code, 3, (Option.none : Option FieldType), ({ frames := 0, cells := 0, slots := 0, locals := 0 } : Room))
theorem pn_pch : plainFor (own_Mi.y M_pch) = true := plainFor_of_name (by first | (simp [plainName, overriddenIn]; done) | decide +kernel)
set_option maxRecDepth 65536 in
set_option maxHeartbeats 40000000 in
theorem c_pch (K : own_Cx) (a0 : Array Value) (hw : ∀ d ∈ tables_1, d.before a0 K.Z = true) (hU : own_U16 K) (b : Addr) (i c : Int32) (I : Nat) (vs : List Value) (h : Heap) (hi : i.toInt = I) (hI : 2 * I + 1 < vs.length) (hI2 : I < 2 ^ 29) (B : own_Ary K.Z h b .byte vs) :
    own_Met K M_pch #[.ref b, .int i, .int c] [b] h (own_void fun h' _ => Keep h h' [b] ∧ own_Ary K.Z h' b .byte ((vs.set (2 * I) (.int (own_bt c))).set (2 * I + 1) (.int (own_hb c)))) := by
  obtain ⟨u1, u2, u3⟩ := hU
  have hj := own_shl1 hi hI2
  refine own_met_3_0 (M := M_pch) pn_pch rfl (by first | rfl | exact own_cat (by assumption)) (by first | rfl | exact own_cat (by assumption)) (by first | rfl | exact own_cat (by assumption)) ?_
  refine own_getS (pc' := 3) rfl d_pch_0 (tw_150 hw) Via.refl (by assumption) ?_
  refine own_ifne (pcT := 28) (pcF := 6) d_pch_3 (by decide) (by decide) rfl (fun q => ?_) (fun q => ?_)
  · skip
    refine own_iload_n (pc' := 29) rfl d_pch_28 rfl ?_
    refine own_iconst (v := (1 : Int32)) (pc' := 30) rfl d_pch_29 rfl ?_
    refine own_ishl (pc' := 31) rfl d_pch_30 ?_
    refine own_istore_n1 (pc' := 32) rfl d_pch_31 (by first | exact One.u | exact One.val rfl | assumption | exact One.val (by assumption)) ?_
    refine own_aload_n (pc' := 33) rfl d_pch_32 rfl (by first | rfl | assumption) ?_
    refine own_iload_n (pc' := 34) rfl d_pch_33 rfl ?_
    refine own_iinc_1 (z := (1 : Int32)) (pc' := 37) rfl d_pch_34 rfl ?_
    refine own_iload_n (pc' := 38) rfl d_pch_37 rfl ?_
    refine own_getS (pc' := 41) rfl d_pch_38 (tw_151 hw) Via.refl (by assumption) ?_
    refine own_ishr (pc' := 42) rfl d_pch_41 ?_
    refine own_i2b (pc' := 43) rfl d_pch_42 ?_
    refine own_bastore (pc' := 44) rfl d_pch_43 B (i := (2 * I)) hj (by omega) ((congrArg (fun z : Int32 => nar .byte (z.toInt8.toInt32)) (own_shr0 c)).trans (own_bt_nar c)) (by simp) ?_
    intro h1 k1 B1
    refine own_aload_n (pc' := 45) rfl d_pch_44 rfl (by first | rfl | assumption) ?_
    refine own_iload_n (pc' := 46) rfl d_pch_45 rfl ?_
    refine own_iload_n (pc' := 47) rfl d_pch_46 rfl ?_
    refine own_getS (pc' := 50) rfl d_pch_47 (tw_152 hw) Via.refl (by assumption) ?_
    refine own_ishr (pc' := 51) rfl d_pch_50 ?_
    refine own_i2b (pc' := 52) rfl d_pch_51 ?_
    refine own_bastore (pc' := 53) rfl d_pch_52 B1 (i := (2 * I + 1)) (by rw [own_add hj (by rfl : (1 : Int32).toInt = 1)] <;> omega) (by simpa using hI) (own_bt_nar (c >>> ((8 : Int32) &&& 31))) (by simp) ?_
    intro h2 k2 B2
    refine own_return rfl d_pch_53 rfl rfl ?_
    exact ⟨k1.trans k2 (fun x hx => Or.inl hx), B2⟩
  · exact absurd q (by decide)
theorem d_tb3_0 : decode jdk_52_method_14_code 0 = .ok (.iload_n 2, 1) := by decide +kernel
theorem d_tb3_1 : decode jdk_52_method_14_code 1 = .ok (.invokestatic 107, 3) := by decide +kernel
theorem d_tb3_4 : decode jdk_52_method_14_code 4 = .ok (.astore_n 3, 1) := by decide +kernel
theorem d_tb3_5 : decode jdk_52_method_14_code 5 = .ok (.iconst 0, 1) := by decide +kernel
theorem d_tb3_6 : decode jdk_52_method_14_code 6 = .ok (.istore 4, 2) := by decide +kernel
theorem d_tb3_8 : decode jdk_52_method_14_code 8 = .ok (.iload 4, 2) := by decide +kernel
theorem d_tb3_10 : decode jdk_52_method_14_code 10 = .ok (.iload_n 2, 1) := by decide +kernel
theorem d_tb3_11 : decode jdk_52_method_14_code 11 = .ok (.if_icmp .ge 21, 3) := by decide +kernel
theorem d_tb3_14 : decode jdk_52_method_14_code 14 = .ok (.aload_n 3, 1) := by decide +kernel
theorem d_tb3_15 : decode jdk_52_method_14_code 15 = .ok (.iload 4, 2) := by decide +kernel
theorem d_tb3_17 : decode jdk_52_method_14_code 17 = .ok (.aload_n 0, 1) := by decide +kernel
theorem d_tb3_18 : decode jdk_52_method_14_code 18 = .ok (.iload_n 1, 1) := by decide +kernel
theorem d_tb3_19 : decode jdk_52_method_14_code 19 = .ok (.caload, 1) := by decide +kernel
theorem d_tb3_20 : decode jdk_52_method_14_code 20 = .ok (.invokestatic 111, 3) := by decide +kernel
theorem d_tb3_23 : decode jdk_52_method_14_code 23 = .ok (.iinc 1 1, 3) := by decide +kernel
theorem d_tb3_26 : decode jdk_52_method_14_code 26 = .ok (.iinc 4 1, 3) := by decide +kernel
theorem d_tb3_29 : decode jdk_52_method_14_code 29 = .ok (.goto (-21), 3) := by decide +kernel
theorem d_tb3_32 : decode jdk_52_method_14_code 32 = .ok (.aload_n 3, 1) := by decide +kernel
theorem d_tb3_33 : decode jdk_52_method_14_code 33 = .ok (.areturn, 1) := by decide +kernel
abbrev M_tb3 : own_Mi := ((⟨"java/lang/StringUTF16", "toBytes", "([CII)[B"⟩ : MethodName), jdk_52_method_14_code, 5, (Option.some (FieldType.array FieldType.byte)), ({ frames := 2, cells := 1, slots := 8, locals := 24 } : Room))
theorem pn_tb3 : plainFor (own_Mi.y M_tb3) = true := plainFor_of_name (by first | (simp [plainName, overriddenIn]; done) | decide +kernel)
set_option maxRecDepth 65536 in
set_option maxHeartbeats 40000000 in
theorem c_tb3 (K : own_Cx) (a0 : Array Value) (hw : ∀ d ∈ tables_1, d.before a0 K.Z = true) (hU : own_U16 K) (a : Addr) (n : Int32) (cs : List Int32) (h : Heap) (hn : n.toInt = cs.length) (hcap : cs.length ≤ 4) (hcs : own_Chs cs) (A : own_Ary K.Z h a .char (own_ints cs)) :
    own_Met K M_tb3 #[.ref a, .int 0, .int n] [] h (own_ret fun w h' _ => ∃ b : Addr, w = .ref b ∧ Ext h h' ∧ h.size ≤ b ∧ own_Ary K.Z h' b .byte (own_ints (own_two cs))) := by
  refine own_met_3_2 (M := M_tb3) pn_tb3 rfl (by first | rfl | exact own_cat (by assumption)) (by first | rfl | exact own_cat (by assumption)) (by first | rfl | exact own_cat (by assumption)) ?_
  refine own_iload_n (pc' := 1) rfl d_tb3_0 rfl ?_
  refine own_static1v (M' := M_nbf) d_tb3_1 (pc' := 4) rfl (tw_140 hw) (tw_141 hw) (tw_17 hw) (tw_142 hw) (by decide) rfl (own_lenOf pd_1 rfl) rfl rfl rfl rfl (c_nbf K a0 hw n cs.length h hn hcap) (by simp) ?_
  rintro w h1 xs ⟨b, rfl, E1, hb1, hbx, B1⟩
  refine own_astore_n3 (pc' := 5) rfl d_tb3_4 (by first | exact One.u | exact One.val rfl | assumption | exact One.val (by assumption)) (by first | rfl | assumption) ?_
  refine own_iconst (v := (0 : Int32)) (pc' := 6) rfl d_tb3_5 rfl ?_
  refine own_istore_4 (pc' := 8) rfl d_tb3_6 (by first | exact One.u | exact One.val rfl | assumption | exact One.val (by assumption)) ?_
  suffices key : ∀ (k i : Nat) (j : Int32) (h2 : Heap) (sf : List Addr), i + k = cs.length → j.toInt = i → b ∈ sf → Ext h h2 → own_Ary K.Z h2 b .byte (own_ints (own_two (cs.take i)) ++ List.replicate (2 * k) (.int 0)) → own_WP K M_tb3 (own_ret fun w h' _ => ∃ b : Addr, w = .ref b ∧ Ext h h' ∧ h.size ≤ b ∧ own_Ary K.Z h' b .byte (own_ints (own_two cs))) 8 [.val (.ref a), .val (.int j), .val (.int n), .val (.ref b), .val (.int j)] [] sf h2 1 8 from
    own_weak (key cs.length 0 0 h1 _ (by simp) rfl (by simpa using hbx) E1 (by simpa [own_two] using B1)) (fun x hx => hx) (by exact Nat.le_of_ble_eq_true rfl) (by exact Nat.le_of_ble_eq_true rfl)
  intro k
  induction k with
  | zero =>
    intro i j h2 sf hik hj hbs E2 B2
    refine own_iload (pc' := 10) rfl d_tb3_8 rfl ?_
    refine own_iload_n (pc' := 11) rfl d_tb3_10 rfl ?_
    refine own_icmpge (pcT := 32) (pcF := 14) d_tb3_11 (by decide) (by decide) rfl (fun q => ?_) (fun q => ?_)
    · skip
      refine own_aload_n (pc' := 33) rfl d_tb3_32 rfl (by first | rfl | assumption) ?_
      refine own_areturn rfl rfl (by first | rfl | assumption) d_tb3_33 rfl rfl ?_
      have e : cs.take i = cs := List.take_of_length_le (by omega)
      rw [e] at B2
      exact ⟨b, rfl, E2, hb1, by simpa using B2⟩
    · rw [Int32.lt_iff_toInt_lt] at q
      omega
  | succ k ih =>
    intro i j h2 sf hik hj hbs E2 B2
    have hi : i < cs.length := by omega
    obtain ⟨c, hc⟩ : ∃ c, cs[i]? = some c := ⟨cs[i], by simp [hi]⟩
    have e1 : (own_ints (own_two (cs.take i))).length = 2 * i := by simp [own_two_len]; omega
    refine own_iload (pc' := 10) rfl d_tb3_8 rfl ?_
    refine own_iload_n (pc' := 11) rfl d_tb3_10 rfl ?_
    refine own_icmpge (pcT := 32) (pcF := 14) d_tb3_11 (by decide) (by decide) rfl (fun q => ?_) (fun q => ?_)
    · exact absurd (by rw [Int32.lt_iff_toInt_lt]; omega) q
    · skip
      refine own_aload_n (pc' := 15) rfl d_tb3_14 rfl (by first | rfl | assumption) ?_
      refine own_iload (pc' := 17) rfl d_tb3_15 rfl ?_
      refine own_aload_n (pc' := 18) rfl d_tb3_17 rfl (by first | rfl | assumption) ?_
      refine own_iload_n (pc' := 19) rfl d_tb3_18 rfl ?_
      refine own_caload (pc' := 20) rfl d_tb3_19 (A.ext E2) (i := i) hj (by first | exact own_ints_get hc | exact own_ints_getM hc) ?_
      refine own_static3n (M' := M_pch) d_tb3_20 (pc' := 23) rfl (tw_147 hw) (tw_148 hw) (tw_17 hw) (tw_149 hw) (by decide) rfl (own_lenOf pd_2 rfl) rfl rfl rfl rfl (c_pch K a0 hw hU b j c i _ h2 hj (by rw [List.length_append, e1, List.length_replicate]; omega) (by omega) B2) (by simpa using hbs) ?_
      rintro h3 xs3 ⟨k3, B3⟩
      refine own_iinc_1 (z := (1 : Int32)) (pc' := 26) rfl d_tb3_23 rfl ?_
      refine own_iinc_4 (z := (1 : Int32)) (pc' := 29) rfl d_tb3_26 rfl ?_
      refine own_goto (pc' := 8) d_tb3_29 (by decide) (by decide) ?_
      refine own_weak (ih (i + 1) (j + 1) h3 _ (by omega) (by rw [own_add hj (by rfl : (1 : Int32).toInt = 1)] <;> omega) (List.mem_append_right _ hbs) (own_ext_keep E2 k3 (by intro x hx; cases List.mem_singleton.mp hx; omega)) ?_) (fun x hx => hx) (by exact Nat.le_of_ble_eq_true rfl) (by exact Nat.le_of_ble_eq_true rfl)
      rw [own_two_snoc hc]
      have e2 : own_ints (own_two (cs.take i) ++ [own_bt c, own_hb c]) = own_ints (own_two (cs.take i)) ++ [.int (own_bt c), .int (own_hb c)] := by simp [own_ints]
      rw [e2, ← own_settwo, e1]
      exact B3
theorem d_gc_0 : decode jdk_52_method_5_code 0 = .ok (.getstatic 44, 3) := by decide +kernel
theorem d_gc_3 : decode jdk_52_method_5_code 3 = .ok (.ifCond .ne 25, 3) := by decide +kernel
theorem d_gc_28 : decode jdk_52_method_5_code 28 = .ok (.iload_n 1, 1) := by decide +kernel
theorem d_gc_29 : decode jdk_52_method_5_code 29 = .ok (.iconst 1, 1) := by decide +kernel
theorem d_gc_30 : decode jdk_52_method_5_code 30 = .ok (.ishl, 1) := by decide +kernel
theorem d_gc_31 : decode jdk_52_method_5_code 31 = .ok (.istore_n 1, 1) := by decide +kernel
theorem d_gc_32 : decode jdk_52_method_5_code 32 = .ok (.aload_n 0, 1) := by decide +kernel
theorem d_gc_33 : decode jdk_52_method_5_code 33 = .ok (.iload_n 1, 1) := by decide +kernel
theorem d_gc_34 : decode jdk_52_method_5_code 34 = .ok (.iinc 1 1, 3) := by decide +kernel
theorem d_gc_37 : decode jdk_52_method_5_code 37 = .ok (.baload, 1) := by decide +kernel
theorem d_gc_38 : decode jdk_52_method_5_code 38 = .ok (.sipush 255, 3) := by decide +kernel
theorem d_gc_41 : decode jdk_52_method_5_code 41 = .ok (.iand, 1) := by decide +kernel
theorem d_gc_42 : decode jdk_52_method_5_code 42 = .ok (.getstatic 59, 3) := by decide +kernel
theorem d_gc_45 : decode jdk_52_method_5_code 45 = .ok (.ishl, 1) := by decide +kernel
theorem d_gc_46 : decode jdk_52_method_5_code 46 = .ok (.aload_n 0, 1) := by decide +kernel
theorem d_gc_47 : decode jdk_52_method_5_code 47 = .ok (.iload_n 1, 1) := by decide +kernel
theorem d_gc_48 : decode jdk_52_method_5_code 48 = .ok (.baload, 1) := by decide +kernel
theorem d_gc_49 : decode jdk_52_method_5_code 49 = .ok (.sipush 255, 3) := by decide +kernel
theorem d_gc_52 : decode jdk_52_method_5_code 52 = .ok (.iand, 1) := by decide +kernel
theorem d_gc_53 : decode jdk_52_method_5_code 53 = .ok (.getstatic 63, 3) := by decide +kernel
theorem d_gc_56 : decode jdk_52_method_5_code 56 = .ok (.ishl, 1) := by decide +kernel
theorem d_gc_57 : decode jdk_52_method_5_code 57 = .ok (.ior, 1) := by decide +kernel
theorem d_gc_58 : decode jdk_52_method_5_code 58 = .ok (.i2c, 1) := by decide +kernel
theorem d_gc_59 : decode jdk_52_method_5_code 59 = .ok (.ireturn, 1) := by decide +kernel
abbrev M_gc : own_Mi := ((⟨"java/lang/StringUTF16", "getChar", "([BI)C"⟩ : MethodName), jdk_52_method_5_code, 2, (Option.some FieldType.char), ({ frames := 0, cells := 0, slots := 0, locals := 0 } : Room))
theorem pn_gc : plainFor (own_Mi.y M_gc) = true := plainFor_of_name (by first | (simp [plainName, overriddenIn]; done) | decide +kernel)
set_option maxRecDepth 65536 in
set_option maxHeartbeats 40000000 in
theorem c_gc (K : own_Cx) (a0 : Array Value) (hw : ∀ d ∈ tables_1, d.before a0 K.Z = true) (hU : own_U16 K) (b : Addr) (r : Int32) (i : Nat) (c : Int32) (cs : List Int32) (h : Heap) (hr : r.toInt = i) (hc : cs[i]? = some c) (hi : i < 2 ^ 29) (hcs : own_Chs cs) (B : own_Ary K.Z h b .byte (own_ints (own_two cs))) :
    own_Met K M_gc #[.ref b, .int r] [] h (own_ret fun w h' _ => w = .int c ∧ h' = h) := by
  obtain ⟨u1, u2, u3⟩ := hU
  have hj := own_shl1 hr hi
  have g := own_two_get hc
  have hcr := hcs c (List.mem_of_getElem? hc)
  refine own_met_2_0 (M := M_gc) pn_gc rfl (by first | rfl | exact own_cat (by assumption)) (by first | rfl | exact own_cat (by assumption)) ?_
  refine own_getS (pc' := 3) rfl d_gc_0 (tw_150 hw) Via.refl (by assumption) ?_
  refine own_ifne (pcT := 28) (pcF := 6) d_gc_3 (by decide) (by decide) rfl (fun q => ?_) (fun q => ?_)
  · skip
    refine own_iload_n (pc' := 29) rfl d_gc_28 rfl ?_
    refine own_iconst (v := (1 : Int32)) (pc' := 30) rfl d_gc_29 rfl ?_
    refine own_ishl (pc' := 31) rfl d_gc_30 ?_
    refine own_istore_n1 (pc' := 32) rfl d_gc_31 (by first | exact One.u | exact One.val rfl | assumption | exact One.val (by assumption)) ?_
    refine own_aload_n (pc' := 33) rfl d_gc_32 rfl (by first | rfl | assumption) ?_
    refine own_iload_n (pc' := 34) rfl d_gc_33 rfl ?_
    refine own_iinc_1 (z := (1 : Int32)) (pc' := 37) rfl d_gc_34 rfl ?_
    refine own_baload (pc' := 38) rfl d_gc_37 B (i := (2 * i)) hj (by first | exact own_ints_get g.1 | exact own_ints_getM g.1) ?_
    refine own_sipush (v := (255 : Int32)) (pc' := 41) rfl d_gc_38 rfl ?_
    refine own_iand (pc' := 42) rfl d_gc_41 ?_
    refine own_getS (pc' := 45) rfl d_gc_42 (tw_151 hw) Via.refl (by assumption) ?_
    refine own_ishl (pc' := 46) rfl d_gc_45 ?_
    refine own_aload_n (pc' := 47) rfl d_gc_46 rfl (by first | rfl | assumption) ?_
    refine own_iload_n (pc' := 48) rfl d_gc_47 rfl ?_
    refine own_baload (pc' := 49) rfl d_gc_48 B (i := (2 * i + 1)) (by rw [own_add hj (by rfl : (1 : Int32).toInt = 1)] <;> omega) (by first | exact own_ints_get g.2 | exact own_ints_getM g.2) ?_
    refine own_sipush (v := (255 : Int32)) (pc' := 52) rfl d_gc_49 rfl ?_
    refine own_iand (pc' := 53) rfl d_gc_52 ?_
    refine own_getS (pc' := 56) rfl d_gc_53 (tw_152 hw) Via.refl (by assumption) ?_
    refine own_ishl (pc' := 57) rfl d_gc_56 ?_
    refine own_ior (pc' := 58) rfl d_gc_57 ?_
    refine own_i2c (pc' := 59) rfl d_gc_58 ?_
    rw [own_join hcr.1 hcr.2, own_i2c_id hcr.1 hcr.2]
    refine own_ireturnN (t := .char) rfl (by simp) (own_i2c_id hcr.1 hcr.2) d_gc_59 rfl rfl ?_
    exact ⟨rfl, rfl⟩
  · exact absurd q (by decide)
theorem d_cp3_0 : decode jdk_52_method_16_code 0 = .ok (.iload_n 2, 1) := by decide +kernel
theorem d_cp3_1 : decode jdk_52_method_16_code 1 = .ok (.newarray .byte, 2) := by decide +kernel
theorem d_cp3_3 : decode jdk_52_method_16_code 3 = .ok (.astore_n 3, 1) := by decide +kernel
theorem d_cp3_4 : decode jdk_52_method_16_code 4 = .ok (.aload_n 0, 1) := by decide +kernel
theorem d_cp3_5 : decode jdk_52_method_16_code 5 = .ok (.iload_n 1, 1) := by decide +kernel
theorem d_cp3_6 : decode jdk_52_method_16_code 6 = .ok (.aload_n 3, 1) := by decide +kernel
theorem d_cp3_7 : decode jdk_52_method_16_code 7 = .ok (.iconst 0, 1) := by decide +kernel
theorem d_cp3_8 : decode jdk_52_method_16_code 8 = .ok (.iload_n 2, 1) := by decide +kernel
theorem d_cp3_9 : decode jdk_52_method_16_code 9 = .ok (.invokestatic 115, 3) := by decide +kernel
theorem d_cp3_12 : decode jdk_52_method_16_code 12 = .ok (.istore 4, 2) := by decide +kernel
theorem d_cp3_14 : decode jdk_52_method_16_code 14 = .ok (.iload 4, 2) := by decide +kernel
theorem d_cp3_16 : decode jdk_52_method_16_code 16 = .ok (.iload_n 2, 1) := by decide +kernel
theorem d_cp3_17 : decode jdk_52_method_16_code 17 = .ok (.if_icmp .eq 40, 3) := by decide +kernel
theorem d_cp3_20 : decode jdk_52_method_16_code 20 = .ok (.aload_n 0, 1) := by decide +kernel
theorem d_cp3_21 : decode jdk_52_method_16_code 21 = .ok (.iload_n 1, 1) := by decide +kernel
theorem d_cp3_22 : decode jdk_52_method_16_code 22 = .ok (.iload_n 2, 1) := by decide +kernel
theorem d_cp3_23 : decode jdk_52_method_16_code 23 = .ok (.invokestatic 119, 3) := by decide +kernel
theorem d_cp3_26 : decode jdk_52_method_16_code 26 = .ok (.astore 5, 2) := by decide +kernel
theorem d_cp3_28 : decode jdk_52_method_16_code 28 = .ok (.aload 5, 2) := by decide +kernel
theorem d_cp3_30 : decode jdk_52_method_16_code 30 = .ok (.iload 4, 2) := by decide +kernel
theorem d_cp3_32 : decode jdk_52_method_16_code 32 = .ok (.invokestatic 71, 3) := by decide +kernel
theorem d_cp3_35 : decode jdk_52_method_16_code 35 = .ok (.sipush 255, 3) := by decide +kernel
theorem d_cp3_38 : decode jdk_52_method_16_code 38 = .ok (.if_icmp .gt 16, 3) := by decide +kernel
theorem d_cp3_54 : decode jdk_52_method_16_code 54 = .ok (.aload 5, 2) := by decide +kernel
theorem d_cp3_56 : decode jdk_52_method_16_code 56 = .ok (.areturn, 1) := by decide +kernel
theorem d_cp3_57 : decode jdk_52_method_16_code 57 = .ok (.aload_n 3, 1) := by decide +kernel
theorem d_cp3_58 : decode jdk_52_method_16_code 58 = .ok (.areturn, 1) := by decide +kernel
abbrev M_cp3 : own_Mi := ((⟨"java/lang/StringUTF16", "compress", "([CII)[B"⟩ : MethodName), jdk_52_method_16_code, 6, (Option.some (FieldType.array FieldType.byte)), ({ frames := 3, cells := 2, slots := 12, locals := 40 } : Room))
theorem pn_cp3 : plainFor (own_Mi.y M_cp3) = true := plainFor_of_name (by first | (simp [plainName, overriddenIn]; done) | decide +kernel)
set_option maxRecDepth 65536 in
set_option maxHeartbeats 40000000 in
theorem c_cp3 (K : own_Cx) (a0 : Array Value) (hw : ∀ d ∈ tables_1, d.before a0 K.Z = true)
    (hU : own_U16 K)
    (a : Addr) (n : Int32) (cs : List Int32) (h : Heap) (hn : n.toInt = cs.length) (hcap : cs.length ≤ 4) (hcs : own_Chs cs) (A : own_Ary K.Z h a .char (own_ints cs))
    : own_Met K M_cp3 #[.ref a, .int 0, .int n] [] h (own_ret fun w h' _ => ∃ b : Addr, w = .ref b ∧ Ext h h' ∧ h.size ≤ b ∧ own_Ary K.Z h' b .byte (own_ints (own_enc cs))) := by
  refine own_met_3_3 (M := M_cp3) pn_cp3 rfl (by first | rfl | exact own_cat (by assumption)) (by first | rfl | exact own_cat (by assumption)) (by first | rfl | exact own_cat (by assumption)) ?_
  refine own_iload_n (pc' := 1) rfl d_cp3_0 rfl ?_
  refine own_newarray (pc' := 3) rfl d_cp3_1 (tw_19 hw) (N := cs.length) (cap := 4) hn hcap rfl rfl rfl ?_
  intro b h1 eb E1 B1
  have hab : a ≠ b := by show @Ne Nat a b; have : @LT.lt Nat _ _ _ := A.lt; omega
  refine own_astore_n3 (pc' := 4) rfl d_cp3_3 (by first | exact One.u | exact One.val rfl | assumption | exact One.val (by assumption)) (by first | rfl | assumption) ?_
  refine own_aload_n (pc' := 5) rfl d_cp3_4 rfl (by first | rfl | assumption) ?_
  refine own_iload_n (pc' := 6) rfl d_cp3_5 rfl ?_
  refine own_aload_n (pc' := 7) rfl d_cp3_6 rfl (by first | rfl | assumption) ?_
  refine own_iconst (v := (0 : Int32)) (pc' := 8) rfl d_cp3_7 rfl ?_
  refine own_iload_n (pc' := 9) rfl d_cp3_8 rfl ?_
  refine own_static5v (M' := M_cp5) d_cp3_9 (pc' := 12) rfl (tw_20 hw) (tw_21 hw) (tw_17 hw) (tw_22 hw) (by decide) rfl (own_lenOf pd_3 rfl) rfl rfl rfl rfl (c_cp5 K a0 hw a b n cs h1 hn hcs (A.ext E1) B1 hab) (by simp) ?_
  rintro w h2 xs ⟨r, rfl, k2, q⟩
  have E2 := own_ext_keep E1 k2 (by intro x hx; cases List.mem_singleton.mp hx; omega)
  refine own_istore_4 (pc' := 14) rfl d_cp3_12 (by first | exact One.u | exact One.val rfl | assumption | exact One.val (by assumption)) ?_
  refine own_iload (pc' := 16) rfl d_cp3_14 rfl ?_
  refine own_iload_n (pc' := 17) rfl d_cp3_16 rfl ?_
  refine own_icmpeq (pcT := 57) (pcF := 20) d_cp3_17 (by decide) (by decide) rfl (fun z => ?_) (fun z => ?_)
  · rcases q with ⟨q1, q2, q3⟩ | ⟨q1, i, c, q2, q3, q4⟩
    · skip
      refine own_aload_n (pc' := 58) rfl d_cp3_57 rfl (by first | rfl | assumption) ?_
      refine own_areturn rfl rfl (by first | rfl | assumption) d_cp3_58 rfl rfl ?_
      exact ⟨b, rfl, E2, by omega, by rw [(own_enc_lat q1).1]; exact q3⟩
    · have := (List.getElem?_eq_some_iff.mp q3).1
      rw [z] at q2
      omega
  · rcases q with ⟨q1, q2, q3⟩ | ⟨q1, i, c, q2, q3, q4⟩
    · exact absurd q2 z
    have hil := (List.getElem?_eq_some_iff.mp q3).1
    refine own_aload_n (pc' := 21) rfl d_cp3_20 rfl (by first | rfl | assumption) ?_
    refine own_iload_n (pc' := 22) rfl d_cp3_21 rfl ?_
    refine own_iload_n (pc' := 23) rfl d_cp3_22 rfl ?_
    refine own_static3v (M' := M_tb3) d_cp3_23 (pc' := 26) rfl (tw_137 hw) (tw_138 hw) (tw_17 hw) (tw_139 hw) (by decide) rfl (own_lenOf pd_4 rfl) rfl rfl rfl rfl (c_tb3 K a0 hw hU a n cs h2 hn hcap hcs (A.ext E2)) (by simp) ?_
    rintro w h3 xs3 ⟨b3, rfl, E3, hb3, B3⟩
    refine own_astore_5 (pc' := 28) rfl d_cp3_26 (by first | exact One.u | exact One.val rfl | assumption | exact One.val (by assumption)) (by first | rfl | assumption) ?_
    refine own_aload (pc' := 30) rfl d_cp3_28 rfl (by first | rfl | assumption) ?_
    refine own_iload (pc' := 32) rfl d_cp3_30 rfl ?_
    refine own_static2v (M' := M_gc) d_cp3_32 (pc' := 35) rfl (tw_153 hw) (tw_154 hw) (tw_17 hw) (tw_155 hw) (by decide) rfl (own_lenOf pd_5 rfl) rfl rfl rfl rfl (c_gc K a0 hw hU b3 r i c cs h3 q2 q3 (by omega) hcs B3) (by simp) ?_
    rintro w h4 xs4 ⟨rfl, rfl⟩
    refine own_sipush (v := (255 : Int32)) (pc' := 38) rfl d_cp3_35 rfl ?_
    refine own_icmpgt (pcT := 54) (pcF := 41) d_cp3_38 (by decide) (by decide) rfl (fun z2 => ?_) (fun z2 => ?_)
    · skip
      refine own_aload (pc' := 56) rfl d_cp3_54 rfl (by first | rfl | assumption) ?_
      refine own_areturn rfl rfl (by first | rfl | assumption) d_cp3_56 rfl rfl ?_
      exact ⟨b3, rfl, own_ext_trans E2 E3, by have := E2.1; omega, by rw [(own_enc_utf q1).1]; exact B3⟩
    · exfalso
      rw [Int32.lt_iff_toInt_lt] at z2
      have : (255 : Int32).toInt = 255 := rfl
      omega
theorem d_si4_0 : decode jdk_42_method_149_code 0 = .ok (.aload_n 0, 1) := by decide +kernel
theorem d_si4_1 : decode jdk_42_method_149_code 1 = .ok (.invokespecial 1, 3) := by decide +kernel
theorem d_si4_4 : decode jdk_42_method_149_code 4 = .ok (.iload_n 3, 1) := by decide +kernel
theorem d_si4_5 : decode jdk_42_method_149_code 5 = .ok (.ifCond .ne 22, 3) := by decide +kernel
theorem d_si4_27 : decode jdk_42_method_149_code 27 = .ok (.getstatic 38, 3) := by decide +kernel
theorem d_si4_30 : decode jdk_42_method_149_code 30 = .ok (.ifCond .eq 28, 3) := by decide +kernel
theorem d_si4_33 : decode jdk_42_method_149_code 33 = .ok (.aload_n 1, 1) := by decide +kernel
theorem d_si4_34 : decode jdk_42_method_149_code 34 = .ok (.iload_n 2, 1) := by decide +kernel
theorem d_si4_35 : decode jdk_42_method_149_code 35 = .ok (.iload_n 3, 1) := by decide +kernel
theorem d_si4_36 : decode jdk_42_method_149_code 36 = .ok (.invokestatic 177, 3) := by decide +kernel
theorem d_si4_39 : decode jdk_42_method_149_code 39 = .ok (.astore 5, 2) := by decide +kernel
theorem d_si4_41 : decode jdk_42_method_149_code 41 = .ok (.aload_n 0, 1) := by decide +kernel
theorem d_si4_42 : decode jdk_42_method_149_code 42 = .ok (.aload 5, 2) := by decide +kernel
theorem d_si4_44 : decode jdk_42_method_149_code 44 = .ok (.iload_n 3, 1) := by decide +kernel
theorem d_si4_45 : decode jdk_42_method_149_code 45 = .ok (.invokestatic 47, 3) := by decide +kernel
theorem d_si4_48 : decode jdk_42_method_149_code 48 = .ok (.putfield 15, 3) := by decide +kernel
theorem d_si4_51 : decode jdk_42_method_149_code 51 = .ok (.aload_n 0, 1) := by decide +kernel
theorem d_si4_52 : decode jdk_42_method_149_code 52 = .ok (.aload 5, 2) := by decide +kernel
theorem d_si4_54 : decode jdk_42_method_149_code 54 = .ok (.putfield 9, 3) := by decide +kernel
theorem d_si4_57 : decode jdk_42_method_149_code 57 = .ok (.return_, 1) := by decide +kernel
abbrev M_si4 : own_Mi := ((⟨"java/lang/String", "<init>", "([CIILjava/lang/Void;)V"⟩ : MethodName), jdk_42_method_149_code, 6, (Option.none : Option FieldType), ({ frames := 4, cells := 2, slots := 12, locals := 57 } : Room))
theorem pn_si4 : plainFor (own_Mi.y M_si4) = true := plainFor_of_name (by first | (simp [plainName, overriddenIn]; done) | decide +kernel)
set_option maxRecDepth 65536 in
set_option maxHeartbeats 40000000 in
theorem c_si4 (K : own_Cx) (a0 : Array Value) (hw : ∀ d ∈ tables_1, d.before a0 K.Z = true)
    (hU : own_U16 K)
    (x a : Addr) (n g : Int32) (cs : List Int32) (h : Heap) (hn : n.toInt = cs.length)
    (hp : 0 < cs.length)
    (hcap : cs.length ≤ 4) (hcs : own_Chs cs) (A : own_Ary K.Z h a .char (own_ints cs))
    (E : Exa K.Z h x "java/lang/String") (FV : Fld K.Z h x "java/lang/String" "value" "[B" .null) (FC : Fld K.Z h x "java/lang/String" "coder" "B" (.int 0)) (SC : Sta K.Z K.Z.heap "java/lang/String" "COMPACT_STRINGS" "Z" (.int g)) (hg : ¬ g = 0)
    : own_Met K M_si4 #[.ref x, .ref a, .int 0, .int n, .null] [x] h (own_void fun h' _ => Keep h h' [x] ∧ own_Str K.Z h' x cs) := by
  refine own_met_5_1 (M := M_si4) pn_si4 rfl (by first | rfl | exact own_cat (by assumption)) (by first | rfl | exact own_cat (by assumption)) (by first | rfl | exact own_cat (by assumption)) (by first | rfl | exact own_cat (by assumption)) (by first | rfl | exact own_cat (by assumption)) ?_
  refine own_aload_n (pc' := 1) rfl d_si4_0 rfl (by first | rfl | assumption) ?_
  refine own_initO (pc' := 4) rfl d_si4_1 (tw_11 hw) (tw_12 hw) (tw_13 hw) rfl rfl rfl ?_
  refine own_iload_n (pc' := 5) rfl d_si4_4 rfl ?_
  refine own_ifne (pcT := 27) (pcF := 8) d_si4_5 (by decide) (by decide) rfl (fun z => ?_) (fun z => ?_)
  · skip
    refine own_getS (pc' := 30) rfl d_si4_27 (tw_14 hw) Via.refl (by assumption) ?_
    refine own_ifeq (pcT := 58) (pcF := 33) d_si4_30 (by decide) (by decide) rfl (fun z2 => ?_) (fun z2 => ?_)
    · exact absurd z2 hg
    · skip
      refine own_aload_n (pc' := 34) rfl d_si4_33 rfl (by first | rfl | assumption) ?_
      refine own_iload_n (pc' := 35) rfl d_si4_34 rfl ?_
      refine own_iload_n (pc' := 36) rfl d_si4_35 rfl ?_
      refine own_static3v (M' := M_cp3) d_si4_36 (pc' := 39) rfl (tw_15 hw) (tw_16 hw) (tw_17 hw) (tw_18 hw) (by decide) rfl (own_lenOf pd_4 rfl) rfl rfl rfl rfl (c_cp3 K a0 hw hU a n cs h hn hcap hcs A) (by simp) ?_
      rintro w h1 xs ⟨b, rfl, E1, hb1, B1⟩
      have hxb : b ≠ x := by show @Ne Nat b x; have : @LT.lt Nat _ _ _ := E.lt; omega
      refine own_astore_5 (pc' := 41) rfl d_si4_39 (by first | exact One.u | exact One.val rfl | assumption | exact One.val (by assumption)) (by first | rfl | assumption) ?_
      refine own_aload_n (pc' := 42) rfl d_si4_41 rfl (by first | rfl | assumption) ?_
      refine own_aload (pc' := 44) rfl d_si4_42 rfl (by first | rfl | assumption) ?_
      refine own_iload_n (pc' := 45) rfl d_si4_44 rfl ?_
      have hp : 0 < cs.length := by
        rcases Nat.eq_zero_or_pos cs.length with e | e
        · exact absurd (Int32.toInt_inj.mp (by rw [hn, e]; rfl)) z
        · exact e
      refine own_static2v (M' := M_cfa) d_si4_45 (pc' := 48) rfl (tw_23 hw) (tw_24 hw) (tw_17 hw) (tw_25 hw) (by decide) rfl (own_lenOf pd_6 rfl) rfl rfl rfl rfl (c_cfa K a0 hw b n cs h1 hn (by omega) hp B1) (by simp) ?_
      rintro w h2 xs2 ⟨rfl, rfl⟩
      refine own_putF (pc' := 51) rfl d_si4_48 (tw_26 hw) Via.refl (Or.inr ⟨(tw_27 hw), rfl, rfl⟩) (tw_2 hw) (ty := .byte) (by decide) (own_cod_byte cs).1 (own_cod_byte cs).2 (FC.ext E1) (E.ext E1) (by simp) ?_
      intro h3 W3
      have sne : RoadKit.slotOf K.Z "java/lang/String" "value" "[B" ≠ RoadKit.slotOf K.Z "java/lang/String" "coder" "B" := slot_ne (Or.inr (tw_29 hw)) (Or.inr (tw_27 hw)) (by decide) (t := .array .byte) (t' := .byte) (by decide) (by decide)
      have FV3 := (FV.ext E1).other W3 (Or.inr sne)
      have FC3 := (FC.ext E1).same W3
      have E3 := (E.ext E1).wr W3
      have B3 := B1.other W3 hxb
      refine own_aload_n (pc' := 52) rfl d_si4_51 rfl (by first | rfl | assumption) ?_
      refine own_aload (pc' := 54) rfl d_si4_52 rfl (by first | rfl | assumption) ?_
      refine own_putF (pc' := 57) rfl d_si4_54 (tw_28 hw) Via.refl (Or.inr ⟨(tw_29 hw), rfl, rfl⟩) (tw_2 hw) (ty := (.array .byte)) (by decide) rfl rfl FV3 E3 (by simp) ?_
      intro h4 W4
      refine own_return rfl d_si4_57 rfl rfl ?_
      refine ⟨(((Keep.refl h [x]).ext E1).wr W3 (Or.inl (List.mem_singleton.mpr rfl))).wr W4 (Or.inl (List.mem_singleton.mpr rfl)), E3.wr W4, hcs, by omega, b, FV3.same W4, FC3.other W4 (Or.inr (Ne.symm sne)), B3.other W4 hxb⟩
  · exfalso
    rw [z] at hn
    have : (0 : Int32).toInt = 0 := rfl
    omega
theorem d_si1_0 : decode jdk_42_method_3_code 0 = .ok (.aload_n 0, 1) := by decide +kernel
theorem d_si1_1 : decode jdk_42_method_3_code 1 = .ok (.aload_n 1, 1) := by decide +kernel
theorem d_si1_2 : decode jdk_42_method_3_code 2 = .ok (.iconst 0, 1) := by decide +kernel
theorem d_si1_3 : decode jdk_42_method_3_code 3 = .ok (.aload_n 1, 1) := by decide +kernel
theorem d_si1_4 : decode jdk_42_method_3_code 4 = .ok (.arraylength, 1) := by decide +kernel
theorem d_si1_5 : decode jdk_42_method_3_code 5 = .ok (.aconst_null, 1) := by decide +kernel
theorem d_si1_6 : decode jdk_42_method_3_code 6 = .ok (.invokespecial 27, 3) := by decide +kernel
theorem d_si1_9 : decode jdk_42_method_3_code 9 = .ok (.return_, 1) := by decide +kernel
abbrev M_si1 : own_Mi := ((⟨"java/lang/String", "<init>", "([C)V"⟩ : MethodName), jdk_42_method_3_code, 2, (Option.none : Option FieldType), ({ frames := 5, cells := 2, slots := 12, locals := 74 } : Room))
theorem pn_si1 : plainFor (own_Mi.y M_si1) = true := plainFor_of_name (by first | (simp [plainName, overriddenIn]; done) | decide +kernel)
set_option maxRecDepth 65536 in
set_option maxHeartbeats 40000000 in
theorem c_si1 (K : own_Cx) (a0 : Array Value) (hw : ∀ d ∈ tables_1, d.before a0 K.Z = true)
    (hU : own_U16 K)
    (x a : Addr) (g : Int32) (cs : List Int32) (h : Heap)
    (hp : 0 < cs.length)
    (hcap : cs.length ≤ 4) (hcs : own_Chs cs) (A : own_Ary K.Z h a .char (own_ints cs))
    (E : Exa K.Z h x "java/lang/String") (FV : Fld K.Z h x "java/lang/String" "value" "[B" .null) (FC : Fld K.Z h x "java/lang/String" "coder" "B" (.int 0)) (SC : Sta K.Z K.Z.heap "java/lang/String" "COMPACT_STRINGS" "Z" (.int g)) (hg : ¬ g = 0)
    : own_Met K M_si1 #[.ref x, .ref a] [x] h (own_void fun h' _ => Keep h h' [x] ∧ own_Str K.Z h' x cs) := by
  have hz : (cs.length.toInt32).toInt = cs.length := own_lit _ (by omega)
  refine own_met_2_0 (M := M_si1) pn_si1 rfl (by first | rfl | exact own_cat (by assumption)) (by first | rfl | exact own_cat (by assumption)) ?_
  refine own_aload_n (pc' := 1) rfl d_si1_0 rfl (by first | rfl | assumption) ?_
  refine own_aload_n (pc' := 2) rfl d_si1_1 rfl (by first | rfl | assumption) ?_
  refine own_iconst (v := (0 : Int32)) (pc' := 3) rfl d_si1_2 rfl ?_
  refine own_aload_n (pc' := 4) rfl d_si1_3 rfl (by first | rfl | assumption) ?_
  refine own_arrlen (z := cs.length.toInt32) (pc' := 5) rfl d_si1_4 A (by rw [hz]; simp) ?_
  refine own_aconst_null (pc' := 6) rfl d_si1_5 ?_
  refine own_special4n (M' := M_si4) d_si1_6 (pc' := 9) rfl rfl rfl (tw_7 hw) (tw_8 hw) (tw_3 hw) (tw_10 hw) (by decide) rfl (own_lenOf pd_7 rfl) rfl rfl rfl rfl (c_si4 K a0 hw hU  x a _ g cs h hz hp hcap hcs A E FV FC SC hg ) (by simp) ?_
  intro h1 xs q
  refine own_return rfl d_si1_9 rfl rfl ?_
  exact q
def own_ch (c : Int32) : Int32 := c.toUInt32.toUInt16.toUInt32.toInt32
theorem own_ch_r (c : Int32) : 0 ≤ (own_ch c).toInt ∧ (own_ch c).toInt < 65536 := (c_i2c c).2
theorem own_ch_nar (c : Int32) : nar .char (c.toUInt32.toUInt16.toUInt32.toInt32) = own_ch c := own_i2c_id (own_ch_r c).1 (own_ch_r c).2
/-! STRINGS, their methods -/
abbrev own_sC : String := "java/lang/String"
theorem own_len_enc {cs : List Int32} : (own_lat cs = true → (own_ints (own_enc cs)).length = cs.length) ∧ (own_lat cs = false → (own_ints (own_enc cs)).length = 2 * cs.length) :=
  ⟨fun q => by simp [(own_enc_lat q).1], fun q => by simp [(own_enc_utf q).1, own_two_len]⟩
theorem own_lat_byte {c : Int32} (h0 : 0 ≤ c.toInt) (h1 : c.toInt < 256) : own_bt c &&& 255 = c := by
  apply Int32.toInt_inj.mp
  have b1 := c_mask (own_bt c) 255 8 (by decide) (by decide)
  have b2 := (c_i2b c).1
  have : (own_bt c).toInt = c.toInt8.toInt32.toInt := rfl
  omega
theorem d_cdr_0 : decode jdk_42_method_152_code 0 = .ok (.getstatic 38, 3) := by decide +kernel
theorem d_cdr_3 : decode jdk_42_method_152_code 3 = .ok (.ifCond .eq 10, 3) := by decide +kernel
theorem d_cdr_6 : decode jdk_42_method_152_code 6 = .ok (.aload_n 0, 1) := by decide +kernel
theorem d_cdr_7 : decode jdk_42_method_152_code 7 = .ok (.getfield 15, 3) := by decide +kernel
theorem d_cdr_10 : decode jdk_42_method_152_code 10 = .ok (.goto 4, 3) := by decide +kernel
theorem d_cdr_14 : decode jdk_42_method_152_code 14 = .ok (.ireturn, 1) := by decide +kernel
abbrev M_cdr : own_Mi := ((⟨"java/lang/String", "coder", "()B"⟩ : MethodName), jdk_42_method_152_code, 1, (Option.some FieldType.byte), ({ frames := 0, cells := 0, slots := 0, locals := 0 } : Room))
theorem pn_cdr : plainFor (own_Mi.y M_cdr) = true := plainFor_of_name (by first | (simp [plainName, overriddenIn]; done) | decide +kernel)
set_option maxRecDepth 65536 in
set_option maxHeartbeats 40000000 in
theorem c_cdr (K : own_Cx) (a0 : Array Value) (hw : ∀ d ∈ tables_1, d.before a0 K.Z = true) (g : Int32) (SC : Sta K.Z K.Z.heap own_sC "COMPACT_STRINGS" "Z" (.int g)) (hg : ¬ g = 0) (x : Addr) (cs : List Int32) (h : Heap) (S : own_Str K.Z h x cs) :
    own_Met K M_cdr #[.ref x] [] h (own_ret fun w h' _ => w = .int (own_cod cs) ∧ h' = h) := by
  obtain ⟨E, hcs, hl, b, FV, FC, B⟩ := S
  refine own_met_1_0 (M := M_cdr) pn_cdr rfl (by first | rfl | exact own_cat (by assumption)) ?_
  refine own_getS (pc' := 3) rfl d_cdr_0 (tw_14 hw) Via.refl (by assumption) ?_
  refine own_ifeq (pcT := 13) (pcF := 6) d_cdr_3 (by decide) (by decide) rfl (fun q => ?_) (fun q => ?_)
  · exact absurd q hg
  · skip
    refine own_aload_n (pc' := 7) rfl d_cdr_6 rfl (by first | rfl | assumption) ?_
    refine own_getF (pc' := 10) rfl d_cdr_7 (tw_26 hw) Via.refl (by assumption) ?_
    refine own_goto (pc' := 14) d_cdr_10 (by decide) (by decide) ?_
    refine own_ireturnN (t := .byte) rfl (by simp) (z' := own_cod cs) (by unfold own_cod; split <;> rfl) d_cdr_14 rfl rfl ?_
    exact ⟨rfl, rfl⟩
theorem d_sl_0 : decode jdk_42_method_54_code 0 = .ok (.aload_n 0, 1) := by decide +kernel
theorem d_sl_1 : decode jdk_42_method_54_code 1 = .ok (.getfield 9, 3) := by decide +kernel
theorem d_sl_4 : decode jdk_42_method_54_code 4 = .ok (.arraylength, 1) := by decide +kernel
theorem d_sl_5 : decode jdk_42_method_54_code 5 = .ok (.aload_n 0, 1) := by decide +kernel
theorem d_sl_6 : decode jdk_42_method_54_code 6 = .ok (.invokevirtual 335, 3) := by decide +kernel
theorem d_sl_9 : decode jdk_42_method_54_code 9 = .ok (.ishr, 1) := by decide +kernel
theorem d_sl_10 : decode jdk_42_method_54_code 10 = .ok (.ireturn, 1) := by decide +kernel
abbrev M_sl : own_Mi := ((⟨"java/lang/String", "length", "()I"⟩ : MethodName), jdk_42_method_54_code, 1, (Option.some FieldType.int), ({ frames := 1, cells := 0, slots := 0, locals := 14 } : Room))
theorem pn_sl : plainFor (own_Mi.y M_sl) = true := plainFor_of_name (by first | (simp [plainName, overriddenIn]; done) | decide +kernel)
set_option maxRecDepth 65536 in
set_option maxHeartbeats 40000000 in
theorem c_sl (K : own_Cx) (a0 : Array Value) (hw : ∀ d ∈ tables_1, d.before a0 K.Z = true) (g : Int32) (SC : Sta K.Z K.Z.heap own_sC "COMPACT_STRINGS" "Z" (.int g)) (hg : ¬ g = 0) (x : Addr) (cs : List Int32) (h : Heap) (S : own_Str K.Z h x cs) :
    own_Met K M_sl #[.ref x] [] h (own_ret fun w h' _ => w = .int cs.length.toInt32 ∧ h' = h) := by
  have S' := S
  obtain ⟨E, hcs, hl, b, FV, FC, B⟩ := S'
  have hn : (cs.length.toInt32).toInt = cs.length := own_lit _ (by omega)
  cases ql : own_lat cs
  · have hz : ((2 * cs.length).toInt32).toInt = ((2 * cs.length : Nat) : Int) := own_lit _ (by omega)
    refine own_met_1_0 (M := M_sl) pn_sl rfl (by first | rfl | exact own_cat (by assumption)) ?_
    refine own_aload_n (pc' := 1) rfl d_sl_0 rfl (by first | rfl | assumption) ?_
    refine own_getF (pc' := 4) rfl d_sl_1 (tw_28 hw) Via.refl (by assumption) ?_
    refine own_arrlen (z := (2 * cs.length).toInt32) (pc' := 5) rfl d_sl_4 B (by rw [hz, own_len_enc.2 ql]) ?_
    refine own_aload_n (pc' := 6) rfl d_sl_5 rfl (by first | rfl | assumption) ?_
    refine own_virtual0v (M' := M_cdr) d_sl_6 (pc' := 9) rfl (tw_55 hw) (tw_56 hw) (tw_58 hw) (tw_57 hw) (tw_3 hw) (tw_59 hw) (by decide) rfl (own_lenOf pd_8 rfl) rfl rfl rfl rfl E (c_cdr K a0 hw g SC hg x cs h S) (by simp) ?_
    rintro w h1 xs ⟨rfl, rfl⟩
    refine own_ishr (pc' := 10) rfl d_sl_9 ?_
    refine own_ireturn rfl d_sl_10 rfl rfl ?_
    refine ⟨?_, rfl⟩
    rw [(own_enc_utf ql).2]
    congr 1
    apply Int32.toInt_inj.mp
    have := c_ishr (2 * cs.length).toInt32 1 1 (by decide)
    rw [this, hn, hz]
    omega
  · skip
    refine own_met_1_0 (M := M_sl) pn_sl rfl (by first | rfl | exact own_cat (by assumption)) ?_
    refine own_aload_n (pc' := 1) rfl d_sl_0 rfl (by first | rfl | assumption) ?_
    refine own_getF (pc' := 4) rfl d_sl_1 (tw_28 hw) Via.refl (by assumption) ?_
    refine own_arrlen (z := cs.length.toInt32) (pc' := 5) rfl d_sl_4 B (by rw [hn, own_len_enc.1 ql]) ?_
    refine own_aload_n (pc' := 6) rfl d_sl_5 rfl (by first | rfl | assumption) ?_
    refine own_virtual0v (M' := M_cdr) d_sl_6 (pc' := 9) rfl (tw_55 hw) (tw_56 hw) (tw_58 hw) (tw_57 hw) (tw_3 hw) (tw_59 hw) (by decide) rfl (own_lenOf pd_8 rfl) rfl rfl rfl rfl E (c_cdr K a0 hw g SC hg x cs h S) (by simp) ?_
    rintro w h1 xs ⟨rfl, rfl⟩
    refine own_ishr (pc' := 10) rfl d_sl_9 ?_
    refine own_ireturn rfl d_sl_10 rfl rfl ?_
    exact ⟨by rw [(own_enc_lat ql).2, own_shr0], rfl⟩
theorem d_isl_0 : decode jdk_42_method_154_code 0 = .ok (.getstatic 38, 3) := by decide +kernel
theorem d_isl_3 : decode jdk_42_method_154_code 3 = .ok (.ifCond .eq 14, 3) := by decide +kernel
theorem d_isl_6 : decode jdk_42_method_154_code 6 = .ok (.aload_n 0, 1) := by decide +kernel
theorem d_isl_7 : decode jdk_42_method_154_code 7 = .ok (.getfield 15, 3) := by decide +kernel
theorem d_isl_10 : decode jdk_42_method_154_code 10 = .ok (.ifCond .ne 7, 3) := by decide +kernel
theorem d_isl_13 : decode jdk_42_method_154_code 13 = .ok (.iconst 1, 1) := by decide +kernel
theorem d_isl_14 : decode jdk_42_method_154_code 14 = .ok (.goto 4, 3) := by decide +kernel
theorem d_isl_17 : decode jdk_42_method_154_code 17 = .ok (.iconst 0, 1) := by decide +kernel
theorem d_isl_18 : decode jdk_42_method_154_code 18 = .ok (.ireturn, 1) := by decide +kernel
abbrev M_isl : own_Mi := ((⟨"java/lang/String", "isLatin1", "()Z"⟩ : MethodName), jdk_42_method_154_code, 1, (Option.some FieldType.boolean), ({ frames := 0, cells := 0, slots := 0, locals := 0 } : Room))
theorem pn_isl : plainFor (own_Mi.y M_isl) = true := plainFor_of_name (by first | (simp [plainName, overriddenIn]; done) | decide +kernel)
set_option maxRecDepth 65536 in
set_option maxHeartbeats 40000000 in
theorem c_isl (K : own_Cx) (a0 : Array Value) (hw : ∀ d ∈ tables_1, d.before a0 K.Z = true) (g : Int32) (SC : Sta K.Z K.Z.heap own_sC "COMPACT_STRINGS" "Z" (.int g)) (hg : ¬ g = 0) (x : Addr) (cs : List Int32) (h : Heap) (S : own_Str K.Z h x cs) :
    own_Met K M_isl #[.ref x] [] h (own_ret fun w h' _ => w = .int (if own_lat cs then 1 else 0) ∧ h' = h) := by
  obtain ⟨E, hcs, hl, b, FV, FC, B⟩ := S
  refine own_met_1_0 (M := M_isl) pn_isl rfl (by first | rfl | exact own_cat (by assumption)) ?_
  refine own_getS (pc' := 3) rfl d_isl_0 (tw_14 hw) Via.refl (by assumption) ?_
  refine own_ifeq (pcT := 17) (pcF := 6) d_isl_3 (by decide) (by decide) rfl (fun q => ?_) (fun q => ?_)
  · exact absurd q hg
  · skip
    refine own_aload_n (pc' := 7) rfl d_isl_6 rfl (by first | rfl | assumption) ?_
    refine own_getF (pc' := 10) rfl d_isl_7 (tw_26 hw) Via.refl (by assumption) ?_
    refine own_ifne (pcT := 17) (pcF := 13) d_isl_10 (by decide) (by decide) rfl (fun q2 => ?_) (fun q2 => ?_)
    · skip
      refine own_iconst (v := (0 : Int32)) (pc' := 18) rfl d_isl_17 rfl ?_
      refine own_ireturnN (t := .boolean) rfl (by simp) (by first | exact own_nb0 | exact own_nb1 | rfl) d_isl_18 rfl rfl ?_
      refine ⟨?_, rfl⟩
      cases ql : own_lat cs
      · rfl
      · exact absurd (own_enc_lat ql).2 q2
    · skip
      refine own_iconst (v := (1 : Int32)) (pc' := 14) rfl d_isl_13 rfl ?_
      refine own_goto (pc' := 18) d_isl_14 (by decide) (by decide) ?_
      refine own_ireturnN (t := .boolean) rfl (by simp) (by first | exact own_nb0 | exact own_nb1 | rfl) d_isl_18 rfl rfl ?_
      refine ⟨?_, rfl⟩
      cases ql : own_lat cs
      · rw [(own_enc_utf ql).2] at q2; cases q2
      · rfl
theorem d_ul_0 : decode jdk_52_method_6_code 0 = .ok (.aload_n 0, 1) := by decide +kernel
theorem d_ul_1 : decode jdk_52_method_6_code 1 = .ok (.arraylength, 1) := by decide +kernel
theorem d_ul_2 : decode jdk_52_method_6_code 2 = .ok (.iconst 1, 1) := by decide +kernel
theorem d_ul_3 : decode jdk_52_method_6_code 3 = .ok (.ishr, 1) := by decide +kernel
theorem d_ul_4 : decode jdk_52_method_6_code 4 = .ok (.ireturn, 1) := by decide +kernel
abbrev M_ul : own_Mi := ((⟨"java/lang/StringUTF16", "length", "([B)I"⟩ : MethodName), jdk_52_method_6_code, 1, (Option.some FieldType.int), ({ frames := 0, cells := 0, slots := 0, locals := 0 } : Room))
theorem pn_ul : plainFor (own_Mi.y M_ul) = true := plainFor_of_name (by first | (simp [plainName, overriddenIn]; done) | decide +kernel)
set_option maxRecDepth 65536 in
set_option maxHeartbeats 40000000 in
theorem c_ul (K : own_Cx) (a0 : Array Value) (hw : ∀ d ∈ tables_1, d.before a0 K.Z = true) (b : Addr) (cs : List Int32) (h : Heap) (hl : cs.length < 2 ^ 30) (B : own_Ary K.Z h b .byte (own_ints (own_two cs))) :
    own_Met K M_ul #[.ref b] [] h (own_ret fun w h' _ => w = .int cs.length.toInt32 ∧ h' = h) := by
  have hn : (cs.length.toInt32).toInt = cs.length := own_lit _ (by omega)
  have hz : ((2 * cs.length).toInt32).toInt = ((2 * cs.length : Nat) : Int) := own_lit _ (by omega)
  refine own_met_1_0 (M := M_ul) pn_ul rfl (by first | rfl | exact own_cat (by assumption)) ?_
  refine own_aload_n (pc' := 1) rfl d_ul_0 rfl (by first | rfl | assumption) ?_
  refine own_arrlen (z := (2 * cs.length).toInt32) (pc' := 2) rfl d_ul_1 B (by rw [hz]; simp [own_two_len]) ?_
  refine own_iconst (v := (1 : Int32)) (pc' := 3) rfl d_ul_2 rfl ?_
  refine own_ishr (pc' := 4) rfl d_ul_3 ?_
  refine own_ireturn rfl d_ul_4 rfl rfl ?_
  refine ⟨?_, rfl⟩
  congr 1
  apply Int32.toInt_inj.mp
  have := c_ishr (2 * cs.length).toInt32 1 1 (by decide)
  rw [this, hn, hz]
  omega
theorem d_pci_0 : decode jdk_41_method_11_code 0 = .ok (.iload_n 0, 1) := by decide +kernel
theorem d_pci_1 : decode jdk_41_method_11_code 1 = .ok (.ifCond .lt 8, 3) := by decide +kernel
theorem d_pci_4 : decode jdk_41_method_11_code 4 = .ok (.iload_n 0, 1) := by decide +kernel
theorem d_pci_5 : decode jdk_41_method_11_code 5 = .ok (.iload_n 1, 1) := by decide +kernel
theorem d_pci_6 : decode jdk_41_method_11_code 6 = .ok (.if_icmp .lt 10, 3) := by decide +kernel
theorem d_pci_16 : decode jdk_41_method_11_code 16 = .ok (.iload_n 0, 1) := by decide +kernel
theorem d_pci_17 : decode jdk_41_method_11_code 17 = .ok (.ireturn, 1) := by decide +kernel
abbrev M_pci : own_Mi := ((⟨"jdk/internal/util/Preconditions", "checkIndex", "(IILjava/util/function/BiFunction;)I"⟩ : MethodName), jdk_41_method_11_code, 3, (Option.some FieldType.int), ({ frames := 0, cells := 0, slots := 0, locals := 0 } : Room))
theorem pn_pci : plainFor (own_Mi.y M_pci) = true := plainFor_of_name (by first | (simp [plainName, overriddenIn]; done) | decide +kernel)
set_option maxRecDepth 65536 in
set_option maxHeartbeats 40000000 in
theorem c_pci (K : own_Cx) (a0 : Array Value) (hw : ∀ d ∈ tables_1, d.before a0 K.Z = true) (rf : Value) (hrf : rf.isRef = true) (i n : Int32) (h : Heap) (h0 : 0 ≤ i.toInt) (h1 : i.toInt < n.toInt) :
    own_Met K M_pci #[.int i, .int n, rf] [] h (own_ret fun w h' _ => w = .int i ∧ h' = h) := by
  have z0 : (0 : Int32).toInt = 0 := rfl
  rcases ref_cases hrf with rfl | ⟨r, rfl⟩
  all_goals
    refine own_met_3_0 (M := M_pci) pn_pci rfl (by first | rfl | exact own_cat (by assumption)) (by first | rfl | exact own_cat (by assumption)) (by first | rfl | exact own_cat (by assumption)) ?_
    refine own_iload_n (pc' := 1) rfl d_pci_0 rfl ?_
    refine own_iflt (pcT := 9) (pcF := 4) d_pci_1 (by decide) (by decide) rfl (fun q => ?_) (fun q => ?_)
    · rw [Int32.lt_iff_toInt_lt] at q; omega
    · skip
      refine own_iload_n (pc' := 5) rfl d_pci_4 rfl ?_
      refine own_iload_n (pc' := 6) rfl d_pci_5 rfl ?_
      refine own_icmplt (pcT := 16) (pcF := 9) d_pci_6 (by decide) (by decide) rfl (fun q2 => ?_) (fun q2 => ?_)
      · skip
        refine own_iload_n (pc' := 17) rfl d_pci_16 rfl ?_
        refine own_ireturn rfl d_pci_17 rfl rfl ?_
        exact ⟨rfl, rfl⟩
      · rw [Int32.lt_iff_toInt_lt] at q2; omega
theorem d_ski_0 : decode jdk_42_method_155_code 0 = .ok (.iload_n 0, 1) := by decide +kernel
theorem d_ski_1 : decode jdk_42_method_155_code 1 = .ok (.iload_n 1, 1) := by decide +kernel
theorem d_ski_2 : decode jdk_42_method_155_code 2 = .ok (.getstatic 1053, 3) := by decide +kernel
theorem d_ski_5 : decode jdk_42_method_155_code 5 = .ok (.invokestatic 1059, 3) := by decide +kernel
theorem d_ski_8 : decode jdk_42_method_155_code 8 = .ok (.pop, 1) := by decide +kernel
theorem d_ski_9 : decode jdk_42_method_155_code 9 = .ok (.return_, 1) := by decide +kernel
abbrev M_ski : own_Mi := ((⟨"java/lang/String", "checkIndex", "(II)V"⟩ : MethodName), jdk_42_method_155_code, 2, (Option.none : Option FieldType), ({ frames := 1, cells := 0, slots := 0, locals := 14 } : Room))
theorem pn_ski : plainFor (own_Mi.y M_ski) = true := plainFor_of_name (by first | (simp [plainName, overriddenIn]; done) | decide +kernel)
set_option maxRecDepth 65536 in
set_option maxHeartbeats 40000000 in
theorem c_ski (K : own_Cx) (a0 : Array Value) (hw : ∀ d ∈ tables_1, d.before a0 K.Z = true) (rf : Value) (hrf : rf.isRef = true) (SF : Sta K.Z K.Z.heap "jdk/internal/util/Preconditions" "SIOOBE_FORMATTER" "Ljava/util/function/BiFunction;" rf) (i n : Int32) (h : Heap) (h0 : 0 ≤ i.toInt) (h1 : i.toInt < n.toInt) :
    own_Met K M_ski #[.int i, .int n] [] h (own_void fun h' _ => h' = h) := by
  refine own_met_2_0 (M := M_ski) pn_ski rfl (by first | rfl | exact own_cat (by assumption)) (by first | rfl | exact own_cat (by assumption)) ?_
  refine own_iload_n (pc' := 1) rfl d_ski_0 rfl ?_
  refine own_iload_n (pc' := 2) rfl d_ski_1 rfl ?_
  refine own_getS (pc' := 5) rfl d_ski_2 (tw_88 hw) Via.refl (by assumption) ?_
  refine own_static3v (M' := M_pci) d_ski_5 (pc' := 8) rfl (tw_134 hw) (tw_135 hw) (tw_66 hw) (tw_136 hw) (by decide) rfl (own_lenOf pd_9 rfl) rfl rfl rfl rfl (c_pci K a0 hw rf hrf i n h h0 h1) (by simp) ?_
  rintro w h2 xs ⟨rfl, rfl⟩
  refine own_pop (pc' := 9) rfl d_ski_8 (by first | rfl | assumption) ?_
  refine own_return rfl d_ski_9 rfl rfl ?_
  rfl
theorem d_lca_0 : decode jdk_43_method_2_code 0 = .ok (.iload_n 1, 1) := by decide +kernel
theorem d_lca_1 : decode jdk_43_method_2_code 1 = .ok (.aload_n 0, 1) := by decide +kernel
theorem d_lca_2 : decode jdk_43_method_2_code 2 = .ok (.arraylength, 1) := by decide +kernel
theorem d_lca_3 : decode jdk_43_method_2_code 3 = .ok (.invokestatic 9, 3) := by decide +kernel
theorem d_lca_6 : decode jdk_43_method_2_code 6 = .ok (.aload_n 0, 1) := by decide +kernel
theorem d_lca_7 : decode jdk_43_method_2_code 7 = .ok (.iload_n 1, 1) := by decide +kernel
theorem d_lca_8 : decode jdk_43_method_2_code 8 = .ok (.baload, 1) := by decide +kernel
theorem d_lca_9 : decode jdk_43_method_2_code 9 = .ok (.sipush 255, 3) := by decide +kernel
theorem d_lca_12 : decode jdk_43_method_2_code 12 = .ok (.iand, 1) := by decide +kernel
theorem d_lca_13 : decode jdk_43_method_2_code 13 = .ok (.i2c, 1) := by decide +kernel
theorem d_lca_14 : decode jdk_43_method_2_code 14 = .ok (.ireturn, 1) := by decide +kernel
abbrev M_lca : own_Mi := ((⟨"java/lang/StringLatin1", "charAt", "([BI)C"⟩ : MethodName), jdk_43_method_2_code, 2, (Option.some FieldType.char), ({ frames := 2, cells := 0, slots := 0, locals := 27 } : Room))
theorem pn_lca : plainFor (own_Mi.y M_lca) = true := plainFor_of_name (by first | (simp [plainName, overriddenIn]; done) | decide +kernel)
set_option maxRecDepth 65536 in
set_option maxHeartbeats 40000000 in
theorem c_lca (K : own_Cx) (a0 : Array Value) (hw : ∀ d ∈ tables_1, d.before a0 K.Z = true) (rf : Value) (hrf : rf.isRef = true) (SF : Sta K.Z K.Z.heap "jdk/internal/util/Preconditions" "SIOOBE_FORMATTER" "Ljava/util/function/BiFunction;" rf) (b : Addr) (cs : List Int32) (j : Int32) (i : Nat) (c : Int32) (h : Heap) (hcs : own_Chs cs) (hl : cs.length < 2 ^ 30) (ql : own_lat cs = true) (B : own_Ary K.Z h b .byte (own_ints (cs.map own_bt))) (hj : j.toInt = i) (hc : cs[i]? = some c) :
    own_Met K M_lca #[.ref b, .int j] [] h (own_ret fun w h' _ => w = .int c ∧ h' = h) := by
  have hi := (List.getElem?_eq_some_iff.mp hc).1
  have hn : (cs.length.toInt32).toInt = cs.length := own_lit _ (by omega)
  have hcr := hcs c (List.mem_of_getElem? hc)
  have hc2 := own_lat_get ql hc
  refine own_met_2_0 (M := M_lca) pn_lca rfl (by first | rfl | exact own_cat (by assumption)) (by first | rfl | exact own_cat (by assumption)) ?_
  refine own_iload_n (pc' := 1) rfl d_lca_0 rfl ?_
  refine own_aload_n (pc' := 2) rfl d_lca_1 rfl (by first | rfl | assumption) ?_
  refine own_arrlen (z := cs.length.toInt32) (pc' := 3) rfl d_lca_2 B (by rw [hn]; simp) ?_
  refine own_static2n (M' := M_ski) d_lca_3 (pc' := 6) rfl (tw_131 hw) (tw_132 hw) (tw_3 hw) (tw_133 hw) (by decide) rfl (own_lenOf pd_10 rfl) rfl rfl rfl rfl (c_ski K a0 hw rf hrf SF j _ h (by omega) (by omega)) (by simp) ?_
  rintro h1 xs rfl
  refine own_aload_n (pc' := 7) rfl d_lca_6 rfl (by first | rfl | assumption) ?_
  refine own_iload_n (pc' := 8) rfl d_lca_7 rfl ?_
  refine own_baload (pc' := 9) rfl d_lca_8 B (i := i) hj (by first | exact own_ints_get hc | exact own_ints_getM hc) ?_
  refine own_sipush (v := (255 : Int32)) (pc' := 12) rfl d_lca_9 rfl ?_
  refine own_iand (pc' := 13) rfl d_lca_12 ?_
  refine own_i2c (pc' := 14) rfl d_lca_13 ?_
  rw [own_lat_byte hcr.1 hc2, own_i2c_id hcr.1 hcr.2]
  refine own_ireturnN (t := .char) rfl (by simp) (own_i2c_id hcr.1 hcr.2) d_lca_14 rfl rfl ?_
  exact ⟨rfl, rfl⟩
theorem d_uci_0 : decode jdk_52_method_91_code 0 = .ok (.iload_n 0, 1) := by decide +kernel
theorem d_uci_1 : decode jdk_52_method_91_code 1 = .ok (.aload_n 1, 1) := by decide +kernel
theorem d_uci_2 : decode jdk_52_method_91_code 2 = .ok (.invokestatic 48, 3) := by decide +kernel
theorem d_uci_5 : decode jdk_52_method_91_code 5 = .ok (.invokestatic 414, 3) := by decide +kernel
theorem d_uci_8 : decode jdk_52_method_91_code 8 = .ok (.return_, 1) := by decide +kernel
abbrev M_uci : own_Mi := ((⟨"java/lang/StringUTF16", "checkIndex", "(I[B)V"⟩ : MethodName), jdk_52_method_91_code, 2, (Option.none : Option FieldType), ({ frames := 2, cells := 0, slots := 0, locals := 27 } : Room))
theorem pn_uci : plainFor (own_Mi.y M_uci) = true := plainFor_of_name (by first | (simp [plainName, overriddenIn]; done) | decide +kernel)
set_option maxRecDepth 65536 in
set_option maxHeartbeats 40000000 in
theorem c_uci (K : own_Cx) (a0 : Array Value) (hw : ∀ d ∈ tables_1, d.before a0 K.Z = true) (rf : Value) (hrf : rf.isRef = true) (SF : Sta K.Z K.Z.heap "jdk/internal/util/Preconditions" "SIOOBE_FORMATTER" "Ljava/util/function/BiFunction;" rf) (b : Addr) (cs : List Int32) (j : Int32) (i : Nat) (h : Heap) (hl : cs.length < 2 ^ 30) (B : own_Ary K.Z h b .byte (own_ints (own_two cs))) (hj : j.toInt = i) (hi : i < cs.length) :
    own_Met K M_uci #[.int j, .ref b] [] h (own_void fun h' _ => h' = h) := by
  have hn : (cs.length.toInt32).toInt = cs.length := own_lit _ (by omega)
  refine own_met_2_0 (M := M_uci) pn_uci rfl (by first | rfl | exact own_cat (by assumption)) (by first | rfl | exact own_cat (by assumption)) ?_
  refine own_iload_n (pc' := 1) rfl d_uci_0 rfl ?_
  refine own_aload_n (pc' := 2) rfl d_uci_1 rfl (by first | rfl | assumption) ?_
  refine own_static1v (M' := M_ul) d_uci_2 (pc' := 5) rfl (tw_169 hw) (tw_170 hw) (tw_17 hw) (tw_171 hw) (by decide) rfl (own_lenOf pd_11 rfl) rfl rfl rfl rfl (c_ul K a0 hw b cs h hl B) (by simp) ?_
  rintro w h1 xs ⟨rfl, rfl⟩
  refine own_static2n (M' := M_ski) d_uci_5 (pc' := 8) rfl (tw_188 hw) (tw_132 hw) (tw_3 hw) (tw_133 hw) (by decide) rfl (own_lenOf pd_10 rfl) rfl rfl rfl rfl (c_ski K a0 hw rf hrf SF j _ h1 (by omega) (by omega)) (by simp) ?_
  rintro h2 xs2 rfl
  refine own_return rfl d_uci_8 rfl rfl ?_
  rfl
theorem d_uca_0 : decode jdk_52_method_83_code 0 = .ok (.iload_n 1, 1) := by decide +kernel
theorem d_uca_1 : decode jdk_52_method_83_code 1 = .ok (.aload_n 0, 1) := by decide +kernel
theorem d_uca_2 : decode jdk_52_method_83_code 2 = .ok (.invokestatic 67, 3) := by decide +kernel
theorem d_uca_5 : decode jdk_52_method_83_code 5 = .ok (.aload_n 0, 1) := by decide +kernel
theorem d_uca_6 : decode jdk_52_method_83_code 6 = .ok (.iload_n 1, 1) := by decide +kernel
theorem d_uca_7 : decode jdk_52_method_83_code 7 = .ok (.invokestatic 71, 3) := by decide +kernel
theorem d_uca_10 : decode jdk_52_method_83_code 10 = .ok (.ireturn, 1) := by decide +kernel
abbrev M_uca : own_Mi := ((⟨"java/lang/StringUTF16", "charAt", "([BI)C"⟩ : MethodName), jdk_52_method_83_code, 2, (Option.some FieldType.char), ({ frames := 3, cells := 0, slots := 0, locals := 40 } : Room))
theorem pn_uca : plainFor (own_Mi.y M_uca) = true := plainFor_of_name (by first | (simp [plainName, overriddenIn]; done) | decide +kernel)
set_option maxRecDepth 65536 in
set_option maxHeartbeats 40000000 in
theorem c_uca (K : own_Cx) (a0 : Array Value) (hw : ∀ d ∈ tables_1, d.before a0 K.Z = true) (hU : own_U16 K) (rf : Value) (hrf : rf.isRef = true) (SF : Sta K.Z K.Z.heap "jdk/internal/util/Preconditions" "SIOOBE_FORMATTER" "Ljava/util/function/BiFunction;" rf) (b : Addr) (cs : List Int32) (j : Int32) (i : Nat) (c : Int32) (h : Heap) (hcs : own_Chs cs) (hl : cs.length < 2 ^ 29) (B : own_Ary K.Z h b .byte (own_ints (own_two cs))) (hj : j.toInt = i) (hc : cs[i]? = some c) :
    own_Met K M_uca #[.ref b, .int j] [] h (own_ret fun w h' _ => w = .int c ∧ h' = h) := by
  have hi := (List.getElem?_eq_some_iff.mp hc).1
  have hcr := hcs c (List.mem_of_getElem? hc)
  refine own_met_2_0 (M := M_uca) pn_uca rfl (by first | rfl | exact own_cat (by assumption)) (by first | rfl | exact own_cat (by assumption)) ?_
  refine own_iload_n (pc' := 1) rfl d_uca_0 rfl ?_
  refine own_aload_n (pc' := 2) rfl d_uca_1 rfl (by first | rfl | assumption) ?_
  refine own_static2n (M' := M_uci) d_uca_2 (pc' := 5) rfl (tw_185 hw) (tw_186 hw) (tw_17 hw) (tw_187 hw) (by decide) rfl (own_lenOf pd_12 rfl) rfl rfl rfl rfl (c_uci K a0 hw rf hrf SF b cs j i h (by omega) B hj hi) (by simp) ?_
  rintro h1 xs rfl
  refine own_aload_n (pc' := 6) rfl d_uca_5 rfl (by first | rfl | assumption) ?_
  refine own_iload_n (pc' := 7) rfl d_uca_6 rfl ?_
  refine own_static2v (M' := M_gc) d_uca_7 (pc' := 10) rfl (tw_153 hw) (tw_154 hw) (tw_17 hw) (tw_155 hw) (by decide) rfl (own_lenOf pd_5 rfl) rfl rfl rfl rfl (c_gc K a0 hw hU b j i c cs h1 hj hc (by omega) hcs B) (by simp) ?_
  rintro w h2 xs2 ⟨rfl, rfl⟩
  refine own_ireturnN (t := .char) rfl (by simp) (own_i2c_id hcr.1 hcr.2) d_uca_10 rfl rfl ?_
  exact ⟨rfl, rfl⟩
theorem d_sca_0 : decode jdk_42_method_56_code 0 = .ok (.aload_n 0, 1) := by decide +kernel
theorem d_sca_1 : decode jdk_42_method_56_code 1 = .ok (.invokevirtual 492, 3) := by decide +kernel
theorem d_sca_4 : decode jdk_42_method_56_code 4 = .ok (.ifCond .eq 12, 3) := by decide +kernel
theorem d_sca_7 : decode jdk_42_method_56_code 7 = .ok (.aload_n 0, 1) := by decide +kernel
theorem d_sca_8 : decode jdk_42_method_56_code 8 = .ok (.getfield 9, 3) := by decide +kernel
theorem d_sca_11 : decode jdk_42_method_56_code 11 = .ok (.iload_n 1, 1) := by decide +kernel
theorem d_sca_12 : decode jdk_42_method_56_code 12 = .ok (.invokestatic 495, 3) := by decide +kernel
theorem d_sca_15 : decode jdk_42_method_56_code 15 = .ok (.ireturn, 1) := by decide +kernel
theorem d_sca_16 : decode jdk_42_method_56_code 16 = .ok (.aload_n 0, 1) := by decide +kernel
theorem d_sca_17 : decode jdk_42_method_56_code 17 = .ok (.getfield 9, 3) := by decide +kernel
theorem d_sca_20 : decode jdk_42_method_56_code 20 = .ok (.iload_n 1, 1) := by decide +kernel
theorem d_sca_21 : decode jdk_42_method_56_code 21 = .ok (.invokestatic 498, 3) := by decide +kernel
theorem d_sca_24 : decode jdk_42_method_56_code 24 = .ok (.ireturn, 1) := by decide +kernel
abbrev M_sca : own_Mi := ((⟨"java/lang/String", "charAt", "(I)C"⟩ : MethodName), jdk_42_method_56_code, 2, (Option.some FieldType.char), ({ frames := 4, cells := 0, slots := 0, locals := 53 } : Room))
theorem pn_sca : plainFor (own_Mi.y M_sca) = true := plainFor_of_name (by first | (simp [plainName, overriddenIn]; done) | decide +kernel)
set_option maxRecDepth 65536 in
set_option maxHeartbeats 40000000 in
theorem c_sca (K : own_Cx) (a0 : Array Value) (hw : ∀ d ∈ tables_1, d.before a0 K.Z = true)
    (hU : own_U16 K)
    (g : Int32) (SC : Sta K.Z K.Z.heap own_sC "COMPACT_STRINGS" "Z" (.int g)) (hg : ¬ g = 0) (rf : Value) (hrf : rf.isRef = true) (SF : Sta K.Z K.Z.heap "jdk/internal/util/Preconditions" "SIOOBE_FORMATTER" "Ljava/util/function/BiFunction;" rf) (x : Addr) (cs : List Int32) (j : Int32) (i : Nat) (c : Int32) (h : Heap) (S : own_Str K.Z h x cs) (hl2 : cs.length < 2 ^ 29) (hj : j.toInt = i) (hc : cs[i]? = some c)
    : own_Met K M_sca #[.ref x, .int j] [] h (own_ret fun w h' _ => w = .int c ∧ h' = h) := by
  have S' := S
  obtain ⟨E, hcs, hl, b, FV, FC, B⟩ := S'
  have hcr := hcs c (List.mem_of_getElem? hc)
  refine own_met_2_0 (M := M_sca) pn_sca rfl (by first | rfl | exact own_cat (by assumption)) (by first | rfl | exact own_cat (by assumption)) ?_
  refine own_aload_n (pc' := 1) rfl d_sca_0 rfl (by first | rfl | assumption) ?_
  refine own_virtual0v (M' := M_isl) d_sca_1 (pc' := 4) rfl (tw_90 hw) (tw_91 hw) (tw_93 hw) (tw_92 hw) (tw_3 hw) (tw_94 hw) (by decide) rfl (own_lenOf pd_13 rfl) rfl rfl rfl rfl E (c_isl K a0 hw g SC hg x cs h S) (by simp) ?_
  rintro w h1 xs ⟨rfl, rfl⟩
  cases ql : own_lat cs
  · skip
    refine own_ifeq (pcT := 16) (pcF := 7) d_sca_4 (by decide) (by decide) rfl (fun q => ?_) (fun q => ?_)
    · skip
      refine own_aload_n (pc' := 17) rfl d_sca_16 rfl (by first | rfl | assumption) ?_
      refine own_getF (pc' := 20) rfl d_sca_17 (tw_28 hw) Via.refl (by assumption) ?_
      refine own_iload_n (pc' := 21) rfl d_sca_20 rfl ?_
      refine own_static2v (M' := M_uca) d_sca_21 (pc' := 24) rfl (tw_182 hw) (tw_183 hw) (tw_17 hw) (tw_184 hw) (by decide) rfl (own_lenOf pd_5 rfl) rfl rfl rfl rfl (c_uca K a0 hw hU rf hrf SF b cs j i c h1 hcs hl2 (by rw [(own_enc_utf ql).1] at B; exact B) hj hc) (by simp) ?_
      rintro w h2 xs2 ⟨rfl, rfl⟩
      refine own_ireturnN (t := .char) rfl (by simp) (own_i2c_id hcr.1 hcr.2) d_sca_24 rfl rfl ?_
      exact ⟨rfl, rfl⟩
    · exact absurd rfl q
  · skip
    refine own_ifeq (pcT := 16) (pcF := 7) d_sca_4 (by decide) (by decide) rfl (fun q => ?_) (fun q => ?_)
    · exact absurd q (by decide)
    · skip
      refine own_aload_n (pc' := 8) rfl d_sca_7 rfl (by first | rfl | assumption) ?_
      refine own_getF (pc' := 11) rfl d_sca_8 (tw_28 hw) Via.refl (by assumption) ?_
      refine own_iload_n (pc' := 12) rfl d_sca_11 rfl ?_
      refine own_static2v (M' := M_lca) d_sca_12 (pc' := 15) rfl (tw_128 hw) (tw_129 hw) (tw_97 hw) (tw_130 hw) (by decide) rfl (own_lenOf pd_5 rfl) rfl rfl rfl rfl (c_lca K a0 hw rf hrf SF b cs j i c h1 hcs hl ql (by rw [(own_enc_lat ql).1] at B; exact B) hj hc) (by simp) ?_
      rintro w h2 xs2 ⟨rfl, rfl⟩
      refine own_ireturnN (t := .char) rfl (by simp) (own_i2c_id hcr.1 hcr.2) d_sca_15 rfl rfl ?_
      exact ⟨rfl, rfl⟩
theorem own_atoms {a0 : Array Value} {Z : State} (hw : ∀ d ∈ tables_1, d.before a0 Z = true) : ∀ a ∈ Bundle.stringAtoms, a.before a0 Z = true := by
  intro a ha
  simp only [Bundle.stringAtoms, List.mem_cons, List.not_mem_nil, or_false] at ha
  rcases ha with rfl | rfl | rfl | rfl | rfl | rfl | rfl
  · exact (tw_3 hw)
  · exact (tw_2 hw)
  · exact (tw_19 hw)
  · exact (tw_29 hw)
  · exact (tw_27 hw)
  · exact (tw_190 hw)
  · exact (tw_191 hw)
theorem own_ofArv {Z : State} {h : Heap} {b : Addr} {k : ClassId} {ty : FieldType} {z : Int32} {vs : List Value} {d : Value} (A : Arv Z h b k ty z vs d) (hl : z.toNatClampNeg = vs.length) : own_Ary Z h b ty vs := by
  obtain ⟨c, h1, -, h3, h4, h5, -⟩ := A
  refine ⟨c, h1, ?_, by rw [← hl]; exact (back32 h4).2⟩
  apply Array.ext
  · simp [h3, hl]
  · intro i hi1 hi2
    have := h5 i hi1
    have hi3 : i < vs.length := by simpa using hi2
    simp [hi1, hi3] at this
    simpa using this
/-- what a constant's text spells -/
def own_us (text : String) : List Int32 := text.toList.map fun c => c.toNat.toInt32
theorem own_ldcS {K : own_Cx} {M : own_Mi} {Q : own_Q} {pc pc' : Nat} {Ls : List Slot} {St : List Value} {sf : List Addr} {h : Heap} {cs sl : Nat} {a0 : Array Value} {index n : Nat} {text : String}
    (hnw : K.nw = false) (hp : pc + 2 = pc') (hd : decode M.b pc = .ok (.ldc index, 2)) (w : (Jvm.Cond.stringLink M.y.cls index text).before a0 K.Z = true) (wS : ∀ a ∈ Bundle.stringAtoms, a.before a0 K.Z = true) (hEL : EW K.Z a0 K.E) (hmem : (M.y.cls, index) ∈ K.E)
    (ht : (∀ c ∈ text.toList, c.toNat < 256) ∧ text.toList.map (fun c => Value.int (Jvm.Lit.byteI c.toNat.toUInt16)) = own_ints (own_enc (own_us text))) (hlat : own_lat (own_us text) = true) (hcs : own_Chs (own_us text)) (hz : ¬ ((own_us text).length.toInt32) < 0) (hl : ((own_us text).length.toInt32).toNatClampNeg = (own_ints (own_enc (own_us text))).length) (hlen : (own_us text).length < 2 ^ 30)
    (hn : Nat.ble (4 * text.toList.length) n = true) (hbig : Nat.ble n 536870912 = true) (hc : Nat.ble (cs + 2) M.R.cells = true) (hs : Nat.ble (sl + (n + 4)) M.R.slots = true)
    (k : ∀ (a : Addr) (h' : Heap), Ext h h' → own_Str K.Z h' a (own_us text) → own_WP K M Q pc' Ls (.ref a :: St) sf h' (cs + 2) (sl + (n + 4))) : own_WP K M Q pc Ls St sf h cs sl := by
  subst hp
  intro p e s vm0 k0 m args below meth c T locs cs' sl' B X hc' hs' eT N I
  obtain ⟨i1, i2, i3, i4, i5, i6⟩ := I
  obtain ⟨b1, b2, b3, b4, b5, b6, b7, b8, b9⟩ := B
  have q3 := Nat.le_of_ble_eq_true hc
  have q4 := Nat.le_of_ble_eq_true hs
  obtain ⟨a, T', h', k1, b, kk, X', e', E, S', hk', Z', O', A1, A2, A3, A4, -, -, C, -, -, st⟩ := ldcCH X b1 b8 b4 w wS eT i1 i2 hEL hmem i4.1 ht hz hl (g := mkF m pc Ls.toArray St) rfl (hb b2 hd) (Nat.le_of_ble_eq_true hn) (Nat.le_of_ble_eq_true hbig) (by omega) (by omega)
  obtain ⟨s₂, o, h1, r⟩ := k a h' E ⟨A1, hcs, hlen, b, A3, by rw [(own_enc_lat hlat).2]; exact A2, own_ofArv A4 hl⟩ p e s T'.vm k1 m args below meth c T' locs _ _ ⟨b1, b2, b3, O', b5, b6, b7, Z', b9⟩ X' (by omega) (by omega) e' N
    ⟨S', hk', (fun q => by rw [hnw] at q; cases q), i4.trans C, fun x hx => ⟨(i5 x hx).1, Nat.lt_of_lt_of_le (i5 x hx).2.1 C.2.1, C.safe (i5 x hx).2.1 (i5 x hx).2.2⟩, own_ext_trans i6 E⟩
  exact ⟨s₂, o, st _ h1, r⟩
/-! ldc_w of the empty text (behind ldc.wp: own_atoms) -/
theorem own_strRead {Z : State} {vm : Vm} {h : Heap} {a : Addr} {units : Array UInt16} (hal : Z.vm.Alike vm) (hu : units.toList = []) (F : SlOf (Wst Z vm h) a units) : own_Str Z h a [] := by
  have F' : SlOf ({ Z with heap := h } : State) a units := F.moved (W := ({ Z with heap := h } : State)) hal.symm (fun _ _ q => q)
  obtain ⟨L⟩ := units
  have hL : L = [] := hu
  subst hL
  obtain ⟨q, cS, rfl, ⟨⟨s1, s2, s3, ⟨cv, kv, iv, s4, s4'⟩, ⟨cc, kc, ic, s5, s5'⟩, s6, s7, s8, s9, s10, s11, s12, -⟩, hfS, hcS⟩, ⟨kS, k1, -, k3⟩, -, hby⟩ := F'
  have e0 : stringBytes (⟨[]⟩ : Array UInt16) = #[] := by simp [stringBytes]
  have ec : q.2.1.cls = cS := hcS
  exact ⟨⟨q.2.1, kS, s1, by rw [ec]; exact hfS, by rw [ec]; exact k1, s3, fun _ => k3⟩, (fun c hc => nomatch hc), by decide, q.2.2.2.2.1, ⟨q.2.1, cv, kv, iv, q.2.2.1, s1, s4, s6, s2, s3, s4', s8⟩, ⟨q.2.1, cc, kc, ic, q.2.2.2.1, s1, s5, s7, s2, s3, s5', s9⟩, ⟨q.2.2.2.2.2.1, ⟨s10, s11, s12⟩, by rw [hby, e0]; rfl, by decide⟩⟩
set_option maxHeartbeats 4000000 in
theorem own_ldcW {K : own_Cx} {M : own_Mi} {Q : own_Q} {pc pc' : Nat} {Ls : List Slot} {St : List Value} {sf : List Addr} {h : Heap} {cs sl : Nat} {a0 : Array Value} {index : Nat}
    (hnw : K.nw = false) (hp : pc + 3 = pc') (hd : decode M.b pc = .ok (.ldc_w index, 3)) (w : (Jvm.Cond.stringLink M.y.cls index "").before a0 K.Z = true) (wS : ∀ a ∈ Bundle.stringAtoms, a.before a0 K.Z = true) (hEL : EW K.Z a0 K.E) (hmem : (M.y.cls, index) ∈ K.E)
    (hc : Nat.ble (cs + 2) M.R.cells = true) (hs : Nat.ble (sl + 4) M.R.slots = true)
    (k : ∀ (a : Addr) (h' : Heap), Ext h h' → own_Str K.Z h' a [] → own_WP K M Q pc' Ls (.ref a :: St) sf h' (cs + 2) (sl + 4)) : own_WP K M Q pc Ls St sf h cs sl := by
  subst hp
  intro p e s vm0 k0 m args below meth c T locs cs' sl' B X hc' hs' eT N I
  obtain ⟨i1, i2, i3, i4, i5, i6⟩ := I
  obtain ⟨b1, b2, b3, b4, b5, b6, b7, b8, b9⟩ := B
  subst eT
  have q3 := Nat.le_of_ble_eq_true hc
  have q4 := Nat.le_of_ble_eq_true hs
  have hd0 := hb b2 hd
  obtain ⟨g, hg⟩ : ∃ g : JFrame, g = mkF m pc Ls.toArray St := ⟨_, rfl⟩
  have hgm : m = g.method := by rw [hg]
  subst hgm
  have hdg : decode c.code g.pc = .ok (.ldc_w index, 3) := by rw [hg]; exact hd0
  show own_Fin K M.R Q p e below s (T.setTop (mkF g.method pc Ls.toArray St))
  rw [← hg]
  -- the words at T
  have hZT : K.Z.Warmed39 T.vm := wtrans (s := s.setVm vm0) b8 X.warmed
  have A := CHv.at X b8 hEL i4.1
  have hfT : T.vm.findClass M.y.cls = some g.method.cls := by rw [X.warmed.alike.findClass]; exact b4
  have hST : ∀ d ∈ Bundle.stringAtoms, d.before a0 T = true := by
    intro d hd'
    have q := wS d hd'
    simp only [Bundle.stringAtoms, List.mem_cons, List.not_mem_nil, or_false] at hd'
    rcases hd' with rfl | rfl | rfl | rfl | rfl | rfl | rfl
    · exact mv (s := T) hZT q
    · exact mv (s := T) hZT q
    · exact mvA (s := T) hZT q
    · exact mv (s := T) hZT q
    · exact mv (s := T) hZT q
    · exact mv (s := T) hZT q
    · exact mv (s := T) hZT q
  have wT : (Jvm.Cond.stringLink M.y.cls index "").before a0 (K.Z.setVm T.vm) = true := mvS hZT w
  obtain ⟨kk, cf, i, units, hk, hcf, hpool, hu, hnm, htext, hres⟩ := Cond.stringLink_spec (s := K.Z.setVm T.vm) hfT wT
  have hk : T.vm.classes[g.method.cls]? = some kk := hk
  have h0 : ∀ c ∈ "".toList, c.toNat < 256 := by decide +kernel
  have hun : units.toList = [] := by rw [Jvm.ClassFile.units_of_text htext h0]; decide +kernel
  have hlat := Jvm.ClassFile.lat_of_text htext h0
  have hsz : (stringBytes units).size = 0 := by
    have q1 := text_bytes_le htext
    have q2 : 4 * "".toList.length = 0 := by decide +kernel
    omega
  -- what is left to do, whichever way the constant is had
  have go : ∀ (a : Addr) (T' : State), Stand p K.l e M.R (s.setVm T'.vm) g.method args below meth c T' locs (cs' + 2) (sl' + 4) → T.Warmed39 T'.vm → Ext T.heap T'.heap → T.Interned1 T' → (CHv K.Z K.E T'.vm T'.heap ∧ ∀ y, Bk K.Z K.E T'.vm T'.heap y → Bk K.Z K.E T.vm T.heap y ∨ T.heap.size ≤ y) → (∃ k2, T'.vm.classes[g.method.cls]? = some k2 ∧ k2.resolved[index]? = some (some (.string a))) → (∀ t, Steps p.tables e below (T'.setTop { g with pc := g.pc + 3, stack := .ref a :: g.stack }) t → Steps p.tables e below (T.setTop g) t) → own_Fin K M.R Q p e below s (T.setTop g) := by
    intro a T' X' hTW E hone C1 hr0 st
    obtain ⟨k2, hk2, hr2⟩ := hr0
    have hZ' : K.Z.Warmed39 T'.vm := State.Warmed39.trans (t := T) hZT hTW
    have hsW : (s.setVm vm0).Warmed39 T'.vm := State.Warmed39.trans (t := T) X.warmed.wide hTW
    have C : CHr K.Z K.E vm0 T.heap T'.vm T'.heap := A.trans ⟨C1.1, E.1, C1.2⟩
    have S' : s.Since T'.vm T'.heap.size := i1.trans ⟨hsW, State.Booked.step (X.warmed.no_new_pair _) X.same.2.1 hone⟩ (Nat.le_trans i2 E.1)
    obtain ⟨k3, hk3, he3⟩ := hTW.alike.2.2 _ _ hk
    have e3 : k3 = k2 := Option.some.inj (hk3.symm.trans hk2)
    have hf' : T'.vm.findClass M.y.cls = some g.method.cls := by rw [hTW.alike.findClass]; exact hfT
    have hB : Booksv T'.vm M.y.cls index units a := ⟨g.method.cls, k2, cf, i, hf', hk2, by rw [← e3, he3]; exact hcf, hpool, hu, Or.inl hr2⟩
    have S0 : own_Str K.Z T'.heap a [] := own_strRead hZ'.alike hun (C.1 _ hmem units a hB)
    have eg : ({ g with pc := g.pc + 3, stack := .ref a :: g.stack } : JFrame) = mkF g.method (pc + 3) Ls.toArray (.ref a :: St) := Eq.trans (congrArg (fun f : JFrame => ({ f with pc := f.pc + 3, stack := .ref a :: f.stack } : JFrame)) hg) rfl
    rw [eg] at st
    obtain ⟨s₂, o, g1, r⟩ := k a T'.heap E S0 p e s T'.vm T'.heap.size g.method args below meth c T' locs _ _ ⟨b1, b2, b3, hf', b5, b6, b7, hZ', b9⟩ X' (by omega) (by omega) rfl N
      ⟨S', Nat.le_refl _, (fun q => by rw [hnw] at q; cases q), i4.trans C, fun x hx => ⟨(i5 x hx).1, Nat.lt_of_lt_of_le (i5 x hx).2.1 E.1, C.safe (i5 x hx).2.1 (i5 x hx).2.2⟩, own_ext_trans i6 E⟩
    exact ⟨s₂, o, st _ g1, r⟩
  have ws : ∀ {vm1 : Vm}, T.Warmed39 vm1 → (Wst K.Z T.vm T.heap).Warmed39 vm1 := fun q => q
  rcases hres with hopen | ⟨a, hr⟩
  rotate_left 1
  · -- it has been resolved
    refine go a T ((X.mono (by omega) (by omega)).retabled X.warmed.wide) (State.Warmed39.refl T) (own_ext_refl _) ⟨Nat.le_refl _, Or.inl rfl⟩ ⟨A.1, fun y q => Or.inl q⟩ ⟨kk, hk, hr⟩ (fun t ht => ?_)
    jvm_step X.here [b1, hdg, ldc_w.wp_string (e := e) (s := T) (f := g) X.here.top hk hcf hpool hr]
    exact ht
  have r2 : kk.cf.bind (namesOf? ·.constantPool index) = some (.string "") := by rw [hcf]; exact hnm
  have r3 : kk.cf.bind (·.constantPool[index]?) = some (.string i) := by rw [hcf]; exact hpool
  have r4 : kk.cf.bind (·.constantPool.utf8? i) = some units := by rw [hcf]; simp [ConstantPool.utf8?, hu]
  cases hf : T.vm.interned.find? (fun p => p.1 == units) with
  | some pr =>
    -- it is open, and its text has been interned
    obtain ⟨u', a⟩ := pr
    have hu' : u' = units := by simpa using Array.find?_some hf
    subst hu'
    have hTW : T.Warmed39 (T.vm.noted g.method.cls index (.string a)) := (State.Warmed39.refl T).notedString hk (Or.inl hopen) r2 r3 r4 hf
    refine go a (T.setVm (T.vm.noted g.method.cls index (.string a))) ((X.mono (by omega) (by omega)).retabled (State.Warmed39.trans (t := T) X.warmed.wide hTW)) hTW (own_ext_refl _) ⟨Nat.le_refl _, Or.inl rfl⟩ (CHv.later (vm := T.vm) hZT (ws hTW) hEL (own_ext_refl _) (Or.inl rfl) A.1) ⟨_, Vm.classes_note_self index (.string a) hk, Class.resolved_note_self (.string a) hopen⟩ (fun t ht => ?_)
    jvm_step X.here [b1, hdg, ldc_w.wp_string_found (e := e) (s := T) (f := g) X.here.top hk hcf hpool hu hopen hf]
    exact ht
  | none =>
    -- the String is made
    obtain ⟨Zs, LZ, hn4, hfv, hfc⟩ := StringT.of_atoms (args := a0) (s := T) hST
    have hpush : (T.vm.interned.push (units, T.heap.size + 1)).find? (fun p => p.1 == units) = some (units, T.heap.size + 1) := by
      rw [Array.find?_push, hf]; simp
    have hTW : T.Warmed39 (({ T.vm with interned := T.vm.interned.push (units, T.heap.size + 1) } : Vm).noted g.method.cls index (.string (T.heap.size + 1))) := ((State.Warmed39.refl T).interns units (T.heap.size + 1)).notedString hk (Or.inl hopen) r2 r3 r4 hpush
    obtain ⟨vmN, evm⟩ : ∃ v : Vm, v = ({ T.vm with interned := T.vm.interned.push (units, T.heap.size + 1) } : Vm).noted g.method.cls index (.string (T.heap.size + 1)) := ⟨_, rfl⟩
    have hint : vmN.interned = T.vm.interned.push (units, T.heap.size + 1) := by rw [evm]; rfl
    have hheap : (withString T Zs.cB Zs.cS Zs.kS Zs.fv Zs.fc units).heap = (T.heap.push (bytesOf Zs.cB units)).push (stringAt Zs.cS Zs.kS Zs.fv Zs.fc units T.heap.size) := by rw [withString_eq]; rfl
    have X2 := (X.pushed (bytesOf Zs.cB units)).pushed (stringAt Zs.cS Zs.kS Zs.fv Zs.fc units T.heap.size)
    rw [← withString_eq] at X2
    have z1 : (bytesOf Zs.cB units).slots.size = 0 := by rw [(Cell.writeAll_facts _ _).2.2]; simp [bytes0, hsz]
    have z2 : (stringAt Zs.cS Zs.kS Zs.fv Zs.fc units T.heap.size).slots.size = 4 := by simp [string0, Cell.setSlot, hn4]
    rw [← evm] at hTW
    have E : Ext T.heap (withString T Zs.cB Zs.cS Zs.kS Zs.fv Zs.fc units).heap := by
      rw [hheap]
      refine ⟨by simp; omega, fun y cl q => ?_⟩
      have hy := (Array.getElem?_eq_some_iff.mp q).1
      rw [Array.getElem?_push, if_neg (by rw [Array.size_push]; omega), Array.getElem?_push, if_neg (by omega)]
      exact q
    have hN : (withString T Zs.cB Zs.cS Zs.kS Zs.fv Zs.fc units).heap.size = T.heap.size + 2 := by rw [hheap]; simp
    have g1 : (withString T Zs.cB Zs.cS Zs.kS Zs.fv Zs.fc units).heap[T.heap.size]? = some (bytesOf Zs.cB units) := by
      rw [hheap, Array.getElem?_push, if_neg (by rw [Array.size_push]; omega), Array.getElem?_push, if_pos rfl]
    have g2 : (withString T Zs.cB Zs.cS Zs.kS Zs.fv Zs.fc units).heap[T.heap.size + 1]? = some (stringAt Zs.cS Zs.kS Zs.fv Zs.fc units T.heap.size) := by
      rw [hheap, Array.getElem?_push, if_pos (by rw [Array.size_push])]
    have SL : SlIn 0 T.heap.size ((withString T Zs.cB Zs.cS Zs.kS Zs.fv Zs.fc units).setVm vmN) (T.heap.size + 1) units := made_sl (W := (withString T Zs.cB Zs.cS Zs.kS Zs.fv Zs.fc units).setVm vmN) hST LZ hn4 rfl hTW.alike g1 g2 hlat (by rw [hsz]; decide) 0
    refine go (T.heap.size + 1) ((withString T Zs.cB Zs.cS Zs.kS Zs.fv Zs.fc units).setVm vmN) ((X2.mono (by omega) (by have := z1; have := z2; omega)).retabled (State.Warmed39.trans (t := T) X.warmed.wide hTW)) hTW E ⟨E.1, Or.inr ⟨units, T.heap.size + 1, hint, Nat.le_succ _, by show T.heap.size + 1 < (withString T Zs.cB Zs.cS Zs.kS Zs.fv Zs.fc units).heap.size; omega⟩⟩ (CHv.later (vm := T.vm) hZT (ws hTW) hEL E (Or.inr ⟨units, T.heap.size + 1, hint, hf, fun _ => ?_⟩) A.1) ⟨_, by rw [evm]; exact Vm.classes_note_self (vm := { T.vm with interned := T.vm.interned.push (units, T.heap.size + 1) }) index (.string (T.heap.size + 1)) hk, Class.resolved_note_self (.string (T.heap.size + 1)) hopen⟩ (fun t ht => ?_)
    · obtain ⟨q, cS, hq, y1, y2, y3, y4, y5⟩ := SL
      have F : SlB ((withString T Zs.cB Zs.cS Zs.kS Zs.fv Zs.fc units).setVm vmN) q units := ⟨cS, y1, y2, y3, y4⟩
      refine ⟨q, hq, F.carry (V := Wst K.Z vmN (withString T Zs.cB Zs.cS Zs.kS Zs.fv Zs.fc units).heap) (Vm.Alike.refl _) F.ha F.hd, ?_⟩
      rcases y5 with ⟨z, -⟩ | z
      · exact absurd z (Nat.not_lt_zero _)
      · exact z
    · refine Steps.instr (c := _) (by simpa using X.here) ?_
      simp [jvm, wpRun, exec, X.here.top, b1, hdg]
      refine ldc_w.wp_string_new (e := e) (s := T) (f := g) X.here.top hk hcf hpool hu hopen hf LZ.found LZ.cls LZ.initialized LZ.ordinary LZ.foundB LZ.clsB LZ.kindB LZ.value LZ.coder (by rw [hsz]; omega) (by rw [hsz]; simp) (X.cellsAbove (by omega)) ?_ (stringBytes_fit LZ.clsB LZ.kindB units) LZ.valueSlot LZ.coderSlot (hfv _) (hfc _) (fun d' acts' => ?_)
      · have q5 := X.slotsAbove (n := 4) (by omega)
        rw [hsz, hn4]
        exact q5
      · intro acts''
        rw [← evm]
        have w1 : (withString T Zs.cB Zs.cS Zs.kS Zs.fv Zs.fc units).topJava?.isSome := by simpa [withString] using X.here.top
        have w2 : ((withString T Zs.cB Zs.cS Zs.kS Zs.fv Zs.fc units).setVm vmN).topJava?.isSome := by simpa using w1
        simp [jvm, afterInstr, w1, w2]
        rw [State.modifyTopJava_setTop]
        exact ht
/-! System.arraycopy between arrays of one primitive type -/
theorem own_toArv {Z : State} {h : Heap} {b : Addr} {ty : FieldType} {vs : List Value} {d : Value} (F : own_Ary Z h b ty vs) (hf : ∀ v ∈ vs, fits ty v = true) : ∃ k : ClassId, Arv Z h b k ty vs.length.toInt32 vs d := by
  obtain ⟨c, A, r1, r2⟩ := F
  have e1 : (vs.length.toInt32).toInt = vs.length := own_len r2
  have e2 : (vs.length.toInt32).toNatClampNeg = vs.length := by
    have : (vs.length.toInt32).toNatClampNeg = (vs.length.toInt32).toInt.toNat := rfl
    rw [this, e1]; rfl
  refine ⟨c.cls, c, A, rfl, by rw [r1, e2]; simp, fun z => ?_, fun i hi => ?_, fun i hi => ?_⟩
  · rw [Int32.lt_iff_toInt_lt, e1] at z
    have : (0 : Int32).toInt = 0 := rfl
    omega
  · have hi' : i < vs.length := by rw [r1] at hi; simpa using hi
    rw [r1]; simp [hi']
  · have hi' : i < vs.length := by rw [r1] at hi; simpa using hi
    have : vs.getD i d = vs[i] := by simp [hi']
    rw [this]
    exact hf _ (List.getElem_mem hi')
theorem own_cut {vs : List Value} {d : Value} {S N : Nat} (q : S + N ≤ vs.length) : (List.range N).map (fun i => vs.getD (S + i) d) = (vs.drop S).take N := by
  apply List.ext_getElem
  · simp; omega
  · intro i h1 h2
    have : i < N := by simpa using h1
    simp [show S + i < vs.length by omega]
theorem own_acopy {K : own_Cx} {M : own_Mi} {Q : own_Q} {pc pc' : Nat} {Ls : List Slot} {rest : List Value} {sf : List Addr} {h : Heap} {cs sl : Nat} {a0 : Array Value} {index : Nat} {a b : Addr} {ty : FieldType} {vs vd : List Value} {sp dp nn : Int32} {S D N : Nat}
    (hp : pc + 3 = pc') (hd : decode M.b pc = .ok (.invokestatic index, 3)) (w1 : (Jvm.Cond.methodLink M.y.cls index Jvm.Stand.acN).before a0 K.Z = true) (w2 : (Jvm.Cond.native Jvm.Stand.acN).before a0 K.Z = true) (w3 : (Jvm.Cond.static Jvm.Stand.acN).before a0 K.Z = true) (w4 : (Jvm.Cond.initialized "java/lang/System").before a0 K.Z = true)
    (hsz : Ls.length = M.mx) (hf : Nat.ble 1 M.R.frames = true) (hl : Nat.ble ((rest.map fun v => v.category).sum + (nativeFrameWords "java/lang/System" "arraycopy" 5 + 11)) M.R.locals = true) (hty : refKind ty = false)
    (A : own_Ary K.Z h a ty vs) (B : own_Ary K.Z h b ty vd) (fa : ∀ v ∈ vs, fits ty v = true) (fb : ∀ v ∈ vd, fits ty v = true) (hS : sp.toInt = S) (hD : dp.toInt = D) (hN : nn.toInt = N) (h4 : S + N ≤ vs.length) (h5 : D + N ≤ vd.length) (hbs : b ∈ sf)
    (k : ∀ h', Keep h h' [b] → own_Ary K.Z h' b ty (vd.take D ++ (vs.drop S).take N ++ vd.drop (D + N)) → own_WP K M Q pc' Ls rest sf h' cs sl) : own_WP K M Q pc Ls (.int nn :: .int dp :: .ref b :: .int sp :: .ref a :: rest) sf h cs sl := by
  subst hp
  intro p e s vm0 k0 m args below meth c T locs cs' sl' Bd X hc' hs' eT Fn I
  obtain ⟨i1, i2, i3, i4, i5, i6⟩ := I
  obtain ⟨ka, Aa⟩ := own_toArv (d := .int 0) A fa
  obtain ⟨kb, Ab⟩ := own_toArv (d := .int 0) B fb
  have lv : vs.length < 2 ^ 31 := by obtain ⟨_, _, _, r⟩ := A; exact r
  have ld : vd.length < 2 ^ 31 := by obtain ⟨_, _, _, r⟩ := B; exact r
  have nat : ∀ {x : Int32} {n : Nat}, x.toInt = n → x.toNatClampNeg = n ∧ ¬ x < 0 := fun {x n} q => by
    refine ⟨?_, fun z => ?_⟩
    · have : x.toNatClampNeg = x.toInt.toNat := rfl
      rw [this, q]; rfl
    · rw [Int32.lt_iff_toInt_lt, q] at z
      have : (0 : Int32).toInt = 0 := rfl
      omega
  have z1 := nat hS
  have z2 := nat hD
  have z3 := nat hN
  have z4 := nat (own_len lv)
  have z5 := nat (own_len ld)
  have hn := (i5 b hbs).1
  obtain ⟨T', h', L, X', e', N', kp, A', st⟩ := cpA X Bd.1 Bd.2.2.2.2.2.2.2.1 Bd.2.2.2.1 w1 w2 w3 w4 eT Aa Ab (Or.inl ⟨rfl, hty⟩) z1.2 z2.2 z3.2 (by omega) (by omega) rfl (by omega) Fn hn (g := mkF m pc Ls.toArray (.int nn :: .int dp :: .ref b :: .int sp :: .ref a :: rest)) rfl (by rw [Bd.2.2.1, ← hsz]; simp) rfl (hb Bd.2.1 hd) (Nat.le_of_ble_eq_true hf) (W := (rest.map fun v => v.category).sum) (by show 2 * 0 + _ ≤ _; omega) (Nat.le_of_ble_eq_true hl)
  rw [z1.1, z2.1, z3.1, own_cut h4] at A'
  have sk : ∀ x ∈ [b], Safe K.Z K.E vm0 h x := fun x hx => by cases List.mem_singleton.mp hx; exact (i5 b hbs).2.2
  have A2 : own_Ary K.Z h' b ty (vd.take D ++ (vs.drop S).take N ++ vd.drop (D + N)) := by
    have hl2 : (vd.take D ++ (vs.drop S).take N ++ vd.drop (D + N)).length = vd.length := by simp; omega
    obtain ⟨c, g1, -, g3, g4, g5, -⟩ := A'
    refine ⟨c, g1, ?_, by rw [hl2]; exact ld⟩
    apply Array.ext
    · rw [g3, z5.1]; simp; omega
    · intro i hi1 hi2
      have := g5 i hi1
      have hi3 : i < (vd.take D ++ (vs.drop S).take N ++ vd.drop (D + N)).length := by rw [hl2]; rw [g3, z5.1] at hi1; exact hi1
      simp only [Array.getElem?_eq_getElem hi1, List.getD_eq_getElem?_getD, List.getElem?_eq_getElem hi3, Option.getD_some, Option.some.injEq] at this
      simpa using this
  obtain ⟨s₂, o, h1, r⟩ := k h' kp A2 p e s vm0 k0 m args below meth c T' L cs' sl' Bd X' hc' hs' e' N'
    ⟨i1, Nat.le_trans i2 kp.1, i3, i4.trans (CHr.keep kp sk i4.1), fun x hx => ⟨(i5 x hx).1, Nat.lt_of_lt_of_le (i5 x hx).2.1 kp.1, Safe.keep kp sk i4.1 (i5 x hx).2.2⟩, ⟨Nat.le_trans i6.1 kp.1, fun x cc q => kp.2.1 x cc (i6.2 x cc q) fun hm => by
      have h1 := (Array.getElem?_eq_some_iff.mp q).1
      cases List.mem_singleton.mp hm
      exact Nat.lt_irrefl _ (Nat.lt_of_lt_of_le h1 hn)⟩⟩
  exact ⟨s₂, o, st _ h1, r⟩
theorem d_mmx_0 : decode jdk_29_method_65_code 0 = .ok (.iload_n 0, 1) := by decide +kernel
theorem d_mmx_1 : decode jdk_29_method_65_code 1 = .ok (.iload_n 1, 1) := by decide +kernel
theorem d_mmx_2 : decode jdk_29_method_65_code 2 = .ok (.if_icmp .lt 7, 3) := by decide +kernel
theorem d_mmx_5 : decode jdk_29_method_65_code 5 = .ok (.iload_n 0, 1) := by decide +kernel
theorem d_mmx_6 : decode jdk_29_method_65_code 6 = .ok (.goto 4, 3) := by decide +kernel
theorem d_mmx_9 : decode jdk_29_method_65_code 9 = .ok (.iload_n 1, 1) := by decide +kernel
theorem d_mmx_10 : decode jdk_29_method_65_code 10 = .ok (.ireturn, 1) := by decide +kernel
abbrev M_mmx : own_Mi := ((⟨"java/lang/Math", "max", "(II)I"⟩ : MethodName), jdk_29_method_65_code, 2, (Option.some FieldType.int), ({ frames := 0, cells := 0, slots := 0, locals := 0 } : Room))
theorem pn_mmx : plainFor (own_Mi.y M_mmx) = true := Jvm.Free.JP.mathPlain rfl (by decide +kernel)
set_option maxRecDepth 65536 in
set_option maxHeartbeats 40000000 in
theorem c_mmx (K : own_Cx) (a0 : Array Value) (hw : ∀ d ∈ tables_1, d.before a0 K.Z = true) (x y : Int32) (h : Heap) :
    own_Met K M_mmx #[.int x, .int y] [] h (own_ret fun w h' _ => ∃ r : Int32, w = .int r ∧ ((x.toInt < y.toInt ∧ r = y) ∨ (y.toInt ≤ x.toInt ∧ r = x)) ∧ h' = h) := by
  refine own_met_2_0 (M := M_mmx) pn_mmx rfl (by first | rfl | exact own_cat (by assumption)) (by first | rfl | exact own_cat (by assumption)) ?_
  refine own_iload_n (pc' := 1) rfl d_mmx_0 rfl ?_
  refine own_iload_n (pc' := 2) rfl d_mmx_1 rfl ?_
  refine own_icmplt (pcT := 9) (pcF := 5) d_mmx_2 (by decide) (by decide) rfl (fun q => ?_) (fun q => ?_)
  · rw [Int32.lt_iff_toInt_lt] at q
    refine own_iload_n (pc' := 10) rfl d_mmx_9 rfl ?_
    refine own_ireturn rfl d_mmx_10 rfl rfl ?_
    exact ⟨y, rfl, Or.inl ⟨q, rfl⟩, rfl⟩
  · rw [Int32.lt_iff_toInt_lt] at q
    refine own_iload_n (pc' := 6) rfl d_mmx_5 rfl ?_
    refine own_goto (pc' := 10) d_mmx_6 (by decide) (by decide) ?_
    refine own_ireturn rfl d_mmx_10 rfl rfl ?_
    exact ⟨x, rfl, Or.inr ⟨by omega, rfl⟩, rfl⟩
theorem d_mmn_0 : decode jdk_29_method_69_code 0 = .ok (.iload_n 0, 1) := by decide +kernel
theorem d_mmn_1 : decode jdk_29_method_69_code 1 = .ok (.iload_n 1, 1) := by decide +kernel
theorem d_mmn_2 : decode jdk_29_method_69_code 2 = .ok (.if_icmp .gt 7, 3) := by decide +kernel
theorem d_mmn_5 : decode jdk_29_method_69_code 5 = .ok (.iload_n 0, 1) := by decide +kernel
theorem d_mmn_6 : decode jdk_29_method_69_code 6 = .ok (.goto 4, 3) := by decide +kernel
theorem d_mmn_9 : decode jdk_29_method_69_code 9 = .ok (.iload_n 1, 1) := by decide +kernel
theorem d_mmn_10 : decode jdk_29_method_69_code 10 = .ok (.ireturn, 1) := by decide +kernel
abbrev M_mmn : own_Mi := ((⟨"java/lang/Math", "min", "(II)I"⟩ : MethodName), jdk_29_method_69_code, 2, (Option.some FieldType.int), ({ frames := 0, cells := 0, slots := 0, locals := 0 } : Room))
theorem pn_mmn : plainFor (own_Mi.y M_mmn) = true := Jvm.Free.JP.mathPlain rfl (by decide +kernel)
set_option maxRecDepth 65536 in
set_option maxHeartbeats 40000000 in
theorem c_mmn (K : own_Cx) (a0 : Array Value) (hw : ∀ d ∈ tables_1, d.before a0 K.Z = true) (x y : Int32) (h : Heap) :
    own_Met K M_mmn #[.int x, .int y] [] h (own_ret fun w h' _ => ∃ r : Int32, w = .int r ∧ ((y.toInt < x.toInt ∧ r = y) ∨ (x.toInt ≤ y.toInt ∧ r = x)) ∧ h' = h) := by
  refine own_met_2_0 (M := M_mmn) pn_mmn rfl (by first | rfl | exact own_cat (by assumption)) (by first | rfl | exact own_cat (by assumption)) ?_
  refine own_iload_n (pc' := 1) rfl d_mmn_0 rfl ?_
  refine own_iload_n (pc' := 2) rfl d_mmn_1 rfl ?_
  refine own_icmpgt (pcT := 9) (pcF := 5) d_mmn_2 (by decide) (by decide) rfl (fun q => ?_) (fun q => ?_)
  · rw [Int32.lt_iff_toInt_lt] at q
    refine own_iload_n (pc' := 10) rfl d_mmn_9 rfl ?_
    refine own_ireturn rfl d_mmn_10 rfl rfl ?_
    exact ⟨y, rfl, Or.inl ⟨q, rfl⟩, rfl⟩
  · rw [Int32.lt_iff_toInt_lt] at q
    refine own_iload_n (pc' := 6) rfl d_mmn_5 rfl ?_
    refine own_goto (pc' := 10) d_mmn_6 (by decide) (by decide) ?_
    refine own_ireturn rfl d_mmn_10 rfl rfl ?_
    exact ⟨x, rfl, Or.inr ⟨by omega, rfl⟩, rfl⟩
/-! Arrays.copyOfRange of bytes, where it does not take the whole array -/
theorem own_fits_bt (xs : List Int32) (q : ∀ x ∈ xs, ∃ c : Int32, x = c.toInt8.toInt32) : ∀ v ∈ own_ints xs, fits .byte v = true := by
  intro v hv
  obtain ⟨x, hx, rfl⟩ := List.mem_map.mp hv
  obtain ⟨c, rfl⟩ := q x hx
  exact fits_nar_byte c
def own_Bys (vs : List Value) : Prop := ∀ v ∈ vs, fits .byte v = true
theorem own_Bys.app {vs ws : List Value} (h1 : own_Bys vs) (h2 : own_Bys ws) : own_Bys (vs ++ ws) := fun v hv => (List.mem_append.mp hv).elim (h1 v) (h2 v)
theorem own_Bys.zero (n : Nat) : own_Bys (List.replicate n (.int 0)) := fun v hv => by
  cases (List.mem_replicate.mp hv).2
  rfl
theorem own_Bys.lat (cs : List Int32) : own_Bys (own_ints (cs.map own_bt)) := own_fits_bt _ (fun x hx => by obtain ⟨c, -, rfl⟩ := List.mem_map.mp hx; exact ⟨c, rfl⟩)
theorem own_Bys.two (cs : List Int32) : own_Bys (own_ints (own_two cs)) := own_fits_bt _ (fun x hx => by
  obtain ⟨c, -, hc⟩ := List.mem_flatMap.mp hx
  simp only [List.mem_cons, List.not_mem_nil, or_false] at hc
  rcases hc with rfl | rfl
  · exact ⟨c, rfl⟩
  · exact ⟨_, rfl⟩)
theorem own_Bys.enc (cs : List Int32) : own_Bys (own_ints (own_enc cs)) := by
  unfold own_enc
  split
  · exact own_Bys.lat cs
  · exact own_Bys.two cs
theorem d_ckl_0 : decode jdk_65_method_131_code 0 = .ok (.iload_n 1, 1) := by decide +kernel
theorem d_ckl_1 : decode jdk_65_method_131_code 1 = .ok (.iload_n 0, 1) := by decide +kernel
theorem d_ckl_2 : decode jdk_65_method_131_code 2 = .ok (.if_icmp .ge 35, 3) := by decide +kernel
theorem d_ckl_37 : decode jdk_65_method_131_code 37 = .ok (.return_, 1) := by decide +kernel
abbrev M_ckl : own_Mi := ((⟨"java/util/Arrays", "checkLength", "(II)V"⟩ : MethodName), jdk_65_method_131_code, 2, (Option.none : Option FieldType), ({ frames := 0, cells := 0, slots := 0, locals := 0 } : Room))
theorem pn_ckl : plainFor (own_Mi.y M_ckl) = true := plainFor_of_name (by first | (simp [plainName, overriddenIn]; done) | decide +kernel)
set_option maxRecDepth 65536 in
set_option maxHeartbeats 40000000 in
theorem c_ckl (K : own_Cx) (a0 : Array Value) (hw : ∀ d ∈ tables_1, d.before a0 K.Z = true) (f t : Int32) (h : Heap) (q : f.toInt ≤ t.toInt) :
    own_Met K M_ckl #[.int f, .int t] [] h (own_void fun h' _ => h' = h) := by
  refine own_met_2_0 (M := M_ckl) pn_ckl rfl (by first | rfl | exact own_cat (by assumption)) (by first | rfl | exact own_cat (by assumption)) ?_
  refine own_iload_n (pc' := 1) rfl d_ckl_0 rfl ?_
  refine own_iload_n (pc' := 2) rfl d_ckl_1 rfl ?_
  refine own_icmpge (pcT := 37) (pcF := 5) d_ckl_2 (by decide) (by decide) rfl (fun z => ?_) (fun z => ?_)
  · skip
    refine own_return rfl d_ckl_37 rfl rfl ?_
    rfl
  · rw [Int32.lt_iff_toInt_lt] at z
    omega
theorem d_cob_0 : decode jdk_65_method_133_code 0 = .ok (.iload_n 1, 1) := by decide +kernel
theorem d_cob_1 : decode jdk_65_method_133_code 1 = .ok (.iload_n 2, 1) := by decide +kernel
theorem d_cob_2 : decode jdk_65_method_133_code 2 = .ok (.invokestatic 343, 3) := by decide +kernel
theorem d_cob_5 : decode jdk_65_method_133_code 5 = .ok (.iload_n 2, 1) := by decide +kernel
theorem d_cob_6 : decode jdk_65_method_133_code 6 = .ok (.iload_n 1, 1) := by decide +kernel
theorem d_cob_7 : decode jdk_65_method_133_code 7 = .ok (.isub, 1) := by decide +kernel
theorem d_cob_8 : decode jdk_65_method_133_code 8 = .ok (.istore_n 3, 1) := by decide +kernel
theorem d_cob_9 : decode jdk_65_method_133_code 9 = .ok (.iload_n 3, 1) := by decide +kernel
theorem d_cob_10 : decode jdk_65_method_133_code 10 = .ok (.newarray .byte, 2) := by decide +kernel
theorem d_cob_12 : decode jdk_65_method_133_code 12 = .ok (.astore 4, 2) := by decide +kernel
theorem d_cob_14 : decode jdk_65_method_133_code 14 = .ok (.aload_n 0, 1) := by decide +kernel
theorem d_cob_15 : decode jdk_65_method_133_code 15 = .ok (.iload_n 1, 1) := by decide +kernel
theorem d_cob_16 : decode jdk_65_method_133_code 16 = .ok (.aload 4, 2) := by decide +kernel
theorem d_cob_18 : decode jdk_65_method_133_code 18 = .ok (.iconst 0, 1) := by decide +kernel
theorem d_cob_19 : decode jdk_65_method_133_code 19 = .ok (.aload_n 0, 1) := by decide +kernel
theorem d_cob_20 : decode jdk_65_method_133_code 20 = .ok (.arraylength, 1) := by decide +kernel
theorem d_cob_21 : decode jdk_65_method_133_code 21 = .ok (.iload_n 1, 1) := by decide +kernel
theorem d_cob_22 : decode jdk_65_method_133_code 22 = .ok (.isub, 1) := by decide +kernel
theorem d_cob_23 : decode jdk_65_method_133_code 23 = .ok (.iload_n 3, 1) := by decide +kernel
theorem d_cob_24 : decode jdk_65_method_133_code 24 = .ok (.invokestatic 304, 3) := by decide +kernel
theorem d_cob_27 : decode jdk_65_method_133_code 27 = .ok (.invokestatic 150, 3) := by decide +kernel
theorem d_cob_30 : decode jdk_65_method_133_code 30 = .ok (.aload 4, 2) := by decide +kernel
theorem d_cob_32 : decode jdk_65_method_133_code 32 = .ok (.areturn, 1) := by decide +kernel
abbrev M_cob : own_Mi := ((⟨"java/util/Arrays", "copyOfRangeByte", "([BII)[B"⟩ : MethodName), jdk_65_method_133_code, 5, (Option.some (FieldType.array FieldType.byte)), ({ frames := 1, cells := 1, slots := 8, locals := 40 } : Room))
theorem pn_cob : plainFor (own_Mi.y M_cob) = true := plainFor_of_name (by first | (simp [plainName, overriddenIn]; done) | decide +kernel)
set_option maxRecDepth 65536 in
set_option maxHeartbeats 40000000 in
theorem c_cob (K : own_Cx) (a0 : Array Value) (hw : ∀ d ∈ tables_1, d.before a0 K.Z = true) (b : Addr) (f t : Int32) (F T : Nat) (vs : List Value) (h : Heap) (hf : f.toInt = F) (ht : t.toInt = T) (hFT : F ≤ T) (hT : T ≤ vs.length) (hcap : T - F ≤ 8) (hby : own_Bys vs) (B : own_Ary K.Z h b .byte vs) :
    own_Met K M_cob #[.ref b, .int f, .int t] [] h (own_ret fun w h' xs => ∃ b' : Addr, w = .ref b' ∧ Ext h h' ∧ h.size ≤ b' ∧ b' ∈ xs ∧ own_Ary K.Z h' b' .byte ((vs.drop F).take (T - F))) := by
  have hlv : vs.length < 2 ^ 31 := by obtain ⟨_, _, _, r⟩ := B; exact r
  have hz : (vs.length.toInt32).toInt = vs.length := own_lit _ hlv
  have hd : (t - f).toInt = ((T - F : Nat) : Int) := by rw [own_sub ht hf] <;> omega
  have hd2 : (vs.length.toInt32 - f).toInt = ((vs.length - F : Nat) : Int) := by rw [own_sub hz hf] <;> omega
  refine own_met_3_2 (M := M_cob) pn_cob rfl (by first | rfl | exact own_cat (by assumption)) (by first | rfl | exact own_cat (by assumption)) (by first | rfl | exact own_cat (by assumption)) ?_
  refine own_iload_n (pc' := 1) rfl d_cob_0 rfl ?_
  refine own_iload_n (pc' := 2) rfl d_cob_1 rfl ?_
  refine own_static2n (M' := M_ckl) d_cob_2 (pc' := 5) rfl (tw_107 hw) (tw_108 hw) (tw_102 hw) (tw_109 hw) (by decide) rfl (own_lenOf pd_10 rfl) rfl rfl rfl rfl (c_ckl K a0 hw f t h (by omega)) (by simp) ?_
  rintro h1 xs rfl
  refine own_iload_n (pc' := 6) rfl d_cob_5 rfl ?_
  refine own_iload_n (pc' := 7) rfl d_cob_6 rfl ?_
  refine own_isub (pc' := 8) rfl d_cob_7 ?_
  refine own_istore_n3 (pc' := 9) rfl d_cob_8 (by first | exact One.u | exact One.val rfl | assumption | exact One.val (by assumption)) ?_
  refine own_iload_n (pc' := 10) rfl d_cob_9 rfl ?_
  refine own_newarray (pc' := 12) rfl d_cob_10 (tw_19 hw) (N := (T - F)) (cap := 8) hd hcap rfl rfl rfl ?_
  intro b2 h2 eb2 E2 B2
  refine own_astore_4 (pc' := 14) rfl d_cob_12 (by first | exact One.u | exact One.val rfl | assumption | exact One.val (by assumption)) (by first | rfl | assumption) ?_
  refine own_aload_n (pc' := 15) rfl d_cob_14 rfl (by first | rfl | assumption) ?_
  refine own_iload_n (pc' := 16) rfl d_cob_15 rfl ?_
  refine own_aload (pc' := 18) rfl d_cob_16 rfl (by first | rfl | assumption) ?_
  refine own_iconst (v := (0 : Int32)) (pc' := 19) rfl d_cob_18 rfl ?_
  refine own_aload_n (pc' := 20) rfl d_cob_19 rfl (by first | rfl | assumption) ?_
  refine own_arrlen (z := vs.length.toInt32) (pc' := 21) rfl d_cob_20 (B.ext E2) hz ?_
  refine own_iload_n (pc' := 22) rfl d_cob_21 rfl ?_
  refine own_isub (pc' := 23) rfl d_cob_22 ?_
  refine own_iload_n (pc' := 24) rfl d_cob_23 rfl ?_
  refine own_static2v (M' := M_mmn) d_cob_24 (pc' := 27) rfl (tw_110 hw) (tw_32 hw) (tw_33 hw) (tw_34 hw) (by decide) rfl (own_lenOf pd_14 rfl) rfl rfl rfl rfl (c_mmn K a0 hw (vs.length.toInt32 - f) (t - f) h2) (by simp) ?_
  rintro w h3 xs3 ⟨r, rfl, hr, rfl⟩
  have hr' : r.toInt = ((T - F : Nat) : Int) := by rcases hr with ⟨z, rfl⟩ | ⟨z, rfl⟩ <;> omega
  refine own_acopy (pc' := 30) rfl d_cob_27 (tw_111 hw) (tw_114 hw) (tw_112 hw) (tw_113 hw) rfl rfl rfl rfl (B.ext E2) B2 hby (own_Bys.zero _) (S := F) (D := 0) (N := (T - F)) hf rfl hr' (by omega) (by simp) (by simp) ?_
  intro h4 k4 B4
  refine own_aload (pc' := 32) rfl d_cob_30 rfl (by first | rfl | assumption) ?_
  refine own_areturn rfl rfl (by first | rfl | assumption) d_cob_32 rfl rfl ?_
  refine ⟨b2, rfl, own_ext_keep E2 k4 (by intro x hx; cases List.mem_singleton.mp hx; omega), by omega, by simp, ?_⟩
  have e : ((List.replicate (T - F) (Value.int 0)).take 0 ++ (vs.drop F).take (T - F) ++ (List.replicate (T - F) (Value.int 0)).drop (0 + (T - F))) = (vs.drop F).take (T - F) := by simp
  rw [← e]
  exact B4
theorem d_cor_0 : decode jdk_65_method_132_code 0 = .ok (.iload_n 1, 1) := by decide +kernel
theorem d_cor_1 : decode jdk_65_method_132_code 1 = .ok (.ifCond .ne 9, 3) := by decide +kernel
theorem d_cor_4 : decode jdk_65_method_132_code 4 = .ok (.iload_n 2, 1) := by decide +kernel
theorem d_cor_5 : decode jdk_65_method_132_code 5 = .ok (.aload_n 0, 1) := by decide +kernel
theorem d_cor_6 : decode jdk_65_method_132_code 6 = .ok (.arraylength, 1) := by decide +kernel
theorem d_cor_7 : decode jdk_65_method_132_code 7 = .ok (.if_icmp .eq 10, 3) := by decide +kernel
theorem d_cor_10 : decode jdk_65_method_132_code 10 = .ok (.aload_n 0, 1) := by decide +kernel
theorem d_cor_11 : decode jdk_65_method_132_code 11 = .ok (.iload_n 1, 1) := by decide +kernel
theorem d_cor_12 : decode jdk_65_method_132_code 12 = .ok (.iload_n 2, 1) := by decide +kernel
theorem d_cor_13 : decode jdk_65_method_132_code 13 = .ok (.invokestatic 339, 3) := by decide +kernel
theorem d_cor_16 : decode jdk_65_method_132_code 16 = .ok (.areturn, 1) := by decide +kernel
abbrev M_cor : own_Mi := ((⟨"java/util/Arrays", "copyOfRange", "([BII)[B"⟩ : MethodName), jdk_65_method_132_code, 3, (Option.some (FieldType.array FieldType.byte)), ({ frames := 2, cells := 1, slots := 8, locals := 56 } : Room))
theorem pn_cor : plainFor (own_Mi.y M_cor) = true := plainFor_of_name (by first | (simp [plainName, overriddenIn]; done) | decide +kernel)
set_option maxRecDepth 65536 in
set_option maxHeartbeats 40000000 in
theorem c_cor (K : own_Cx) (a0 : Array Value) (hw : ∀ d ∈ tables_1, d.before a0 K.Z = true) (b : Addr) (f t : Int32) (F T : Nat) (vs : List Value) (h : Heap) (hf : f.toInt = F) (ht : t.toInt = T) (hFT : F ≤ T) (hT : T ≤ vs.length) (hne : F = 0 → T ≠ vs.length) (hcap : T - F ≤ 8) (hby : own_Bys vs) (B : own_Ary K.Z h b .byte vs) :
    own_Met K M_cor #[.ref b, .int f, .int t] [] h (own_ret fun w h' xs => ∃ b' : Addr, w = .ref b' ∧ Ext h h' ∧ h.size ≤ b' ∧ b' ∈ xs ∧ own_Ary K.Z h' b' .byte ((vs.drop F).take (T - F))) := by
  have hlv : vs.length < 2 ^ 31 := by obtain ⟨_, _, _, r⟩ := B; exact r
  have hz : (vs.length.toInt32).toInt = vs.length := own_lit _ hlv
  have key : own_WP K M_cor (own_ret fun w h' xs => ∃ b' : Addr, w = .ref b' ∧ Ext h h' ∧ h.size ≤ b' ∧ b' ∈ xs ∧ own_Ary K.Z h' b' .byte ((vs.drop F).take (T - F))) 10 [.val (.ref b), .val (.int f), .val (.int t)] [] [] h 0 0 := by
    refine own_aload_n (pc' := 11) rfl d_cor_10 rfl (by first | rfl | assumption) ?_
    refine own_iload_n (pc' := 12) rfl d_cor_11 rfl ?_
    refine own_iload_n (pc' := 13) rfl d_cor_12 rfl ?_
    refine own_static3v (M' := M_cob) d_cor_13 (pc' := 16) rfl (tw_104 hw) (tw_105 hw) (tw_102 hw) (tw_106 hw) (by decide) rfl (own_lenOf pd_15 rfl) rfl rfl rfl rfl (c_cob K a0 hw b f t F T vs h hf ht hFT hT hcap hby B) (by simp) ?_
    rintro w h1 xs ⟨b', rfl, E1, hb', hx, B'⟩
    refine own_areturn rfl rfl (by first | rfl | assumption) d_cor_16 rfl rfl ?_
    exact ⟨b', rfl, E1, hb', by simp [hx], B'⟩
  refine own_met_3_0 (M := M_cor) pn_cor rfl (by first | rfl | exact own_cat (by assumption)) (by first | rfl | exact own_cat (by assumption)) (by first | rfl | exact own_cat (by assumption)) ?_
  refine own_iload_n (pc' := 1) rfl d_cor_0 rfl ?_
  refine own_ifne (pcT := 10) (pcF := 4) d_cor_1 (by decide) (by decide) rfl (fun q => ?_) (fun q => ?_)
  · exact key
  · have hF0 : F = 0 := by rw [q] at hf; have : (0 : Int32).toInt = 0 := rfl; omega
    refine own_iload_n (pc' := 5) rfl d_cor_4 rfl ?_
    refine own_aload_n (pc' := 6) rfl d_cor_5 rfl (by first | rfl | assumption) ?_
    refine own_arrlen (z := vs.length.toInt32) (pc' := 7) rfl d_cor_6 B hz ?_
    refine own_icmpeq (pcT := 17) (pcF := 10) d_cor_7 (by decide) (by decide) rfl (fun q2 => ?_) (fun q2 => ?_)
    · exfalso
      rw [q2, hz] at ht
      exact hne hF0 (by omega)
    · exact key
theorem d_rec_0 : decode jdk_30_method_1_code 0 = .ok (.aload_n 0, 1) := by decide +kernel
theorem d_rec_1 : decode jdk_30_method_1_code 1 = .ok (.invokespecial 1, 3) := by decide +kernel
theorem d_rec_4 : decode jdk_30_method_1_code 4 = .ok (.return_, 1) := by decide +kernel
abbrev M_rec : own_Mi := ((⟨"java/lang/Record", "<init>", "()V"⟩ : MethodName), jdk_30_method_1_code, 1, (Option.none : Option FieldType), ({ frames := 1, cells := 0, slots := 0, locals := 12 } : Room))
theorem pn_rec : plainFor (own_Mi.y M_rec) = true := plainFor_of_name (by first | (simp [plainName, overriddenIn]; done) | decide +kernel)
set_option maxRecDepth 65536 in
set_option maxHeartbeats 40000000 in
theorem c_rec (K : own_Cx) (a0 : Array Value) (hw : ∀ d ∈ tables_1, d.before a0 K.Z = true) (t : Addr) (h : Heap) : own_Met K M_rec #[.ref t] [] h (own_void fun h' _ => h' = h) := by
  refine own_met_1_0 (M := M_rec) pn_rec rfl (by first | rfl | exact own_cat (by assumption)) ?_
  refine own_aload_n (pc' := 1) rfl d_rec_0 rfl (by first | rfl | assumption) ?_
  refine own_initO (pc' := 4) rfl d_rec_1 (tw_49 hw) (tw_12 hw) (tw_13 hw) rfl rfl rfl ?_
  refine own_return rfl d_rec_4 rfl rfl ?_
  rfl
theorem d_pft_0 : decode jdk_41_method_12_code 0 = .ok (.iload_n 0, 1) := by decide +kernel
theorem d_pft_1 : decode jdk_41_method_12_code 1 = .ok (.ifCond .lt 13, 3) := by decide +kernel
theorem d_pft_4 : decode jdk_41_method_12_code 4 = .ok (.iload_n 0, 1) := by decide +kernel
theorem d_pft_5 : decode jdk_41_method_12_code 5 = .ok (.iload_n 1, 1) := by decide +kernel
theorem d_pft_6 : decode jdk_41_method_12_code 6 = .ok (.if_icmp .gt 8, 3) := by decide +kernel
theorem d_pft_9 : decode jdk_41_method_12_code 9 = .ok (.iload_n 1, 1) := by decide +kernel
theorem d_pft_10 : decode jdk_41_method_12_code 10 = .ok (.iload_n 2, 1) := by decide +kernel
theorem d_pft_11 : decode jdk_41_method_12_code 11 = .ok (.if_icmp .le 11, 3) := by decide +kernel
theorem d_pft_22 : decode jdk_41_method_12_code 22 = .ok (.iload_n 0, 1) := by decide +kernel
theorem d_pft_23 : decode jdk_41_method_12_code 23 = .ok (.ireturn, 1) := by decide +kernel
abbrev M_pft : own_Mi := ((⟨"jdk/internal/util/Preconditions", "checkFromToIndex", "(IIILjava/util/function/BiFunction;)I"⟩ : MethodName), jdk_41_method_12_code, 4, (Option.some FieldType.int), ({ frames := 0, cells := 0, slots := 0, locals := 0 } : Room))
theorem pn_pft : plainFor (own_Mi.y M_pft) = true := plainFor_of_name (by first | (simp [plainName, overriddenIn]; done) | decide +kernel)
set_option maxRecDepth 65536 in
set_option maxHeartbeats 40000000 in
theorem c_pft (K : own_Cx) (a0 : Array Value) (hw : ∀ d ∈ tables_1, d.before a0 K.Z = true) (rf : Value) (hrf : rf.isRef = true) (i j n : Int32) (h : Heap) (h0 : 0 ≤ i.toInt) (h1 : i.toInt ≤ j.toInt) (h2 : j.toInt ≤ n.toInt) :
    own_Met K M_pft #[.int i, .int j, .int n, rf] [] h (own_ret fun w h' _ => w = .int i ∧ h' = h) := by
  have v0 : (0 : Int32).toInt = 0 := rfl
  refine own_met_4_0 (M := M_pft) pn_pft rfl (by first | rfl | exact own_cat (by assumption)) (by first | rfl | exact own_cat (by assumption)) (by first | rfl | exact own_cat (by assumption)) (by first | rfl | exact own_cat (by assumption)) ?_
  refine own_iload_n (pc' := 1) rfl d_pft_0 rfl ?_
  refine own_iflt (pcT := 14) (pcF := 4) d_pft_1 (by decide) (by decide) rfl (fun q => ?_) (fun q => ?_)
  · rw [Int32.lt_iff_toInt_lt] at q
    omega
  · skip
    refine own_iload_n (pc' := 5) rfl d_pft_4 rfl ?_
    refine own_iload_n (pc' := 6) rfl d_pft_5 rfl ?_
    refine own_icmpgt (pcT := 14) (pcF := 9) d_pft_6 (by decide) (by decide) rfl (fun q2 => ?_) (fun q2 => ?_)
    · rw [Int32.lt_iff_toInt_lt] at q2
      omega
    · skip
      refine own_iload_n (pc' := 10) rfl d_pft_9 rfl ?_
      refine own_iload_n (pc' := 11) rfl d_pft_10 rfl ?_
      refine own_icmple (pcT := 22) (pcF := 14) d_pft_11 (by decide) (by decide) rfl (fun q3 => ?_) (fun q3 => ?_)
      · skip
        refine own_iload_n (pc' := 23) rfl d_pft_22 rfl ?_
        refine own_ireturn rfl d_pft_23 rfl rfl ?_
        exact ⟨rfl, rfl⟩
      · rw [Int32.lt_iff_toInt_lt] at q3
        omega
theorem d_sbe_0 : decode jdk_42_method_158_code 0 = .ok (.iload_n 0, 1) := by decide +kernel
theorem d_sbe_1 : decode jdk_42_method_158_code 1 = .ok (.iload_n 1, 1) := by decide +kernel
theorem d_sbe_2 : decode jdk_42_method_158_code 2 = .ok (.iload_n 2, 1) := by decide +kernel
theorem d_sbe_3 : decode jdk_42_method_158_code 3 = .ok (.getstatic 1053, 3) := by decide +kernel
theorem d_sbe_6 : decode jdk_42_method_158_code 6 = .ok (.invokestatic 1062, 3) := by decide +kernel
theorem d_sbe_9 : decode jdk_42_method_158_code 9 = .ok (.pop, 1) := by decide +kernel
theorem d_sbe_10 : decode jdk_42_method_158_code 10 = .ok (.return_, 1) := by decide +kernel
abbrev M_sbe : own_Mi := ((⟨"java/lang/String", "checkBoundsBeginEnd", "(III)V"⟩ : MethodName), jdk_42_method_158_code, 3, (Option.none : Option FieldType), ({ frames := 1, cells := 0, slots := 0, locals := 15 } : Room))
theorem pn_sbe : plainFor (own_Mi.y M_sbe) = true := plainFor_of_name (by first | (simp [plainName, overriddenIn]; done) | decide +kernel)
set_option maxRecDepth 65536 in
set_option maxHeartbeats 40000000 in
theorem c_sbe (K : own_Cx) (a0 : Array Value) (hw : ∀ d ∈ tables_1, d.before a0 K.Z = true) (rf : Value) (hrf : rf.isRef = true) (SF : Sta K.Z K.Z.heap "jdk/internal/util/Preconditions" "SIOOBE_FORMATTER" "Ljava/util/function/BiFunction;" rf) (i j n : Int32) (h : Heap) (h0 : 0 ≤ i.toInt) (h1 : i.toInt ≤ j.toInt) (h2 : j.toInt ≤ n.toInt) :
    own_Met K M_sbe #[.int i, .int j, .int n] [] h (own_void fun h' _ => h' = h) := by
  refine own_met_3_0 (M := M_sbe) pn_sbe rfl (by first | rfl | exact own_cat (by assumption)) (by first | rfl | exact own_cat (by assumption)) (by first | rfl | exact own_cat (by assumption)) ?_
  refine own_iload_n (pc' := 1) rfl d_sbe_0 rfl ?_
  refine own_iload_n (pc' := 2) rfl d_sbe_1 rfl ?_
  refine own_iload_n (pc' := 3) rfl d_sbe_2 rfl ?_
  refine own_getS (pc' := 6) rfl d_sbe_3 (tw_88 hw) Via.refl SF ?_
  refine own_static4v (M' := M_pft) d_sbe_6 (pc' := 9) rfl (tw_89 hw) (tw_65 hw) (tw_66 hw) (tw_67 hw) (by decide) rfl (own_lenOf pd_16 rfl) rfl rfl rfl rfl (c_pft K a0 hw rf hrf i j n h h0 h1 h2) (by simp) ?_
  rintro w h1 xs ⟨rfl, rfl⟩
  refine own_pop (pc' := 10) rfl d_sbe_9 (by first | rfl | assumption) ?_
  refine own_return rfl d_sbe_10 rfl rfl ?_
  rfl
/-! bounds checks (the same contracts as in sbu.wp) -/
theorem own_or_nn {x y : Int32} (hx : 0 ≤ x.toInt) (hy : 0 ≤ y.toInt) : 0 ≤ (x ||| y).toInt := by
  have h1 := BitVec.msb_eq_toInt (x := x.toBitVec)
  have h2 := BitVec.msb_eq_toInt (x := y.toBitVec)
  have h3 := BitVec.msb_eq_toInt (x := (x ||| y).toBitVec)
  have e : (x ||| y).toBitVec = x.toBitVec ||| y.toBitVec := rfl
  have g1 : x.toBitVec.toInt = x.toInt := rfl
  have g2 : y.toBitVec.toInt = y.toInt := rfl
  have g3 : (x ||| y).toBitVec.toInt = (x ||| y).toInt := rfl
  rw [g3] at h3
  rw [e, BitVec.msb_or, h1, h2, g1, g2, decide_eq_false (by omega : ¬ x.toInt < 0), decide_eq_false (by omega : ¬ y.toInt < 0)] at h3
  have h4 := of_decide_eq_false h3.symm
  omega
theorem d_pfs_0 : decode jdk_41_method_13_code 0 = .ok (.iload_n 2, 1) := by decide +kernel
theorem d_pfs_1 : decode jdk_41_method_13_code 1 = .ok (.iload_n 0, 1) := by decide +kernel
theorem d_pfs_2 : decode jdk_41_method_13_code 2 = .ok (.ior, 1) := by decide +kernel
theorem d_pfs_3 : decode jdk_41_method_13_code 3 = .ok (.iload_n 1, 1) := by decide +kernel
theorem d_pfs_4 : decode jdk_41_method_13_code 4 = .ok (.ior, 1) := by decide +kernel
theorem d_pfs_5 : decode jdk_41_method_13_code 5 = .ok (.ifCond .lt 10, 3) := by decide +kernel
theorem d_pfs_8 : decode jdk_41_method_13_code 8 = .ok (.iload_n 1, 1) := by decide +kernel
theorem d_pfs_9 : decode jdk_41_method_13_code 9 = .ok (.iload_n 2, 1) := by decide +kernel
theorem d_pfs_10 : decode jdk_41_method_13_code 10 = .ok (.iload_n 0, 1) := by decide +kernel
theorem d_pfs_11 : decode jdk_41_method_13_code 11 = .ok (.isub, 1) := by decide +kernel
theorem d_pfs_12 : decode jdk_41_method_13_code 12 = .ok (.if_icmp .le 11, 3) := by decide +kernel
theorem d_pfs_23 : decode jdk_41_method_13_code 23 = .ok (.iload_n 0, 1) := by decide +kernel
theorem d_pfs_24 : decode jdk_41_method_13_code 24 = .ok (.ireturn, 1) := by decide +kernel
abbrev M_pfs : own_Mi := ((⟨"jdk/internal/util/Preconditions", "checkFromIndexSize", "(IIILjava/util/function/BiFunction;)I"⟩ : MethodName), jdk_41_method_13_code, 4, (Option.some FieldType.int), ({ frames := 0, cells := 0, slots := 0, locals := 0 } : Room))
theorem pn_pfs : plainFor (own_Mi.y M_pfs) = true := plainFor_of_name (by first | (simp [plainName, overriddenIn]; done) | decide +kernel)
set_option maxRecDepth 65536 in
set_option maxHeartbeats 40000000 in
theorem c_pfs (K : own_Cx) (a0 : Array Value) (hw : ∀ d ∈ tables_1, d.before a0 K.Z = true) (rf : Value) (hrf : rf.isRef = true) (i s n : Int32) (h : Heap) (h0 : 0 ≤ i.toInt) (h1 : 0 ≤ s.toInt) (h2 : i.toInt + s.toInt ≤ n.toInt) :
    own_Met K M_pfs #[.int i, .int s, .int n, rf] [] h (own_ret fun w h' _ => w = .int i ∧ h' = h) := by
  have v0 : (0 : Int32).toInt = 0 := rfl
  have ho := own_or_nn (own_or_nn (x := n) (y := i) (by omega) h0) h1
  have r1 := rng32 n
  refine own_met_4_0 (M := M_pfs) pn_pfs rfl (by first | rfl | exact own_cat (by assumption)) (by first | rfl | exact own_cat (by assumption)) (by first | rfl | exact own_cat (by assumption)) (by first | rfl | exact own_cat (by assumption)) ?_
  refine own_iload_n (pc' := 1) rfl d_pfs_0 rfl ?_
  refine own_iload_n (pc' := 2) rfl d_pfs_1 rfl ?_
  refine own_ior (pc' := 3) rfl d_pfs_2 ?_
  refine own_iload_n (pc' := 4) rfl d_pfs_3 rfl ?_
  refine own_ior (pc' := 5) rfl d_pfs_4 ?_
  refine own_iflt (pcT := 15) (pcF := 8) d_pfs_5 (by decide) (by decide) rfl (fun q => ?_) (fun q => ?_)
  · rw [Int32.lt_iff_toInt_lt] at q
    omega
  · skip
    refine own_iload_n (pc' := 9) rfl d_pfs_8 rfl ?_
    refine own_iload_n (pc' := 10) rfl d_pfs_9 rfl ?_
    refine own_iload_n (pc' := 11) rfl d_pfs_10 rfl ?_
    refine own_isub (pc' := 12) rfl d_pfs_11 ?_
    refine own_icmple (pcT := 23) (pcF := 15) d_pfs_12 (by decide) (by decide) rfl (fun q2 => ?_) (fun q2 => ?_)
    · skip
      refine own_iload_n (pc' := 24) rfl d_pfs_23 rfl ?_
      refine own_ireturn rfl d_pfs_24 rfl rfl ?_
      exact ⟨rfl, rfl⟩
    · rw [Int32.lt_iff_toInt_lt, own_sub (x := n) (y := i) rfl rfl (by omega) (by omega)] at q2
      omega
theorem d_sbo_0 : decode jdk_42_method_157_code 0 = .ok (.iload_n 0, 1) := by decide +kernel
theorem d_sbo_1 : decode jdk_42_method_157_code 1 = .ok (.iload_n 1, 1) := by decide +kernel
theorem d_sbo_2 : decode jdk_42_method_157_code 2 = .ok (.iload_n 2, 1) := by decide +kernel
theorem d_sbo_3 : decode jdk_42_method_157_code 3 = .ok (.getstatic 1053, 3) := by decide +kernel
theorem d_sbo_6 : decode jdk_42_method_157_code 6 = .ok (.invokestatic 1065, 3) := by decide +kernel
theorem d_sbo_9 : decode jdk_42_method_157_code 9 = .ok (.ireturn, 1) := by decide +kernel
abbrev M_sbo : own_Mi := ((⟨"java/lang/String", "checkBoundsOffCount", "(III)I"⟩ : MethodName), jdk_42_method_157_code, 3, (Option.some FieldType.int), ({ frames := 1, cells := 0, slots := 0, locals := 15 } : Room))
theorem pn_sbo : plainFor (own_Mi.y M_sbo) = true := plainFor_of_name (by first | (simp [plainName, overriddenIn]; done) | decide +kernel)
set_option maxRecDepth 65536 in
set_option maxHeartbeats 40000000 in
theorem c_sbo (K : own_Cx) (a0 : Array Value) (hw : ∀ d ∈ tables_1, d.before a0 K.Z = true) (rf : Value) (hrf : rf.isRef = true) (SF : Sta K.Z K.Z.heap "jdk/internal/util/Preconditions" "SIOOBE_FORMATTER" "Ljava/util/function/BiFunction;" rf) (i s n : Int32) (h : Heap) (h0 : 0 ≤ i.toInt) (h1 : 0 ≤ s.toInt) (h2 : i.toInt + s.toInt ≤ n.toInt) :
    own_Met K M_sbo #[.int i, .int s, .int n] [] h (own_ret fun w h' _ => w = .int i ∧ h' = h) := by
  refine own_met_3_0 (M := M_sbo) pn_sbo rfl (by first | rfl | exact own_cat (by assumption)) (by first | rfl | exact own_cat (by assumption)) (by first | rfl | exact own_cat (by assumption)) ?_
  refine own_iload_n (pc' := 1) rfl d_sbo_0 rfl ?_
  refine own_iload_n (pc' := 2) rfl d_sbo_1 rfl ?_
  refine own_iload_n (pc' := 3) rfl d_sbo_2 rfl ?_
  refine own_getS (pc' := 6) rfl d_sbo_3 (tw_88 hw) Via.refl SF ?_
  refine own_static4v (M' := M_pfs) d_sbo_6 (pc' := 9) rfl (tw_175 hw) (tw_176 hw) (tw_66 hw) (tw_177 hw) (by decide) rfl (own_lenOf pd_16 rfl) rfl rfl rfl rfl (c_pfs K a0 hw rf hrf i s n h h0 h1 h2) (by simp) ?_
  rintro w h3 xs ⟨rfl, rfl⟩
  refine own_ireturn rfl d_sbo_9 rfl rfl ?_
  exact ⟨rfl, rfl⟩
set_option maxRecDepth 65536 in
set_option maxHeartbeats 40000000 in
theorem c_ulg (K : own_Cx) (a0 : Array Value) (hw : ∀ d ∈ tables_1, d.before a0 K.Z = true) (b : Addr) (vs : List Value) (N : Nat) (h : Heap) (hv : vs.length = 2 * N) (hN : N < 2 ^ 29) (B : own_Ary K.Z h b .byte vs) :
    own_Met K M_ul #[.ref b] [] h (own_ret fun w h' _ => w = .int N.toInt32 ∧ h' = h) := by
  have hz : ((2 * N).toInt32).toInt = ((2 * N : Nat) : Int) := own_lit _ (by omega)
  have hn : (N.toInt32).toInt = N := own_lit _ (by omega)
  have e2 : (2 * N).toInt32 >>> ((1 : Int32) &&& 31) = N.toInt32 := by
    apply Int32.toInt_inj.mp
    have := c_ishr (2 * N).toInt32 1 1 (by decide)
    rw [this, hz, hn]
    omega
  refine own_met_1_0 (M := M_ul) pn_ul rfl (by first | rfl | exact own_cat (by assumption)) ?_
  refine own_aload_n (pc' := 1) rfl d_ul_0 rfl (by first | rfl | assumption) ?_
  refine own_arrlen (z := (2 * N).toInt32) (pc' := 2) rfl d_ul_1 B (by rw [hz, hv]) ?_
  refine own_iconst (v := (1 : Int32)) (pc' := 3) rfl d_ul_2 rfl ?_
  refine own_ishr (pc' := 4) rfl d_ul_3 ?_
  rw [e2]
  refine own_ireturn rfl d_ul_4 rfl rfl ?_
  exact ⟨rfl, rfl⟩
theorem d_ubo_0 : decode jdk_52_method_94_code 0 = .ok (.iload_n 0, 1) := by decide +kernel
theorem d_ubo_1 : decode jdk_52_method_94_code 1 = .ok (.iload_n 1, 1) := by decide +kernel
theorem d_ubo_2 : decode jdk_52_method_94_code 2 = .ok (.aload_n 2, 1) := by decide +kernel
theorem d_ubo_3 : decode jdk_52_method_94_code 3 = .ok (.invokestatic 48, 3) := by decide +kernel
theorem d_ubo_6 : decode jdk_52_method_94_code 6 = .ok (.invokestatic 419, 3) := by decide +kernel
theorem d_ubo_9 : decode jdk_52_method_94_code 9 = .ok (.pop, 1) := by decide +kernel
theorem d_ubo_10 : decode jdk_52_method_94_code 10 = .ok (.return_, 1) := by decide +kernel
abbrev M_ubo : own_Mi := ((⟨"java/lang/StringUTF16", "checkBoundsOffCount", "(II[B)V"⟩ : MethodName), jdk_52_method_94_code, 3, (Option.none : Option FieldType), ({ frames := 2, cells := 0, slots := 0, locals := 29 } : Room))
theorem pn_ubo : plainFor (own_Mi.y M_ubo) = true := plainFor_of_name (by first | (simp [plainName, overriddenIn]; done) | decide +kernel)
set_option maxRecDepth 65536 in
set_option maxHeartbeats 40000000 in
theorem c_ubo (K : own_Cx) (a0 : Array Value) (hw : ∀ d ∈ tables_1, d.before a0 K.Z = true) (rf : Value) (hrf : rf.isRef = true) (SF : Sta K.Z K.Z.heap "jdk/internal/util/Preconditions" "SIOOBE_FORMATTER" "Ljava/util/function/BiFunction;" rf) (b : Addr) (vs : List Value) (N : Nat) (i s : Int32) (h : Heap) (hv : vs.length = 2 * N) (hN : N < 2 ^ 29) (B : own_Ary K.Z h b .byte vs) (h0 : 0 ≤ i.toInt) (h1 : 0 ≤ s.toInt) (h2 : i.toInt + s.toInt ≤ N) :
    own_Met K M_ubo #[.int i, .int s, .ref b] [] h (own_void fun h' _ => h' = h) := by
  have hn : (N.toInt32).toInt = N := own_lit _ (by omega)
  refine own_met_3_0 (M := M_ubo) pn_ubo rfl (by first | rfl | exact own_cat (by assumption)) (by first | rfl | exact own_cat (by assumption)) (by first | rfl | exact own_cat (by assumption)) ?_
  refine own_iload_n (pc' := 1) rfl d_ubo_0 rfl ?_
  refine own_iload_n (pc' := 2) rfl d_ubo_1 rfl ?_
  refine own_aload_n (pc' := 3) rfl d_ubo_2 rfl (by first | rfl | assumption) ?_
  refine own_static1v (M' := M_ul) d_ubo_3 (pc' := 6) rfl (tw_169 hw) (tw_170 hw) (tw_17 hw) (tw_171 hw) (by decide) rfl (own_lenOf pd_11 rfl) rfl rfl rfl rfl (c_ulg K a0 hw b vs N h hv hN B) (by simp) ?_
  rintro w h3 xs ⟨rfl, rfl⟩
  refine own_static3v (M' := M_sbo) d_ubo_6 (pc' := 9) rfl (tw_172 hw) (tw_173 hw) (tw_3 hw) (tw_174 hw) (by decide) rfl (own_lenOf pd_17 rfl) rfl rfl rfl rfl (c_sbo K a0 hw rf hrf SF i s _ _ h0 h1 (by rw [hn]; exact h2)) (by simp) ?_
  rintro w h4 xs4 ⟨rfl, rfl⟩
  refine own_pop (pc' := 10) rfl d_ubo_9 (by first | rfl | assumption) ?_
  refine own_return rfl d_ubo_10 rfl rfl ?_
  rfl
/-! cuts of a text (the same as in sbj.wp) -/
theorem own_two_cut : ∀ (ds : List Int32) (F N : Nat), ((own_two ds).drop (2 * F)).take (2 * N) = own_two ((ds.drop F).take N) := by
  have hd : ∀ (ds : List Int32) (F : Nat), (own_two ds).drop (2 * F) = own_two (ds.drop F) := by
    intro ds
    induction ds with
    | nil => intro F; simp [own_two]
    | cons c r ih =>
      intro F
      cases F with
      | zero => rfl
      | succ F =>
        have e : own_two (c :: r) = own_bt c :: own_hb c :: own_two r := rfl
        rw [e, show 2 * (F + 1) = 2 * F + 1 + 1 by omega, List.drop_succ_cons, List.drop_succ_cons, List.drop_succ_cons]
        exact ih F
  have ht : ∀ (ds : List Int32) (N : Nat), (own_two ds).take (2 * N) = own_two (ds.take N) := by
    intro ds
    induction ds with
    | nil => intro N; simp [own_two]
    | cons c r ih =>
      intro N
      cases N with
      | zero => rfl
      | succ N =>
        have e : own_two (c :: r) = own_bt c :: own_hb c :: own_two r := rfl
        rw [e, show 2 * (N + 1) = 2 * N + 1 + 1 by omega, List.take_succ_cons, List.take_succ_cons, List.take_succ_cons, ih N]
        rfl
  intro ds F N
  rw [hd, ht]
theorem own_lat_cut {ds : List Int32} (q : own_lat ds = true) (F N : Nat) : own_lat ((ds.drop F).take N) = true :=
  List.all_eq_true.mpr fun c hc => List.all_eq_true.mp q c (List.mem_of_mem_drop (List.mem_of_mem_take hc))
theorem own_chs_cut {ds : List Int32} (q : own_Chs ds) (F N : Nat) : own_Chs ((ds.drop F).take N) := fun c hc => q c (List.mem_of_mem_drop (List.mem_of_mem_take hc))
theorem d_sib_0 : decode jdk_42_method_151_code 0 = .ok (.aload_n 0, 1) := by decide +kernel
theorem d_sib_1 : decode jdk_42_method_151_code 1 = .ok (.invokespecial 1, 3) := by decide +kernel
theorem d_sib_4 : decode jdk_42_method_151_code 4 = .ok (.aload_n 0, 1) := by decide +kernel
theorem d_sib_5 : decode jdk_42_method_151_code 5 = .ok (.aload_n 1, 1) := by decide +kernel
theorem d_sib_6 : decode jdk_42_method_151_code 6 = .ok (.putfield 9, 3) := by decide +kernel
theorem d_sib_9 : decode jdk_42_method_151_code 9 = .ok (.aload_n 0, 1) := by decide +kernel
theorem d_sib_10 : decode jdk_42_method_151_code 10 = .ok (.iload_n 2, 1) := by decide +kernel
theorem d_sib_11 : decode jdk_42_method_151_code 11 = .ok (.putfield 15, 3) := by decide +kernel
theorem d_sib_14 : decode jdk_42_method_151_code 14 = .ok (.return_, 1) := by decide +kernel
abbrev M_sib : own_Mi := ((⟨"java/lang/String", "<init>", "([BB)V"⟩ : MethodName), jdk_42_method_151_code, 3, (Option.none : Option FieldType), ({ frames := 1, cells := 0, slots := 0, locals := 12 } : Room))
theorem pn_sib : plainFor (own_Mi.y M_sib) = true := plainFor_of_name (by first | (simp [plainName, overriddenIn]; done) | decide +kernel)
set_option maxRecDepth 65536 in
set_option maxHeartbeats 40000000 in
theorem c_sib (K : own_Cx) (a0 : Array Value) (hw : ∀ d ∈ tables_1, d.before a0 K.Z = true) (x b : Addr) (cs : List Int32) (h : Heap) (hcs : own_Chs cs) (hl : cs.length < 2 ^ 30) (E : Exa K.Z h x own_sC) (FV : Fld K.Z h x own_sC "value" "[B" .null) (FC : Fld K.Z h x own_sC "coder" "B" (.int 0)) (B : own_Ary K.Z h b .byte (own_ints (own_enc cs))) (hxb : b ≠ x) :
    own_Met K M_sib #[.ref x, .ref b, .int (own_cod cs)] [x] h (own_void fun h' _ => Keep h h' [x] ∧ own_Str K.Z h' x cs) := by
  have sne : RoadKit.slotOf K.Z own_sC "value" "[B" ≠ RoadKit.slotOf K.Z own_sC "coder" "B" := slot_ne (Or.inr (tw_29 hw)) (Or.inr (tw_27 hw)) (by decide) (t := .array .byte) (t' := .byte) (by decide) (by decide)
  refine own_met_3_0 (M := M_sib) pn_sib rfl (by first | rfl | exact own_cat (by assumption)) (by first | rfl | exact own_cat (by assumption)) (by first | rfl | exact own_cat (by assumption)) ?_
  refine own_aload_n (pc' := 1) rfl d_sib_0 rfl (by first | rfl | assumption) ?_
  refine own_initO (pc' := 4) rfl d_sib_1 (tw_11 hw) (tw_12 hw) (tw_13 hw) rfl rfl rfl ?_
  refine own_aload_n (pc' := 5) rfl d_sib_4 rfl (by first | rfl | assumption) ?_
  refine own_aload_n (pc' := 6) rfl d_sib_5 rfl (by first | rfl | assumption) ?_
  refine own_putF (pc' := 9) rfl d_sib_6 (tw_28 hw) Via.refl (Or.inr ⟨(tw_29 hw), rfl, rfl⟩) (tw_2 hw) (ty := (.array .byte)) (by decide) rfl rfl FV (by assumption) (by simp) ?_
  intro h1 W1
  have FV1 := FV.same W1
  have FC1 := FC.other W1 (Or.inr (Ne.symm sne))
  have E1 := E.wr W1
  have B1 := B.other W1 hxb
  refine own_aload_n (pc' := 10) rfl d_sib_9 rfl (by first | rfl | assumption) ?_
  refine own_iload_n (pc' := 11) rfl d_sib_10 rfl ?_
  refine own_putF (pc' := 14) rfl d_sib_11 (tw_26 hw) Via.refl (Or.inr ⟨(tw_27 hw), rfl, rfl⟩) (tw_2 hw) (ty := .byte) (by decide) (own_cod_byte cs).1 (own_cod_byte cs).2 FC1 E1 (by simp) ?_
  intro h2 W2
  refine own_return rfl d_sib_14 rfl rfl ?_
  exact ⟨(Keep.of_wr W1).wr W2 (Or.inl (List.mem_singleton.mpr rfl)), E1.wr W2, hcs, hl, b, FV1.other W2 (Or.inr sne), FC1.same W2, B1.other W2 hxb⟩
abbrev own_tC : String := "com/example/macroweave/macroweave/Text"
abbrev own_sD : String := "Ljava/lang/String;"
def own_Txt (Z : State) (h : Heap) (t x : Addr) (s e : Int32) : Prop := Exa Z h t own_tC ∧ Fld Z h t own_tC "string" own_sD (.ref x) ∧ Fld Z h t own_tC "start" "I" (.int s) ∧ Fld Z h t own_tC "end" "I" (.int e)
theorem d_ocf_0 : decode jdk_31_method_18_code 0 = .ok (.iload_n 0, 1) := by decide +kernel
theorem d_ocf_1 : decode jdk_31_method_18_code 1 = .ok (.iload_n 1, 1) := by decide +kernel
theorem d_ocf_2 : decode jdk_31_method_18_code 2 = .ok (.iload_n 2, 1) := by decide +kernel
theorem d_ocf_3 : decode jdk_31_method_18_code 3 = .ok (.aconst_null, 1) := by decide +kernel
theorem d_ocf_4 : decode jdk_31_method_18_code 4 = .ok (.invokestatic 111, 3) := by decide +kernel
theorem d_ocf_7 : decode jdk_31_method_18_code 7 = .ok (.ireturn, 1) := by decide +kernel
abbrev M_ocf : own_Mi := ((⟨"java/util/Objects", "checkFromToIndex", "(III)I"⟩ : MethodName), jdk_31_method_18_code, 3, (Option.some FieldType.int), ({ frames := 1, cells := 0, slots := 0, locals := 15 } : Room))
theorem pn_ocf : plainFor (own_Mi.y M_ocf) = true := plainFor_of_name (by first | (simp [plainName, overriddenIn]; done) | decide +kernel)
set_option maxRecDepth 65536 in
set_option maxHeartbeats 40000000 in
theorem c_ocf (K : own_Cx) (a0 : Array Value) (hw : ∀ d ∈ tables_1, d.before a0 K.Z = true) (f t n : Int32) (h : Heap) (h0 : 0 ≤ f.toInt) (h1 : f.toInt ≤ t.toInt) (h2 : t.toInt ≤ n.toInt) :
    own_Met K M_ocf #[.int f, .int t, .int n] [] h (own_ret fun w h' _ => w = .int f ∧ h' = h) := by
  refine own_met_3_0 (M := M_ocf) pn_ocf rfl (by first | rfl | exact own_cat (by assumption)) (by first | rfl | exact own_cat (by assumption)) (by first | rfl | exact own_cat (by assumption)) ?_
  refine own_iload_n (pc' := 1) rfl d_ocf_0 rfl ?_
  refine own_iload_n (pc' := 2) rfl d_ocf_1 rfl ?_
  refine own_iload_n (pc' := 3) rfl d_ocf_2 rfl ?_
  refine own_aconst_null (pc' := 4) rfl d_ocf_3 ?_
  refine own_static4v (M' := M_pft) d_ocf_4 (pc' := 7) rfl (tw_64 hw) (tw_65 hw) (tw_66 hw) (tw_67 hw) (by decide) rfl (own_lenOf pd_16 rfl) rfl rfl rfl rfl (c_pft K a0 hw .null rfl f t n h h0 h1 h2) (by simp) ?_
  rintro w h3 xs ⟨rfl, rfl⟩
  refine own_ireturn rfl d_ocf_7 rfl rfl ?_
  exact ⟨rfl, rfl⟩
theorem d_tin_0 : decode prog_64_method_1_code 0 = .ok (.aload_n 0, 1) := by decide +kernel
theorem d_tin_1 : decode prog_64_method_1_code 1 = .ok (.invokespecial 1, 3) := by decide +kernel
theorem d_tin_4 : decode prog_64_method_1_code 4 = .ok (.iload_n 2, 1) := by decide +kernel
theorem d_tin_5 : decode prog_64_method_1_code 5 = .ok (.iload_n 3, 1) := by decide +kernel
theorem d_tin_6 : decode prog_64_method_1_code 6 = .ok (.aload_n 1, 1) := by decide +kernel
theorem d_tin_7 : decode prog_64_method_1_code 7 = .ok (.invokevirtual 7, 3) := by decide +kernel
theorem d_tin_10 : decode prog_64_method_1_code 10 = .ok (.invokestatic 13, 3) := by decide +kernel
theorem d_tin_13 : decode prog_64_method_1_code 13 = .ok (.pop, 1) := by decide +kernel
theorem d_tin_14 : decode prog_64_method_1_code 14 = .ok (.aload_n 0, 1) := by decide +kernel
theorem d_tin_15 : decode prog_64_method_1_code 15 = .ok (.aload_n 1, 1) := by decide +kernel
theorem d_tin_16 : decode prog_64_method_1_code 16 = .ok (.putfield 19, 3) := by decide +kernel
theorem d_tin_19 : decode prog_64_method_1_code 19 = .ok (.aload_n 0, 1) := by decide +kernel
theorem d_tin_20 : decode prog_64_method_1_code 20 = .ok (.iload_n 2, 1) := by decide +kernel
theorem d_tin_21 : decode prog_64_method_1_code 21 = .ok (.putfield 25, 3) := by decide +kernel
theorem d_tin_24 : decode prog_64_method_1_code 24 = .ok (.aload_n 0, 1) := by decide +kernel
theorem d_tin_25 : decode prog_64_method_1_code 25 = .ok (.iload_n 3, 1) := by decide +kernel
theorem d_tin_26 : decode prog_64_method_1_code 26 = .ok (.putfield 29, 3) := by decide +kernel
theorem d_tin_29 : decode prog_64_method_1_code 29 = .ok (.return_, 1) := by decide +kernel
abbrev M_tin : own_Mi := ((⟨"com/example/macroweave/macroweave/Text", "<init>", "(Ljava/lang/String;II)V"⟩ : MethodName), prog_64_method_1_code, 4, (Option.none : Option FieldType), ({ frames := 2, cells := 0, slots := 0, locals := 29 } : Room))
theorem pn_tin : plainFor (own_Mi.y M_tin) = true := plainFor_of_name (by first | (simp [plainName, overriddenIn]; done) | decide +kernel)
set_option maxRecDepth 65536 in
set_option maxHeartbeats 40000000 in
theorem c_tin (K : own_Cx) (a0 : Array Value) (hw : ∀ d ∈ tables_1, d.before a0 K.Z = true) (g : Int32) (SC : Sta K.Z K.Z.heap own_sC "COMPACT_STRINGS" "Z" (.int g)) (hg : ¬ g = 0) (t x : Addr) (s e : Int32) (cs : List Int32) (h : Heap) (S : own_Str K.Z h x cs) (h0 : 0 ≤ s.toInt) (h1 : s.toInt ≤ e.toInt) (h2 : e.toInt ≤ cs.length) (E : Exa K.Z h t own_tC) (F1 : Fld K.Z h t own_tC "string" own_sD .null) (F2 : Fld K.Z h t own_tC "start" "I" (.int 0)) (F3 : Fld K.Z h t own_tC "end" "I" (.int 0)) :
    own_Met K M_tin #[.ref t, .ref x, .int s, .int e] [t] h (own_void fun h' _ => Keep h h' [t] ∧ own_Txt K.Z h' t x s e) := by
  have L1 : Laid K.Z a0 own_tC own_tC "string" own_sD := Or.inr (tw_69 hw)
  have L2 : Laid K.Z a0 own_tC own_tC "start" "I" := Or.inr (tw_71 hw)
  have L3 : Laid K.Z a0 own_tC own_tC "end" "I" := Or.inr (tw_73 hw)
  have s12 := slot_ne L1 L2 (by decide) (t := .object "java/lang/String") (t' := .int) (by decide) (by decide)
  have s13 := slot_ne L1 L3 (by decide) (t := .object "java/lang/String") (t' := .int) (by decide) (by decide)
  have s23 := slot_ne L2 L3 (by decide) (t := .int) (t' := .int) (by decide) (by decide)
  have hl := S.2.2.1
  have hn : (cs.length.toInt32).toInt = cs.length := own_lit _ (by omega)
  refine own_met_4_0 (M := M_tin) pn_tin rfl (by first | rfl | exact own_cat (by assumption)) (by first | rfl | exact own_cat (by assumption)) (by first | rfl | exact own_cat (by assumption)) (by first | rfl | exact own_cat (by assumption)) ?_
  refine own_aload_n (pc' := 1) rfl d_tin_0 rfl (by first | rfl | assumption) ?_
  refine own_special0n (M' := M_rec) d_tin_1 (pc' := 4) rfl rfl rfl (tw_44 hw) (tw_45 hw) (tw_47 hw) (tw_48 hw) (by decide) rfl (own_lenOf pd_18 rfl) rfl rfl rfl rfl (c_rec K a0 hw t h) (by simp) ?_
  rintro h1 xs1 rfl
  refine own_iload_n (pc' := 5) rfl d_tin_4 rfl ?_
  refine own_iload_n (pc' := 6) rfl d_tin_5 rfl ?_
  refine own_aload_n (pc' := 7) rfl d_tin_6 rfl (by first | rfl | assumption) ?_
  refine own_virtual0v (M' := M_sl) d_tin_7 (pc' := 10) rfl (tw_50 hw) (tw_51 hw) (tw_53 hw) (tw_52 hw) (tw_3 hw) (tw_54 hw) (by decide) rfl (own_lenOf pd_19 rfl) rfl rfl rfl rfl S.1 (c_sl K a0 hw g SC hg x cs h1 S) (by simp) ?_
  rintro w h2 xs2 ⟨rfl, rfl⟩
  refine own_static3v (M' := M_ocf) d_tin_10 (pc' := 13) rfl (tw_60 hw) (tw_61 hw) (tw_62 hw) (tw_63 hw) (by decide) rfl (own_lenOf pd_17 rfl) rfl rfl rfl rfl (c_ocf K a0 hw s e _ h2 h0 (by omega) (by omega)) (by simp) ?_
  rintro w h3 xs3 ⟨rfl, rfl⟩
  refine own_pop (pc' := 14) rfl d_tin_13 (by first | rfl | assumption) ?_
  refine own_aload_n (pc' := 15) rfl d_tin_14 rfl (by first | rfl | assumption) ?_
  refine own_aload_n (pc' := 16) rfl d_tin_15 rfl (by first | rfl | assumption) ?_
  refine own_putF (pc' := 19) rfl d_tin_16 (tw_68 hw) Via.refl (Or.inr ⟨(tw_69 hw), rfl, rfl⟩) (tw_39 hw) (ty := (.object "java/lang/String")) (by decide) rfl rfl F1 (by assumption) (by simp) ?_
  intro h4 W4
  have E4 := E.wr W4
  refine own_aload_n (pc' := 20) rfl d_tin_19 rfl (by first | rfl | assumption) ?_
  refine own_iload_n (pc' := 21) rfl d_tin_20 rfl ?_
  refine own_putF (pc' := 24) rfl d_tin_21 (tw_70 hw) Via.refl (Or.inr ⟨(tw_71 hw), rfl, rfl⟩) (tw_39 hw) (ty := .int) (by decide) rfl rfl (F2.other W4 (Or.inr (Ne.symm s12))) (by assumption) (by simp) ?_
  intro h5 W5
  have E5 := E4.wr W5
  refine own_aload_n (pc' := 25) rfl d_tin_24 rfl (by first | rfl | assumption) ?_
  refine own_iload_n (pc' := 26) rfl d_tin_25 rfl ?_
  refine own_putF (pc' := 29) rfl d_tin_26 (tw_72 hw) Via.refl (Or.inr ⟨(tw_73 hw), rfl, rfl⟩) (tw_39 hw) (ty := .int) (by decide) rfl rfl ((F3.other W4 (Or.inr (Ne.symm s13))).other W5 (Or.inr (Ne.symm s23))) (by assumption) (by simp) ?_
  intro h6 W6
  refine own_return rfl d_tin_29 rfl rfl ?_
  exact ⟨(((Keep.of_wr W4).wr W5 (Or.inl (List.mem_singleton.mpr rfl))).wr W6 (Or.inl (List.mem_singleton.mpr rfl))), E5.wr W6, ((F1.same W4).other W5 (Or.inr s12)).other W6 (Or.inr s13), ((F2.other W4 (Or.inr (Ne.symm s12))).same W5).other W6 (Or.inr s23), ((F3.other W4 (Or.inr (Ne.symm s13))).other W5 (Or.inr (Ne.symm s23))).same W6⟩
theorem own_cut_len {cs : List Int32} {F N : Nat} (h : F + N ≤ cs.length) : ((cs.drop F).take N).length = N := by rw [List.length_take, List.length_drop]; omega
theorem own_cut_get {cs : List Int32} {F N i : Nat} {c : Int32} (hc : ((cs.drop F).take N)[i]? = some c) : cs[F + i]? = some c := by
  have hi : i < ((cs.drop F).take N).length := (List.getElem?_eq_some_iff.mp hc).1
  rw [List.length_take] at hi
  rw [List.getElem?_take_of_lt (by omega), List.getElem?_drop] at hc
  exact hc
theorem d_ub5_0 : decode jdk_52_method_22_code 0 = .ok (.iload_n 1, 1) := by decide +kernel
theorem d_ub5_1 : decode jdk_52_method_22_code 1 = .ok (.iload 4, 2) := by decide +kernel
theorem d_ub5_3 : decode jdk_52_method_22_code 3 = .ok (.aload_n 0, 1) := by decide +kernel
theorem d_ub5_4 : decode jdk_52_method_22_code 4 = .ok (.invokestatic 173, 3) := by decide +kernel
theorem d_ub5_7 : decode jdk_52_method_22_code 7 = .ok (.iconst 0, 1) := by decide +kernel
theorem d_ub5_8 : decode jdk_52_method_22_code 8 = .ok (.istore 5, 2) := by decide +kernel
theorem d_ub5_10 : decode jdk_52_method_22_code 10 = .ok (.iload 5, 2) := by decide +kernel
theorem d_ub5_12 : decode jdk_52_method_22_code 12 = .ok (.iload 4, 2) := by decide +kernel
theorem d_ub5_14 : decode jdk_52_method_22_code 14 = .ok (.if_icmp .ge 39, 3) := by decide +kernel
theorem d_ub5_17 : decode jdk_52_method_22_code 17 = .ok (.aload_n 0, 1) := by decide +kernel
theorem d_ub5_18 : decode jdk_52_method_22_code 18 = .ok (.iload_n 1, 1) := by decide +kernel
theorem d_ub5_19 : decode jdk_52_method_22_code 19 = .ok (.invokestatic 71, 3) := by decide +kernel
theorem d_ub5_22 : decode jdk_52_method_22_code 22 = .ok (.istore 6, 2) := by decide +kernel
theorem d_ub5_24 : decode jdk_52_method_22_code 24 = .ok (.iload 6, 2) := by decide +kernel
theorem d_ub5_26 : decode jdk_52_method_22_code 26 = .ok (.sipush 255, 3) := by decide +kernel
theorem d_ub5_29 : decode jdk_52_method_22_code 29 = .ok (.if_icmp .le 6, 3) := by decide +kernel
theorem d_ub5_32 : decode jdk_52_method_22_code 32 = .ok (.iload 5, 2) := by decide +kernel
theorem d_ub5_34 : decode jdk_52_method_22_code 34 = .ok (.ireturn, 1) := by decide +kernel
theorem d_ub5_35 : decode jdk_52_method_22_code 35 = .ok (.aload_n 2, 1) := by decide +kernel
theorem d_ub5_36 : decode jdk_52_method_22_code 36 = .ok (.iload_n 3, 1) := by decide +kernel
theorem d_ub5_37 : decode jdk_52_method_22_code 37 = .ok (.iload 6, 2) := by decide +kernel
theorem d_ub5_39 : decode jdk_52_method_22_code 39 = .ok (.i2b, 1) := by decide +kernel
theorem d_ub5_40 : decode jdk_52_method_22_code 40 = .ok (.bastore, 1) := by decide +kernel
theorem d_ub5_41 : decode jdk_52_method_22_code 41 = .ok (.iinc 1 1, 3) := by decide +kernel
theorem d_ub5_44 : decode jdk_52_method_22_code 44 = .ok (.iinc 3 1, 3) := by decide +kernel
theorem d_ub5_47 : decode jdk_52_method_22_code 47 = .ok (.iinc 5 1, 3) := by decide +kernel
theorem d_ub5_50 : decode jdk_52_method_22_code 50 = .ok (.goto (-40), 3) := by decide +kernel
theorem d_ub5_53 : decode jdk_52_method_22_code 53 = .ok (.iload 4, 2) := by decide +kernel
theorem d_ub5_55 : decode jdk_52_method_22_code 55 = .ok (.ireturn, 1) := by decide +kernel
abbrev M_ub5 : own_Mi := ((⟨"java/lang/StringUTF16", "compress", "([BI[BII)I"⟩ : MethodName), jdk_52_method_22_code, 7, (Option.some FieldType.int), ({ frames := 3, cells := 0, slots := 0, locals := 43 } : Room))
theorem pn_ub5 : plainFor (own_Mi.y M_ub5) = true := plainFor_of_name (by first | (simp [plainName, overriddenIn]; done) | decide +kernel)
set_option maxRecDepth 65536 in
set_option maxHeartbeats 40000000 in
theorem c_ub5 (K : own_Cx) (a0 : Array Value) (hw : ∀ d ∈ tables_1, d.before a0 K.Z = true) (hU : own_U16 K) (rf : Value) (hrf : rf.isRef = true) (SF : Sta K.Z K.Z.heap "jdk/internal/util/Preconditions" "SIOOBE_FORMATTER" "Ljava/util/function/BiFunction;" rf) (a b : Addr) (f n : Int32) (F N : Nat) (cs seg : List Int32) (h : Heap) (hseg : seg = (cs.drop F).take N) (hf : f.toInt = F) (hn : n.toInt = N) (hFN : F + N ≤ cs.length) (hl : cs.length < 2 ^ 20) (hcs : own_Chs cs) (A : own_Ary K.Z h a .byte (own_ints (own_two cs))) (Bq : own_Ary K.Z h b .byte (List.replicate N (.int 0))) (hab : a ≠ b) :
    own_Met K M_ub5 #[.ref a, .int f, .ref b, .int 0, .int n] [b] h (Q_cp5 K b n seg h) := by
  have v1 : (1 : Int32).toInt = 1 := rfl
  have v255 : (255 : Int32).toInt = 255 := rfl
  have hsl : seg.length = N := by rw [hseg]; exact own_cut_len hFN
  have hsg : ∀ {i : Nat} {c : Int32}, seg[i]? = some c → cs[F + i]? = some c := fun q => own_cut_get (by rw [hseg] at q; exact q)
  refine own_met_5_2 (M := M_ub5) pn_ub5 rfl (by first | rfl | exact own_cat (by assumption)) (by first | rfl | exact own_cat (by assumption)) (by first | rfl | exact own_cat (by assumption)) (by first | rfl | exact own_cat (by assumption)) (by first | rfl | exact own_cat (by assumption)) ?_
  refine own_iload_n (pc' := 1) rfl d_ub5_0 rfl ?_
  refine own_iload (pc' := 3) rfl d_ub5_1 rfl ?_
  refine own_aload_n (pc' := 4) rfl d_ub5_3 rfl (by first | rfl | assumption) ?_
  refine own_static3n (M' := M_ubo) d_ub5_4 (pc' := 7) rfl (tw_166 hw) (tw_167 hw) (tw_17 hw) (tw_168 hw) (by decide) rfl (own_lenOf pd_20 rfl) rfl rfl rfl rfl (c_ubo K a0 hw rf hrf SF a _ cs.length f n h (by simp [own_two_len]) (by omega) A (by omega) (by omega) (by omega)) (by simp) ?_
  rintro h1 xs1 rfl
  refine own_iconst (v := (0 : Int32)) (pc' := 8) rfl d_ub5_7 rfl ?_
  refine own_istore_5 (pc' := 10) rfl d_ub5_8 (by first | exact One.u | exact One.val rfl | assumption | exact One.val (by assumption)) ?_
  suffices key : ∀ (k i : Nat) (j p : Int32) (h2 : Heap) (o : Slot) (sf : List Addr), i + k = N → j.toInt = i → p.toInt = ((F + i : Nat) : Int) → One o → b ∈ sf → Keep h1 h2 [b] → own_lat (seg.take i) = true → own_Ary K.Z h2 b .byte (own_ints ((seg.take i).map own_bt) ++ List.replicate k (.int 0)) → own_WP K M_ub5 (Q_cp5 K b n seg h1) 10 [.val (.ref a), .val (.int p), .val (.ref b), .val (.int j), .val (.int n), .val (.int j), o] [] sf h2 0 0 from
    own_weak (key N 0 0 f h1 .unset _ (by simp) rfl (by rw [hf]; rfl) One.u (by simp) (Keep.refl _ _) (by simp [own_lat]) (by simpa using Bq)) (fun x hx => hx) (by exact Nat.le_of_ble_eq_true rfl) (by exact Nat.le_of_ble_eq_true rfl)
  intro k
  induction k with
  | zero =>
    intro i j p h2 o sf hik hj hp ho hbs hk hl2 hA
    refine own_iload (pc' := 12) rfl d_ub5_10 rfl ?_
    refine own_iload (pc' := 14) rfl d_ub5_12 rfl ?_
    refine own_icmpge (pcT := 53) (pcF := 17) d_ub5_14 (by decide) (by decide) rfl (fun q => ?_) (fun q => ?_)
    · skip
      refine own_iload (pc' := 55) rfl d_ub5_53 rfl ?_
      refine own_ireturn rfl d_ub5_55 rfl rfl ?_
      have e : seg.take i = seg := List.take_of_length_le (by omega)
      rw [e] at hl2 hA
      exact ⟨n, rfl, hk, Or.inl ⟨hl2, rfl, by simpa using hA⟩⟩
    · rw [Int32.lt_iff_toInt_lt] at q
      omega
  | succ k ih =>
    intro i j p h2 o sf hik hj hp ho hbs hk hl2 hA
    have hi : i < seg.length := by omega
    obtain ⟨c, hc⟩ : ∃ c, seg[i]? = some c := ⟨seg[i], by simp [hi]⟩
    refine own_iload (pc' := 12) rfl d_ub5_10 rfl ?_
    refine own_iload (pc' := 14) rfl d_ub5_12 rfl ?_
    refine own_icmpge (pcT := 53) (pcF := 17) d_ub5_14 (by decide) (by decide) rfl (fun q => ?_) (fun q => ?_)
    · exact absurd (by rw [Int32.lt_iff_toInt_lt]; omega) q
    refine own_aload_n (pc' := 18) rfl d_ub5_17 rfl (by first | rfl | assumption) ?_
    refine own_iload_n (pc' := 19) rfl d_ub5_18 rfl ?_
    refine own_static2v (M' := M_gc) d_ub5_19 (pc' := 22) rfl (tw_153 hw) (tw_154 hw) (tw_17 hw) (tw_155 hw) (by decide) rfl (own_lenOf pd_5 rfl) rfl rfl rfl rfl (c_gc K a0 hw hU a p (F + i) c cs h2 hp (hsg hc) (by omega) hcs (A.keep hk (ninS hab nin0))) (by simp) ?_
    rintro w h3 xs3 ⟨rfl, rfl⟩
    refine own_istore_6 (pc' := 24) rfl d_ub5_22 (by first | exact One.u | exact One.val rfl | assumption | exact One.val (by assumption)) ?_
    refine own_iload (pc' := 26) rfl d_ub5_24 rfl ?_
    refine own_sipush (v := (255 : Int32)) (pc' := 29) rfl d_ub5_26 rfl ?_
    refine own_icmple (pcT := 35) (pcF := 32) d_ub5_29 (by decide) (by decide) rfl (fun q2 => ?_) (fun q2 => ?_)
    · have hc2 : c.toInt < 256 := by
        rw [Int32.lt_iff_toInt_lt] at q2
        omega
      refine own_aload_n (pc' := 36) rfl d_ub5_35 rfl (by first | rfl | assumption) ?_
      refine own_iload_n (pc' := 37) rfl d_ub5_36 rfl ?_
      refine own_iload (pc' := 39) rfl d_ub5_37 rfl ?_
      refine own_i2b (pc' := 40) rfl d_ub5_39 ?_
      refine own_bastore (pc' := 41) rfl d_ub5_40 hA (i := i) hj (by simp; omega) (own_bt_nar c) (by simp [hbs]) ?_
      intro h4 k4 hA4
      refine own_iinc_1 (z := (1 : Int32)) (pc' := 44) rfl d_ub5_41 rfl ?_
      refine own_iinc_3 (z := (1 : Int32)) (pc' := 47) rfl d_ub5_44 rfl ?_
      refine own_iinc_5 (z := (1 : Int32)) (pc' := 50) rfl d_ub5_47 rfl ?_
      refine own_goto (pc' := 10) d_ub5_50 (by decide) (by decide) ?_
      have e1 : i = (own_ints ((seg.take i).map own_bt)).length := by simp; omega
      have e2 : own_ints ((seg.take (i + 1)).map own_bt) = own_ints ((seg.take i).map own_bt) ++ [.int (own_bt c)] := by
        have e : seg.take (i + 1) = seg.take i ++ [c] := by rw [List.take_add_one, hc]; rfl
        rw [e]; simp [own_ints]
      refine own_weak (ih (i + 1) (j + 1) (p + 1) h4 _ _ (by omega) (by rw [own_add hj v1] <;> omega) (by rw [own_add hp v1] <;> omega) (One.val rfl) (by simp [hbs]) (hk.trans k4 (fun x hx => Or.inl hx)) (own_lat_snoc hc hl2 hc2) ?_) (fun x hx => hx) (by exact Nat.le_of_ble_eq_true rfl) (by exact Nat.le_of_ble_eq_true rfl)
      rw [e2, ← own_setmid, ← e1]
      exact hA4
    · skip
      refine own_iload (pc' := 34) rfl d_ub5_32 rfl ?_
      refine own_ireturn rfl d_ub5_34 rfl rfl ?_
      have hc2 : 256 ≤ c.toInt := by
        rw [Int32.lt_iff_toInt_lt] at q2
        omega
      exact ⟨j, rfl, hk, Or.inr ⟨own_lat_no hc (by omega), i, c, hj, hc, hc2⟩⟩
theorem d_ub3_0 : decode jdk_52_method_17_code 0 = .ok (.iload_n 2, 1) := by decide +kernel
theorem d_ub3_1 : decode jdk_52_method_17_code 1 = .ok (.newarray .byte, 2) := by decide +kernel
theorem d_ub3_3 : decode jdk_52_method_17_code 3 = .ok (.astore_n 3, 1) := by decide +kernel
theorem d_ub3_4 : decode jdk_52_method_17_code 4 = .ok (.aload_n 0, 1) := by decide +kernel
theorem d_ub3_5 : decode jdk_52_method_17_code 5 = .ok (.iload_n 1, 1) := by decide +kernel
theorem d_ub3_6 : decode jdk_52_method_17_code 6 = .ok (.aload_n 3, 1) := by decide +kernel
theorem d_ub3_7 : decode jdk_52_method_17_code 7 = .ok (.iconst 0, 1) := by decide +kernel
theorem d_ub3_8 : decode jdk_52_method_17_code 8 = .ok (.iload_n 2, 1) := by decide +kernel
theorem d_ub3_9 : decode jdk_52_method_17_code 9 = .ok (.invokestatic 123, 3) := by decide +kernel
theorem d_ub3_12 : decode jdk_52_method_17_code 12 = .ok (.istore 4, 2) := by decide +kernel
theorem d_ub3_14 : decode jdk_52_method_17_code 14 = .ok (.iload 4, 2) := by decide +kernel
theorem d_ub3_16 : decode jdk_52_method_17_code 16 = .ok (.iload_n 2, 1) := by decide +kernel
theorem d_ub3_17 : decode jdk_52_method_17_code 17 = .ok (.if_icmp .eq 47, 3) := by decide +kernel
theorem d_ub3_20 : decode jdk_52_method_17_code 20 = .ok (.aload_n 0, 1) := by decide +kernel
theorem d_ub3_21 : decode jdk_52_method_17_code 21 = .ok (.iload_n 1, 1) := by decide +kernel
theorem d_ub3_22 : decode jdk_52_method_17_code 22 = .ok (.iconst 1, 1) := by decide +kernel
theorem d_ub3_23 : decode jdk_52_method_17_code 23 = .ok (.ishl, 1) := by decide +kernel
theorem d_ub3_24 : decode jdk_52_method_17_code 24 = .ok (.iload_n 1, 1) := by decide +kernel
theorem d_ub3_25 : decode jdk_52_method_17_code 25 = .ok (.iload_n 2, 1) := by decide +kernel
theorem d_ub3_26 : decode jdk_52_method_17_code 26 = .ok (.iadd, 1) := by decide +kernel
theorem d_ub3_27 : decode jdk_52_method_17_code 27 = .ok (.invokestatic 11, 3) := by decide +kernel
theorem d_ub3_30 : decode jdk_52_method_17_code 30 = .ok (.invokestatic 126, 3) := by decide +kernel
theorem d_ub3_33 : decode jdk_52_method_17_code 33 = .ok (.astore 5, 2) := by decide +kernel
theorem d_ub3_35 : decode jdk_52_method_17_code 35 = .ok (.aload 5, 2) := by decide +kernel
theorem d_ub3_37 : decode jdk_52_method_17_code 37 = .ok (.iload 4, 2) := by decide +kernel
theorem d_ub3_39 : decode jdk_52_method_17_code 39 = .ok (.invokestatic 71, 3) := by decide +kernel
theorem d_ub3_42 : decode jdk_52_method_17_code 42 = .ok (.sipush 255, 3) := by decide +kernel
theorem d_ub3_45 : decode jdk_52_method_17_code 45 = .ok (.if_icmp .gt 16, 3) := by decide +kernel
theorem d_ub3_61 : decode jdk_52_method_17_code 61 = .ok (.aload 5, 2) := by decide +kernel
theorem d_ub3_63 : decode jdk_52_method_17_code 63 = .ok (.areturn, 1) := by decide +kernel
theorem d_ub3_64 : decode jdk_52_method_17_code 64 = .ok (.aload_n 3, 1) := by decide +kernel
theorem d_ub3_65 : decode jdk_52_method_17_code 65 = .ok (.areturn, 1) := by decide +kernel
abbrev M_ub3 : own_Mi := ((⟨"java/lang/StringUTF16", "compress", "([BII)[B"⟩ : MethodName), jdk_52_method_17_code, 6, (Option.some (FieldType.array FieldType.byte)), ({ frames := 4, cells := 2, slots := 12, locals := 72 } : Room))
theorem pn_ub3 : plainFor (own_Mi.y M_ub3) = true := plainFor_of_name (by first | (simp [plainName, overriddenIn]; done) | decide +kernel)
set_option maxRecDepth 65536 in
set_option maxHeartbeats 40000000 in
theorem c_ub3 (K : own_Cx) (a0 : Array Value) (hw : ∀ d ∈ tables_1, d.before a0 K.Z = true) (hU : own_U16 K) (rf : Value) (hrf : rf.isRef = true) (SF : Sta K.Z K.Z.heap "jdk/internal/util/Preconditions" "SIOOBE_FORMATTER" "Ljava/util/function/BiFunction;" rf) (a : Addr) (f n : Int32) (F N : Nat) (cs seg : List Int32) (h : Heap) (hseg : seg = (cs.drop F).take N) (hf : f.toInt = F) (hn : n.toInt = N) (hFN : F + N ≤ cs.length) (hne : F = 0 → N ≠ cs.length) (hl : cs.length ≤ 4) (hcs : own_Chs cs) (A : own_Ary K.Z h a .byte (own_ints (own_two cs))) :
    own_Met K M_ub3 #[.ref a, .int f, .int n] [] h (own_ret fun w h' _ => ∃ b : Addr, w = .ref b ∧ Ext h h' ∧ h.size ≤ b ∧ own_Ary K.Z h' b .byte (own_ints (own_enc seg))) := by
  have hsl : seg.length = N := by rw [hseg]; exact own_cut_len hFN
  have hsc : own_Chs seg := by rw [hseg]; exact own_chs_cut hcs F N
  refine own_met_3_3 (M := M_ub3) pn_ub3 rfl (by first | rfl | exact own_cat (by assumption)) (by first | rfl | exact own_cat (by assumption)) (by first | rfl | exact own_cat (by assumption)) ?_
  refine own_iload_n (pc' := 1) rfl d_ub3_0 rfl ?_
  refine own_newarray (pc' := 3) rfl d_ub3_1 (tw_19 hw) (N := N) (cap := 4) hn (by omega) rfl rfl rfl ?_
  intro b h1 eb E1 B1
  have hab : a ≠ b := by show @Ne Nat a b; have : @LT.lt Nat _ _ _ := A.lt; omega
  refine own_astore_n3 (pc' := 4) rfl d_ub3_3 (by first | exact One.u | exact One.val rfl | assumption | exact One.val (by assumption)) (by first | rfl | assumption) ?_
  refine own_aload_n (pc' := 5) rfl d_ub3_4 rfl (by first | rfl | assumption) ?_
  refine own_iload_n (pc' := 6) rfl d_ub3_5 rfl ?_
  refine own_aload_n (pc' := 7) rfl d_ub3_6 rfl (by first | rfl | assumption) ?_
  refine own_iconst (v := (0 : Int32)) (pc' := 8) rfl d_ub3_7 rfl ?_
  refine own_iload_n (pc' := 9) rfl d_ub3_8 rfl ?_
  refine own_static5v (M' := M_ub5) d_ub3_9 (pc' := 12) rfl (tw_163 hw) (tw_164 hw) (tw_17 hw) (tw_165 hw) (by decide) rfl (own_lenOf pd_21 rfl) rfl rfl rfl rfl (c_ub5 K a0 hw hU rf hrf SF a b f n F N cs seg h1 hseg hf hn hFN (by omega) hcs (A.ext E1) B1 hab) (by simp) ?_
  rintro w h2 xs ⟨r, rfl, k2, q⟩
  have E2 := own_ext_keep E1 k2 (by intro x hx; cases List.mem_singleton.mp hx; omega)
  refine own_istore_4 (pc' := 14) rfl d_ub3_12 (by first | exact One.u | exact One.val rfl | assumption | exact One.val (by assumption)) ?_
  refine own_iload (pc' := 16) rfl d_ub3_14 rfl ?_
  refine own_iload_n (pc' := 17) rfl d_ub3_16 rfl ?_
  refine own_icmpeq (pcT := 64) (pcF := 20) d_ub3_17 (by decide) (by decide) rfl (fun z => ?_) (fun z => ?_)
  · rcases q with ⟨q1, q2, q3⟩ | ⟨q1, i, c, q2, q3, q4⟩
    · skip
      refine own_aload_n (pc' := 65) rfl d_ub3_64 rfl (by first | rfl | assumption) ?_
      refine own_areturn rfl rfl (by first | rfl | assumption) d_ub3_65 rfl rfl ?_
      exact ⟨b, rfl, E2, by omega, by rw [(own_enc_lat q1).1]; exact q3⟩
    · have := (List.getElem?_eq_some_iff.mp q3).1
      rw [z] at q2
      omega
  rcases q with ⟨q1, q2, q3⟩ | ⟨q1, i, c, q2, q3, q4⟩
  · exact absurd q2 z
  have hil := (List.getElem?_eq_some_iff.mp q3).1
  have hfn : (f + n).toInt = ((F + N : Nat) : Int) := by rw [own_add hf hn] <;> omega
  have sf2 := own_shl1 hf (by omega)
  refine own_aload_n (pc' := 21) rfl d_ub3_20 rfl (by first | rfl | assumption) ?_
  refine own_iload_n (pc' := 22) rfl d_ub3_21 rfl ?_
  refine own_iconst (v := (1 : Int32)) (pc' := 23) rfl d_ub3_22 rfl ?_
  refine own_ishl (pc' := 24) rfl d_ub3_23 ?_
  refine own_iload_n (pc' := 25) rfl d_ub3_24 rfl ?_
  refine own_iload_n (pc' := 26) rfl d_ub3_25 rfl ?_
  refine own_iadd (pc' := 27) rfl d_ub3_26 ?_
  refine own_static1v (M' := M_nbl) d_ub3_27 (pc' := 30) rfl (tw_143 hw) (tw_144 hw) (tw_17 hw) (tw_145 hw) (by decide) rfl (own_lenOf pd_0 rfl) rfl rfl rfl rfl (c_nbl K a0 hw (f + n) (F + N) h2 hfn (by omega)) (by simp) ?_
  rintro w h3 xs3 ⟨r3, rfl, hr3, rfl⟩
  refine own_static3v (M' := M_cor) d_ub3_30 (pc' := 33) rfl (tw_178 hw) (tw_101 hw) (tw_102 hw) (tw_103 hw) (by decide) rfl (own_lenOf pd_15 rfl) rfl rfl rfl rfl (c_cor K a0 hw a _ _ (2 * F) (2 * (F + N)) _ h3 sf2 hr3 (by omega) (by simp [own_two_len]; omega) (fun z => by have z2 := hne (by omega); simp [own_two_len]; omega) (by omega) (own_Bys.two cs) (A.ext E2)) (by simp) ?_
  rintro w h4 xs4 ⟨b4, rfl, E4, hb4, hx4, B4⟩
  have e1 : ((own_ints (own_two cs)).drop (2 * F)).take (2 * (F + N) - 2 * F) = own_ints (own_two seg) := by
    rw [show 2 * (F + N) - 2 * F = 2 * N by omega, hseg, ← own_two_cut]; simp [own_ints, List.map_drop, List.map_take]
  rw [e1] at B4
  refine own_astore_5 (pc' := 35) rfl d_ub3_33 (by first | exact One.u | exact One.val rfl | assumption | exact One.val (by assumption)) (by first | rfl | assumption) ?_
  refine own_aload (pc' := 37) rfl d_ub3_35 rfl (by first | rfl | assumption) ?_
  refine own_iload (pc' := 39) rfl d_ub3_37 rfl ?_
  refine own_static2v (M' := M_gc) d_ub3_39 (pc' := 42) rfl (tw_153 hw) (tw_154 hw) (tw_17 hw) (tw_155 hw) (by decide) rfl (own_lenOf pd_5 rfl) rfl rfl rfl rfl (c_gc K a0 hw hU b4 r i c seg h4 q2 q3 (by omega) hsc B4) (by simp) ?_
  rintro w h5 xs5 ⟨rfl, rfl⟩
  refine own_sipush (v := (255 : Int32)) (pc' := 45) rfl d_ub3_42 rfl ?_
  refine own_icmpgt (pcT := 61) (pcF := 48) d_ub3_45 (by decide) (by decide) rfl (fun z2 => ?_) (fun z2 => ?_)
  · skip
    refine own_aload (pc' := 63) rfl d_ub3_61 rfl (by first | rfl | assumption) ?_
    refine own_areturn rfl rfl (by first | rfl | assumption) d_ub3_63 rfl rfl ?_
    exact ⟨b4, rfl, own_ext_trans E2 E4, by have := E2.1; omega, by rw [(own_enc_utf q1).1]; exact B4⟩
  · exfalso
    rw [Int32.lt_iff_toInt_lt] at z2
    have : (255 : Int32).toInt = 255 := rfl
    omega
theorem d_uns_0 : decode jdk_52_method_69_code 0 = .ok (.iload_n 2, 1) := by decide +kernel
theorem d_uns_1 : decode jdk_52_method_69_code 1 = .ok (.ifCond .ne 7, 3) := by decide +kernel
theorem d_uns_4 : decode jdk_52_method_69_code 4 = .ok (.ldc_w 295, 3) := by decide +kernel
theorem d_uns_7 : decode jdk_52_method_69_code 7 = .ok (.areturn, 1) := by decide +kernel
theorem d_uns_8 : decode jdk_52_method_69_code 8 = .ok (.getstatic 251, 3) := by decide +kernel
theorem d_uns_11 : decode jdk_52_method_69_code 11 = .ok (.ifCond .eq 28, 3) := by decide +kernel
theorem d_uns_14 : decode jdk_52_method_69_code 14 = .ok (.aload_n 0, 1) := by decide +kernel
theorem d_uns_15 : decode jdk_52_method_69_code 15 = .ok (.iload_n 1, 1) := by decide +kernel
theorem d_uns_16 : decode jdk_52_method_69_code 16 = .ok (.iload_n 2, 1) := by decide +kernel
theorem d_uns_17 : decode jdk_52_method_69_code 17 = .ok (.invokestatic 257, 3) := by decide +kernel
theorem d_uns_20 : decode jdk_52_method_69_code 20 = .ok (.astore_n 3, 1) := by decide +kernel
theorem d_uns_21 : decode jdk_52_method_69_code 21 = .ok (.aload_n 3, 1) := by decide +kernel
theorem d_uns_22 : decode jdk_52_method_69_code 22 = .ok (.iload_n 2, 1) := by decide +kernel
theorem d_uns_23 : decode jdk_52_method_69_code 23 = .ok (.invokestatic 259, 3) := by decide +kernel
theorem d_uns_26 : decode jdk_52_method_69_code 26 = .ok (.istore 4, 2) := by decide +kernel
theorem d_uns_28 : decode jdk_52_method_69_code 28 = .ok (.new 3, 3) := by decide +kernel
theorem d_uns_31 : decode jdk_52_method_69_code 31 = .ok (.dup, 1) := by decide +kernel
theorem d_uns_32 : decode jdk_52_method_69_code 32 = .ok (.aload_n 3, 1) := by decide +kernel
theorem d_uns_33 : decode jdk_52_method_69_code 33 = .ok (.iload 4, 2) := by decide +kernel
theorem d_uns_35 : decode jdk_52_method_69_code 35 = .ok (.invokespecial 263, 3) := by decide +kernel
theorem d_uns_38 : decode jdk_52_method_69_code 38 = .ok (.areturn, 1) := by decide +kernel
abbrev M_uns : own_Mi := ((⟨"java/lang/StringUTF16", "newString", "([BII)Ljava/lang/String;"⟩ : MethodName), jdk_52_method_69_code, 5, (Option.some (FieldType.object "java/lang/String")), ({ frames := 5, cells := 3, slots := 16, locals := 90 } : Room))
theorem pn_uns : plainFor (own_Mi.y M_uns) = true := plainFor_of_name (by first | (simp [plainName, overriddenIn]; done) | decide +kernel)
set_option maxRecDepth 65536 in
set_option maxHeartbeats 40000000 in
theorem c_uns (K : own_Cx) (a0 : Array Value) (hw : ∀ d ∈ tables_1, d.before a0 K.Z = true) (hnw : K.nw = false) (hEL : EW K.Z a0 K.E) (hme : ("java/lang/StringUTF16", 295) ∈ K.E) (hU : own_U16 K) (rf : Value) (hrf : rf.isRef = true) (SF : Sta K.Z K.Z.heap "jdk/internal/util/Preconditions" "SIOOBE_FORMATTER" "Ljava/util/function/BiFunction;" rf) (g : Int32) (SC : Sta K.Z K.Z.heap own_sC "COMPACT_STRINGS" "Z" (.int g)) (hg : ¬ g = 0) (a : Addr) (f n : Int32) (F N : Nat) (cs seg : List Int32) (h : Heap) (hseg : seg = (cs.drop F).take N) (hf : f.toInt = F) (hn : n.toInt = N) (hFN : F + N ≤ cs.length) (hne : F = 0 → N ≠ cs.length) (hl : cs.length ≤ 4) (hcs : own_Chs cs) (A : own_Ary K.Z h a .byte (own_ints (own_two cs))) :
    own_Met K M_uns #[.ref a, .int f, .int n] [] h (own_ret fun w h' _ => ∃ x : Addr, w = .ref x ∧ Ext h h' ∧ own_Str K.Z h' x seg) := by
  have v0 : (0 : Int32).toInt = 0 := rfl
  have hsl : seg.length = N := by rw [hseg]; exact own_cut_len hFN
  have hsc : own_Chs seg := by rw [hseg]; exact own_chs_cut hcs F N
  refine own_met_3_2 (M := M_uns) pn_uns rfl (by first | rfl | exact own_cat (by assumption)) (by first | rfl | exact own_cat (by assumption)) (by first | rfl | exact own_cat (by assumption)) ?_
  refine own_iload_n (pc' := 1) rfl d_uns_0 rfl ?_
  refine own_ifne (pcT := 8) (pcF := 4) d_uns_1 (by decide) (by decide) rfl (fun q => ?_) (fun q => ?_)
  rotate_left 1
  · have hN0 : N = 0 := by rw [q, v0] at hn; omega
    have es : seg = [] := List.length_eq_zero_iff.mp (by omega)
    refine own_ldcW hnw (pc' := 7) rfl d_uns_4 (hw _ (List.mem_of_getElem? (i := 189) rfl)) (own_atoms hw) hEL hme rfl rfl ?_
    intro x h1 E1 S1
    refine own_areturn rfl rfl (by first | rfl | assumption) d_uns_7 rfl rfl ?_
    exact ⟨x, rfl, E1, by rw [es]; exact S1⟩
  have hN1 : 0 < N := by
    refine Nat.pos_of_ne_zero fun z => q (Int32.toInt_inj.mp ?_)
    rw [hn, z]; rfl
  refine own_getS (pc' := 11) rfl d_uns_8 (tw_159 hw) Via.refl (by assumption) ?_
  refine own_ifeq (pcT := 39) (pcF := 14) d_uns_11 (by decide) (by decide) rfl (fun q1 => ?_) (fun q1 => ?_)
  · exact absurd q1 hg
  refine own_aload_n (pc' := 15) rfl d_uns_14 rfl (by first | rfl | assumption) ?_
  refine own_iload_n (pc' := 16) rfl d_uns_15 rfl ?_
  refine own_iload_n (pc' := 17) rfl d_uns_16 rfl ?_
  refine own_static3v (M' := M_ub3) d_uns_17 (pc' := 20) rfl (tw_160 hw) (tw_161 hw) (tw_17 hw) (tw_162 hw) (by decide) rfl (own_lenOf pd_15 rfl) rfl rfl rfl rfl (c_ub3 K a0 hw hU rf hrf SF a f n F N cs seg h hseg hf hn hFN hne hl hcs A) (by simp) ?_
  rintro w h2 xs2 ⟨b, rfl, E2, hb2, B2⟩
  refine own_astore_n3 (pc' := 21) rfl d_uns_20 (by first | exact One.u | exact One.val rfl | assumption | exact One.val (by assumption)) (by first | rfl | assumption) ?_
  refine own_aload_n (pc' := 22) rfl d_uns_21 rfl (by first | rfl | assumption) ?_
  refine own_iload_n (pc' := 23) rfl d_uns_22 rfl ?_
  refine own_static2v (M' := M_cfa) d_uns_23 (pc' := 26) rfl (tw_179 hw) (tw_24 hw) (tw_17 hw) (tw_25 hw) (by decide) rfl (own_lenOf pd_6 rfl) rfl rfl rfl rfl (c_cfa K a0 hw b n seg h2 (by rw [hn, hsl]) (by omega) (by omega) B2) (by simp) ?_
  rintro w h3 xs3 ⟨rfl, rfl⟩
  refine own_istore_4 (pc' := 28) rfl d_uns_26 (by first | exact One.u | exact One.val rfl | assumption | exact One.val (by assumption)) ?_
  refine own_new (pc' := 31) rfl d_uns_28 (tw_180 hw) (tw_2 hw) (tw_3 hw) rfl rfl ?_
  intro x h4 ex E4 X4 D4
  have FV := D4 (Or.inr (tw_29 hw)) (ty := .array .byte) (by decide)
  have FC := D4 (Or.inr (tw_27 hw)) (ty := .byte) (by decide)
  have nbx : b ≠ x := by show @Ne Nat b x; have : @LT.lt Nat _ _ _ := B2.lt; omega
  refine own_dup (pc' := 32) rfl d_uns_31 (by first | rfl | assumption) ?_
  refine own_aload_n (pc' := 33) rfl d_uns_32 rfl (by first | rfl | assumption) ?_
  refine own_iload (pc' := 35) rfl d_uns_33 rfl ?_
  refine own_special2n (M' := M_sib) d_uns_35 (pc' := 38) rfl rfl rfl (tw_181 hw) (tw_116 hw) (tw_3 hw) (tw_117 hw) (by decide) rfl (own_lenOf pd_22 rfl) rfl rfl rfl rfl (c_sib K a0 hw x b seg h4 hsc (by omega) X4 FV FC (B2.ext E4) nbx) (by simp) ?_
  rintro h5 xs5 ⟨k5, S5⟩
  refine own_areturn rfl rfl (by first | rfl | assumption) d_uns_38 rfl rfl ?_
  exact ⟨x, rfl, own_ext_trans E2 (own_ext_keep E4 k5 (by intro z hz; cases List.mem_singleton.mp hz; omega)), S5⟩
theorem d_lns_0 : decode jdk_43_method_47_code 0 = .ok (.iload_n 2, 1) := by decide +kernel
theorem d_lns_1 : decode jdk_43_method_47_code 1 = .ok (.ifCond .ne 6, 3) := by decide +kernel
theorem d_lns_4 : decode jdk_43_method_47_code 4 = .ok (.ldc 151, 2) := by decide +kernel
theorem d_lns_6 : decode jdk_43_method_47_code 6 = .ok (.areturn, 1) := by decide +kernel
theorem d_lns_7 : decode jdk_43_method_47_code 7 = .ok (.new 1, 3) := by decide +kernel
theorem d_lns_10 : decode jdk_43_method_47_code 10 = .ok (.dup, 1) := by decide +kernel
theorem d_lns_11 : decode jdk_43_method_47_code 11 = .ok (.aload_n 0, 1) := by decide +kernel
theorem d_lns_12 : decode jdk_43_method_47_code 12 = .ok (.iload_n 1, 1) := by decide +kernel
theorem d_lns_13 : decode jdk_43_method_47_code 13 = .ok (.iload_n 1, 1) := by decide +kernel
theorem d_lns_14 : decode jdk_43_method_47_code 14 = .ok (.iload_n 2, 1) := by decide +kernel
theorem d_lns_15 : decode jdk_43_method_47_code 15 = .ok (.iadd, 1) := by decide +kernel
theorem d_lns_16 : decode jdk_43_method_47_code 16 = .ok (.invokestatic 232, 3) := by decide +kernel
theorem d_lns_19 : decode jdk_43_method_47_code 19 = .ok (.iconst 0, 1) := by decide +kernel
theorem d_lns_20 : decode jdk_43_method_47_code 20 = .ok (.invokespecial 112, 3) := by decide +kernel
theorem d_lns_23 : decode jdk_43_method_47_code 23 = .ok (.areturn, 1) := by decide +kernel
abbrev M_lns : own_Mi := ((⟨"java/lang/StringLatin1", "newString", "([BII)Ljava/lang/String;"⟩ : MethodName), jdk_43_method_47_code, 3, (Option.some (FieldType.object "java/lang/String")), ({ frames := 3, cells := 2, slots := 12, locals := 75 } : Room))
theorem pn_lns : plainFor (own_Mi.y M_lns) = true := plainFor_of_name (by first | (simp [plainName, overriddenIn]; done) | decide +kernel)
set_option maxRecDepth 65536 in
set_option maxHeartbeats 40000000 in
theorem c_lns (K : own_Cx) (a0 : Array Value) (hw : ∀ d ∈ tables_1, d.before a0 K.Z = true) (hnw : K.nw = false) (hEL : EW K.Z a0 K.E) (hme : ("java/lang/StringLatin1", 151) ∈ K.E) (a : Addr) (f n : Int32) (F N : Nat) (cs seg : List Int32) (h : Heap) (hseg : seg = (cs.drop F).take N) (hf : f.toInt = F) (hn : n.toInt = N) (hFN : F + N ≤ cs.length) (hne : F = 0 → N ≠ cs.length) (hl : cs.length ≤ 4) (hcs : own_Chs cs) (ql : own_lat cs = true) (A : own_Ary K.Z h a .byte (own_ints (cs.map own_bt))) :
    own_Met K M_lns #[.ref a, .int f, .int n] [] h (own_ret fun w h' _ => ∃ x : Addr, w = .ref x ∧ Ext h h' ∧ own_Str K.Z h' x seg) := by
  have v0 : (0 : Int32).toInt = 0 := rfl
  have hsl : seg.length = N := by rw [hseg]; exact own_cut_len hFN
  have hsc : own_Chs seg := by rw [hseg]; exact own_chs_cut hcs F N
  have hsq : own_lat seg = true := by rw [hseg]; exact own_lat_cut ql F N
  refine own_met_3_0 (M := M_lns) pn_lns rfl (by first | rfl | exact own_cat (by assumption)) (by first | rfl | exact own_cat (by assumption)) (by first | rfl | exact own_cat (by assumption)) ?_
  refine own_iload_n (pc' := 1) rfl d_lns_0 rfl ?_
  refine own_ifne (pcT := 7) (pcF := 4) d_lns_1 (by decide) (by decide) rfl (fun q => ?_) (fun q => ?_)
  rotate_left 1
  · have hN0 : N = 0 := by rw [q, v0] at hn; omega
    have es : seg = [] := List.length_eq_zero_iff.mp (by omega)
    refine own_ldcS (n := 0) hnw (pc' := 6) rfl d_lns_4 (hw _ (List.mem_of_getElem? (i := 192) rfl)) (own_atoms hw) hEL hme (by decide +kernel) (by decide +kernel) (by decide +kernel) (by decide +kernel) (by decide +kernel) (by decide +kernel) (by decide +kernel) rfl rfl rfl ?_
    intro x h1 E1 S1
    have e0 : own_us "" = [] := by decide +kernel
    rw [e0] at S1
    refine own_areturn rfl rfl (by first | rfl | assumption) d_lns_6 rfl rfl ?_
    exact ⟨x, rfl, E1, by rw [es]; exact S1⟩
  have hfn : (f + n).toInt = ((F + N : Nat) : Int) := by rw [own_add hf hn] <;> omega
  refine own_new (pc' := 10) rfl d_lns_7 (tw_99 hw) (tw_2 hw) (tw_3 hw) rfl rfl ?_
  intro x h4 ex E4 X4 D4
  have FV := D4 (Or.inr (tw_29 hw)) (ty := .array .byte) (by decide)
  have FC := D4 (Or.inr (tw_27 hw)) (ty := .byte) (by decide)
  have lx : @LT.lt Nat _ _ _ := X4.lt
  refine own_dup (pc' := 11) rfl d_lns_10 (by first | rfl | assumption) ?_
  refine own_aload_n (pc' := 12) rfl d_lns_11 rfl (by first | rfl | assumption) ?_
  refine own_iload_n (pc' := 13) rfl d_lns_12 rfl ?_
  refine own_iload_n (pc' := 14) rfl d_lns_13 rfl ?_
  refine own_iload_n (pc' := 15) rfl d_lns_14 rfl ?_
  refine own_iadd (pc' := 16) rfl d_lns_15 ?_
  refine own_static3v (M' := M_cor) d_lns_16 (pc' := 19) rfl (tw_100 hw) (tw_101 hw) (tw_102 hw) (tw_103 hw) (by decide) rfl (own_lenOf pd_15 rfl) rfl rfl rfl rfl (c_cor K a0 hw a f _ F (F + N) _ h4 hf hfn (by omega) (by simp; omega) (fun z => by have z2 := hne z; simp; omega) (by omega) (own_Bys.lat cs) (A.ext E4)) (by simp) ?_
  rintro w h5 xs5 ⟨b, rfl, E5, hb5, hx5, B5⟩
  have e1 : ((own_ints (cs.map own_bt)).drop F).take (F + N - F) = own_ints (own_enc seg) := by
    rw [show F + N - F = N by omega, (own_enc_lat hsq).1, hseg]; simp [own_ints, List.map_drop, List.map_take]
  rw [e1] at B5
  have nbx : b ≠ x := own_ne (by omega)
  refine own_iconst (v := (0 : Int32)) (pc' := 20) rfl d_lns_19 rfl ?_
  have CS := c_sib K a0 hw x b seg h5 hsc (by omega) (X4.ext E5) (FV.ext E5) (FC.ext E5) B5 nbx
  rw [(own_enc_lat hsq).2] at CS
  refine own_special2n (M' := M_sib) d_lns_20 (pc' := 23) rfl rfl rfl (tw_115 hw) (tw_116 hw) (tw_3 hw) (tw_117 hw) (by decide) rfl (own_lenOf pd_22 rfl) rfl rfl rfl rfl CS (by simp) ?_
  rintro h6 xs6 ⟨k6, S6⟩
  refine own_areturn rfl rfl (by first | rfl | assumption) d_lns_23 rfl rfl ?_
  exact ⟨x, rfl, own_ext_keep (own_ext_trans E4 E5) k6 (by intro z hz; cases List.mem_singleton.mp hz; omega), S6⟩
theorem d_sub_0 : decode jdk_42_method_92_code 0 = .ok (.aload_n 0, 1) := by decide +kernel
theorem d_sub_1 : decode jdk_42_method_92_code 1 = .ok (.invokevirtual 505, 3) := by decide +kernel
theorem d_sub_4 : decode jdk_42_method_92_code 4 = .ok (.istore_n 3, 1) := by decide +kernel
theorem d_sub_5 : decode jdk_42_method_92_code 5 = .ok (.iload_n 1, 1) := by decide +kernel
theorem d_sub_6 : decode jdk_42_method_92_code 6 = .ok (.iload_n 2, 1) := by decide +kernel
theorem d_sub_7 : decode jdk_42_method_92_code 7 = .ok (.iload_n 3, 1) := by decide +kernel
theorem d_sub_8 : decode jdk_42_method_92_code 8 = .ok (.invokestatic 521, 3) := by decide +kernel
theorem d_sub_11 : decode jdk_42_method_92_code 11 = .ok (.iload_n 1, 1) := by decide +kernel
theorem d_sub_12 : decode jdk_42_method_92_code 12 = .ok (.ifCond .ne 10, 3) := by decide +kernel
theorem d_sub_15 : decode jdk_42_method_92_code 15 = .ok (.iload_n 2, 1) := by decide +kernel
theorem d_sub_16 : decode jdk_42_method_92_code 16 = .ok (.iload_n 3, 1) := by decide +kernel
theorem d_sub_17 : decode jdk_42_method_92_code 17 = .ok (.if_icmp .ne 5, 3) := by decide +kernel
theorem d_sub_20 : decode jdk_42_method_92_code 20 = .ok (.aload_n 0, 1) := by decide +kernel
theorem d_sub_21 : decode jdk_42_method_92_code 21 = .ok (.areturn, 1) := by decide +kernel
theorem d_sub_22 : decode jdk_42_method_92_code 22 = .ok (.iload_n 2, 1) := by decide +kernel
theorem d_sub_23 : decode jdk_42_method_92_code 23 = .ok (.iload_n 1, 1) := by decide +kernel
theorem d_sub_24 : decode jdk_42_method_92_code 24 = .ok (.isub, 1) := by decide +kernel
theorem d_sub_25 : decode jdk_42_method_92_code 25 = .ok (.istore 4, 2) := by decide +kernel
theorem d_sub_27 : decode jdk_42_method_92_code 27 = .ok (.aload_n 0, 1) := by decide +kernel
theorem d_sub_28 : decode jdk_42_method_92_code 28 = .ok (.invokevirtual 492, 3) := by decide +kernel
theorem d_sub_31 : decode jdk_42_method_92_code 31 = .ok (.ifCond .eq 16, 3) := by decide +kernel
theorem d_sub_34 : decode jdk_42_method_92_code 34 = .ok (.aload_n 0, 1) := by decide +kernel
theorem d_sub_35 : decode jdk_42_method_92_code 35 = .ok (.getfield 9, 3) := by decide +kernel
theorem d_sub_38 : decode jdk_42_method_92_code 38 = .ok (.iload_n 1, 1) := by decide +kernel
theorem d_sub_39 : decode jdk_42_method_92_code 39 = .ok (.iload 4, 2) := by decide +kernel
theorem d_sub_41 : decode jdk_42_method_92_code 41 = .ok (.invokestatic 685, 3) := by decide +kernel
theorem d_sub_44 : decode jdk_42_method_92_code 44 = .ok (.goto 13, 3) := by decide +kernel
theorem d_sub_47 : decode jdk_42_method_92_code 47 = .ok (.aload_n 0, 1) := by decide +kernel
theorem d_sub_48 : decode jdk_42_method_92_code 48 = .ok (.getfield 9, 3) := by decide +kernel
theorem d_sub_51 : decode jdk_42_method_92_code 51 = .ok (.iload_n 1, 1) := by decide +kernel
theorem d_sub_52 : decode jdk_42_method_92_code 52 = .ok (.iload 4, 2) := by decide +kernel
theorem d_sub_54 : decode jdk_42_method_92_code 54 = .ok (.invokestatic 689, 3) := by decide +kernel
theorem d_sub_57 : decode jdk_42_method_92_code 57 = .ok (.areturn, 1) := by decide +kernel
abbrev M_sub : own_Mi := ((⟨"java/lang/String", "substring", "(II)Ljava/lang/String;"⟩ : MethodName), jdk_42_method_92_code, 5, (Option.some (FieldType.object "java/lang/String")), ({ frames := 6, cells := 3, slots := 16, locals := 110 } : Room))
theorem pn_sub : plainFor (own_Mi.y M_sub) = true := plainFor_of_name (by first | (simp [plainName, overriddenIn]; done) | decide +kernel)
set_option maxRecDepth 65536 in
set_option maxHeartbeats 40000000 in
theorem c_sub (K : own_Cx) (a0 : Array Value) (hw : ∀ d ∈ tables_1, d.before a0 K.Z = true) (hnw : K.nw = false) (hEL : EW K.Z a0 K.E) (hme : ("java/lang/StringUTF16", 295) ∈ K.E) (hme2 : ("java/lang/StringLatin1", 151) ∈ K.E) (hU : own_U16 K) (rf : Value) (hrf : rf.isRef = true) (SF : Sta K.Z K.Z.heap "jdk/internal/util/Preconditions" "SIOOBE_FORMATTER" "Ljava/util/function/BiFunction;" rf) (g : Int32) (SC : Sta K.Z K.Z.heap own_sC "COMPACT_STRINGS" "Z" (.int g)) (hg : ¬ g = 0) (x : Addr) (f e : Int32) (F E : Nat) (cs : List Int32) (h : Heap) (hf : f.toInt = F) (he : e.toInt = E) (hFE : F ≤ E) (hE : E ≤ cs.length) (hl : cs.length ≤ 4) (S : own_Str K.Z h x cs) :
    own_Met K M_sub #[.ref x, .int f, .int e] [] h (own_ret fun w h' _ => ∃ z : Addr, w = .ref z ∧ Ext h h' ∧ own_Str K.Z h' z ((cs.drop F).take (E - F))) := by
  have v0 : (0 : Int32).toInt = 0 := rfl
  have S' := S
  obtain ⟨E0, hcs, -, b, FV, FC, B⟩ := S
  have hn : (cs.length.toInt32).toInt = cs.length := own_lit _ (by omega)
  have hef : (e - f).toInt = ((E - F : Nat) : Int) := by rw [own_sub he hf] <;> omega
  have rest : (F = 0 → E - F ≠ cs.length) → ∀ sf : List Addr, own_WP K M_sub (own_ret fun w h' _ => ∃ z : Addr, w = .ref z ∧ Ext h h' ∧ own_Str K.Z h' z ((cs.drop F).take (E - F))) 22 [.val (.ref x), .val (.int f), .val (.int e), .val (.int cs.length.toInt32), .unset] [] sf h 0 0 := by
    intro hne sf
    refine own_iload_n (pc' := 23) rfl d_sub_22 rfl ?_
    refine own_iload_n (pc' := 24) rfl d_sub_23 rfl ?_
    refine own_isub (pc' := 25) rfl d_sub_24 ?_
    refine own_istore_4 (pc' := 27) rfl d_sub_25 (by first | exact One.u | exact One.val rfl | assumption | exact One.val (by assumption)) ?_
    refine own_aload_n (pc' := 28) rfl d_sub_27 rfl (by first | rfl | assumption) ?_
    refine own_virtual0v (M' := M_isl) d_sub_28 (pc' := 31) rfl (tw_90 hw) (tw_91 hw) (tw_93 hw) (tw_92 hw) (tw_3 hw) (tw_94 hw) (by decide) rfl (own_lenOf pd_13 rfl) rfl rfl rfl rfl E0 (c_isl K a0 hw g SC hg x cs h S') (by simp) ?_
    rintro w h1 xs1 ⟨rfl, rfl⟩
    cases ql : own_lat cs
    · have B := B
      rw [(own_enc_utf ql).1] at B
      refine own_ifeq (pcT := 47) (pcF := 34) d_sub_31 (by decide) (by decide) rfl (fun q => ?_) (fun q => ?_)
      rotate_left 1
      · exact absurd (by simp) q
      refine own_aload_n (pc' := 48) rfl d_sub_47 rfl (by first | rfl | assumption) ?_
      refine own_getF (pc' := 51) rfl d_sub_48 (tw_28 hw) Via.refl FV ?_
      refine own_iload_n (pc' := 52) rfl d_sub_51 rfl ?_
      refine own_iload (pc' := 54) rfl d_sub_52 rfl ?_
      refine own_static3v (M' := M_uns) d_sub_54 (pc' := 57) rfl (tw_156 hw) (tw_157 hw) (tw_17 hw) (tw_158 hw) (by decide) rfl (own_lenOf pd_23 rfl) rfl rfl rfl rfl (c_uns K a0 hw hnw hEL hme hU rf hrf SF g SC hg b f (e - f) F (E - F) cs _ _ rfl hf hef (by omega) hne hl hcs B) (by simp) ?_
      rintro w h2 xs2 ⟨z, rfl, E2, S2⟩
      refine own_areturn rfl rfl (by first | rfl | assumption) d_sub_57 rfl rfl ?_
      exact ⟨z, rfl, E2, S2⟩
    · have B := B
      rw [(own_enc_lat ql).1] at B
      refine own_ifeq (pcT := 47) (pcF := 34) d_sub_31 (by decide) (by decide) rfl (fun q => ?_) (fun q => ?_)
      · exact absurd q (by simp)
      refine own_aload_n (pc' := 35) rfl d_sub_34 rfl (by first | rfl | assumption) ?_
      refine own_getF (pc' := 38) rfl d_sub_35 (tw_28 hw) Via.refl FV ?_
      refine own_iload_n (pc' := 39) rfl d_sub_38 rfl ?_
      refine own_iload (pc' := 41) rfl d_sub_39 rfl ?_
      refine own_static3v (M' := M_lns) d_sub_41 (pc' := 44) rfl (tw_95 hw) (tw_96 hw) (tw_97 hw) (tw_98 hw) (by decide) rfl (own_lenOf pd_23 rfl) rfl rfl rfl rfl (c_lns K a0 hw hnw hEL hme2 b f (e - f) F (E - F) cs _ _ rfl hf hef (by omega) hne hl hcs ql B) (by simp) ?_
      rintro w h2 xs2 ⟨z, rfl, E2, S2⟩
      refine own_goto (pc' := 57) d_sub_44 (by decide) (by decide) ?_
      refine own_areturn rfl rfl (by first | rfl | assumption) d_sub_57 rfl rfl ?_
      exact ⟨z, rfl, E2, S2⟩
  refine own_met_3_2 (M := M_sub) pn_sub rfl (by first | rfl | exact own_cat (by assumption)) (by first | rfl | exact own_cat (by assumption)) (by first | rfl | exact own_cat (by assumption)) ?_
  refine own_aload_n (pc' := 1) rfl d_sub_0 rfl (by first | rfl | assumption) ?_
  refine own_virtual0v (M' := M_sl) d_sub_1 (pc' := 4) rfl (tw_84 hw) (tw_51 hw) (tw_53 hw) (tw_52 hw) (tw_3 hw) (tw_54 hw) (by decide) rfl (own_lenOf pd_19 rfl) rfl rfl rfl rfl E0 (c_sl K a0 hw g SC hg x cs h S') (by simp) ?_
  rintro w h1 xs1 ⟨rfl, rfl⟩
  refine own_istore_n3 (pc' := 5) rfl d_sub_4 (by first | exact One.u | exact One.val rfl | assumption | exact One.val (by assumption)) ?_
  refine own_iload_n (pc' := 6) rfl d_sub_5 rfl ?_
  refine own_iload_n (pc' := 7) rfl d_sub_6 rfl ?_
  refine own_iload_n (pc' := 8) rfl d_sub_7 rfl ?_
  refine own_static3n (M' := M_sbe) d_sub_8 (pc' := 11) rfl (tw_85 hw) (tw_86 hw) (tw_3 hw) (tw_87 hw) (by decide) rfl (own_lenOf pd_24 rfl) rfl rfl rfl rfl (c_sbe K a0 hw rf hrf SF f e _ _ (by omega) (by omega) (by omega)) (by simp) ?_
  rintro h2 xs2 rfl
  refine own_iload_n (pc' := 12) rfl d_sub_11 rfl ?_
  refine own_ifne (pcT := 22) (pcF := 15) d_sub_12 (by decide) (by decide) rfl (fun q => ?_) (fun q => ?_)
  · exact own_weak (rest (fun z => absurd (Int32.toInt_inj.mp (by rw [hf, z]; rfl)) q) _) (fun x hx => hx) (by exact Nat.le_of_ble_eq_true rfl) (by exact Nat.le_of_ble_eq_true rfl)
  have hF0 : F = 0 := by rw [q, v0] at hf; omega
  refine own_iload_n (pc' := 16) rfl d_sub_15 rfl ?_
  refine own_iload_n (pc' := 17) rfl d_sub_16 rfl ?_
  refine own_icmpne (pcT := 22) (pcF := 20) d_sub_17 (by decide) (by decide) rfl (fun q2 => ?_) (fun q2 => ?_)
  · exact own_weak (rest (fun z1 z2 => q2 (Int32.toInt_inj.mp (by rw [he, hn]; omega))) _) (fun x hx => hx) (by exact Nat.le_of_ble_eq_true rfl) (by exact Nat.le_of_ble_eq_true rfl)
  have hE1 : E = cs.length := by rw [q2, hn] at he; omega
  have es : (cs.drop F).take (E - F) = cs := by rw [hF0, hE1, List.drop_zero, Nat.sub_zero, List.take_length]
  refine own_aload_n (pc' := 21) rfl d_sub_20 rfl (by first | rfl | assumption) ?_
  refine own_areturn rfl rfl (by first | rfl | assumption) d_sub_21 rfl rfl ?_
  exact ⟨x, rfl, own_ext_refl _, by rw [es]; exact S'⟩
theorem d_txs_0 : decode prog_64_method_7_code 0 = .ok (.aload_n 0, 1) := by decide +kernel
theorem d_txs_1 : decode prog_64_method_7_code 1 = .ok (.getfield 19, 3) := by decide +kernel
theorem d_txs_4 : decode prog_64_method_7_code 4 = .ok (.aload_n 0, 1) := by decide +kernel
theorem d_txs_5 : decode prog_64_method_7_code 5 = .ok (.getfield 25, 3) := by decide +kernel
theorem d_txs_8 : decode prog_64_method_7_code 8 = .ok (.aload_n 0, 1) := by decide +kernel
theorem d_txs_9 : decode prog_64_method_7_code 9 = .ok (.getfield 29, 3) := by decide +kernel
theorem d_txs_12 : decode prog_64_method_7_code 12 = .ok (.invokevirtual 48, 3) := by decide +kernel
theorem d_txs_15 : decode prog_64_method_7_code 15 = .ok (.areturn, 1) := by decide +kernel
abbrev M_txs : own_Mi := ((⟨"com/example/macroweave/macroweave/Text", "toString", "()Ljava/lang/String;"⟩ : MethodName), prog_64_method_7_code, 1, (Option.some (FieldType.object "java/lang/String")), ({ frames := 7, cells := 3, slots := 16, locals := 128 } : Room))
theorem pn_txs : plainFor (own_Mi.y M_txs) = true := plainFor_of_name (by first | (simp [plainName, overriddenIn]; done) | decide +kernel)
set_option maxRecDepth 65536 in
set_option maxHeartbeats 40000000 in
theorem c_txs (K : own_Cx) (a0 : Array Value) (hw : ∀ d ∈ tables_1, d.before a0 K.Z = true) (hnw : K.nw = false) (hEL : EW K.Z a0 K.E) (hme : ("java/lang/StringUTF16", 295) ∈ K.E) (hme2 : ("java/lang/StringLatin1", 151) ∈ K.E) (hU : own_U16 K) (rf : Value) (hrf : rf.isRef = true) (SF : Sta K.Z K.Z.heap "jdk/internal/util/Preconditions" "SIOOBE_FORMATTER" "Ljava/util/function/BiFunction;" rf) (g : Int32) (SC : Sta K.Z K.Z.heap own_sC "COMPACT_STRINGS" "Z" (.int g)) (hg : ¬ g = 0) (t x : Addr) (f e : Int32) (F E : Nat) (cs : List Int32) (h : Heap) (hf : f.toInt = F) (he : e.toInt = E) (hFE : F ≤ E) (hE : E ≤ cs.length) (hl : cs.length ≤ 4) (S : own_Str K.Z h x cs) (T : own_Txt K.Z h t x f e) :
    own_Met K M_txs #[.ref t] [] h (own_ret fun w h' _ => ∃ z : Addr, w = .ref z ∧ Ext h h' ∧ own_Str K.Z h' z ((cs.drop F).take (E - F))) := by
  obtain ⟨T0, T1, T2, T3⟩ := T
  refine own_met_1_0 (M := M_txs) pn_txs rfl (by first | rfl | exact own_cat (by assumption)) ?_
  refine own_aload_n (pc' := 1) rfl d_txs_0 rfl (by first | rfl | assumption) ?_
  refine own_getF (pc' := 4) rfl d_txs_1 (tw_68 hw) Via.refl T1 ?_
  refine own_aload_n (pc' := 5) rfl d_txs_4 rfl (by first | rfl | assumption) ?_
  refine own_getF (pc' := 8) rfl d_txs_5 (tw_70 hw) Via.refl T2 ?_
  refine own_aload_n (pc' := 9) rfl d_txs_8 rfl (by first | rfl | assumption) ?_
  refine own_getF (pc' := 12) rfl d_txs_9 (tw_72 hw) Via.refl T3 ?_
  refine own_virtual2v (M' := M_sub) d_txs_12 (pc' := 15) rfl (tw_79 hw) (tw_80 hw) (tw_82 hw) (tw_81 hw) (tw_3 hw) (tw_83 hw) (by decide) rfl (own_lenOf pd_25 rfl) rfl rfl rfl rfl S.1 (c_sub K a0 hw hnw hEL hme hme2 hU rf hrf SF g SC hg x f e F E cs h hf he hFE hE hl S) (by simp) ?_
  rintro w h1 xs1 q
  obtain ⟨z, rfl, q⟩ := q
  refine own_areturn rfl rfl (by first | rfl | assumption) d_txs_15 rfl rfl ?_
  exact ⟨z, rfl, q⟩
theorem d_cok_0 : decode method_2_code 0 = .ok (.iload 4, 2) := by decide +kernel
theorem d_cok_2 : decode method_2_code 2 = .ok (.iload_n 3, 1) := by decide +kernel
theorem d_cok_3 : decode method_2_code 3 = .ok (.if_icmp .lt 5, 3) := by decide +kernel
theorem d_cok_6 : decode method_2_code 6 = .ok (.iconst 1, 1) := by decide +kernel
theorem d_cok_7 : decode method_2_code 7 = .ok (.ireturn, 1) := by decide +kernel
theorem d_cok_8 : decode method_2_code 8 = .ok (.aload_n 0, 1) := by decide +kernel
theorem d_cok_9 : decode method_2_code 9 = .ok (.iload 4, 2) := by decide +kernel
theorem d_cok_11 : decode method_2_code 11 = .ok (.invokevirtual 7, 3) := by decide +kernel
theorem d_cok_14 : decode method_2_code 14 = .ok (.aload_n 1, 1) := by decide +kernel
theorem d_cok_15 : decode method_2_code 15 = .ok (.iload_n 2, 1) := by decide +kernel
theorem d_cok_16 : decode method_2_code 16 = .ok (.iload 4, 2) := by decide +kernel
theorem d_cok_18 : decode method_2_code 18 = .ok (.iadd, 1) := by decide +kernel
theorem d_cok_19 : decode method_2_code 19 = .ok (.caload, 1) := by decide +kernel
theorem d_cok_20 : decode method_2_code 20 = .ok (.if_icmp .ne 7, 3) := by decide +kernel
theorem d_cok_23 : decode method_2_code 23 = .ok (.iconst 1, 1) := by decide +kernel
theorem d_cok_24 : decode method_2_code 24 = .ok (.goto 4, 3) := by decide +kernel
theorem d_cok_28 : decode method_2_code 28 = .ok (.ireturn, 1) := by decide +kernel
abbrev M_cok : own_Mi := ((⟨"com/example/macroweave/macroweave/TextToStringPinLaw", "charOk", "(Ljava/lang/String;[CIII)Z"⟩ : MethodName), method_2_code, 5, (Option.some FieldType.boolean), ({ frames := 5, cells := 0, slots := 0, locals := 70 } : Room))
theorem pn_cok : plainFor (own_Mi.y M_cok) = true := plainFor_of_name (by first | (simp [plainName, overriddenIn]; done) | decide +kernel)
set_option maxRecDepth 65536 in
set_option maxHeartbeats 40000000 in
theorem c_cok (K : own_Cx) (a0 : Array Value) (hw : ∀ d ∈ tables_1, d.before a0 K.Z = true) (hU : own_U16 K) (g : Int32) (SC : Sta K.Z K.Z.heap own_sC "COMPACT_STRINGS" "Z" (.int g)) (hg : ¬ g = 0) (rf : Value) (hrf : rf.isRef = true) (SF : Sta K.Z K.Z.heap "jdk/internal/util/Preconditions" "SIOOBE_FORMATTER" "Ljava/util/function/BiFunction;" rf) (x a : Addr) (cs : List Int32) (f n k : Int32) (F N I : Nat) (h : Heap) (hFN : F + N ≤ cs.length) (hl : cs.length ≤ 4) (S : own_Str K.Z h x ((cs.drop F).take N)) (A : own_Ary K.Z h a .char (own_ints cs)) (hf : f.toInt = F) (hn : n.toInt = N) (hk : k.toInt = I) :
    own_Met K M_cok #[.ref x, .ref a, .int f, .int n, .int k] [] h (own_ret fun w h' _ => w = .int 1 ∧ h' = h) := by
  have hsl := own_cut_len hFN
  refine own_met_5_0 (M := M_cok) pn_cok rfl (by first | rfl | exact own_cat (by assumption)) (by first | rfl | exact own_cat (by assumption)) (by first | rfl | exact own_cat (by assumption)) (by first | rfl | exact own_cat (by assumption)) (by first | rfl | exact own_cat (by assumption)) ?_
  refine own_iload (pc' := 2) rfl d_cok_0 rfl ?_
  refine own_iload_n (pc' := 3) rfl d_cok_2 rfl ?_
  refine own_icmplt (pcT := 8) (pcF := 6) d_cok_3 (by decide) (by decide) rfl (fun q => ?_) (fun q => ?_)
  rotate_left 1
  · skip
    refine own_iconst (v := (1 : Int32)) (pc' := 7) rfl d_cok_6 rfl ?_
    refine own_ireturnN (t := .boolean) rfl (by simp) (by first | exact own_nb0 | exact own_nb1 | rfl) d_cok_7 rfl rfl ?_
    exact ⟨rfl, rfl⟩
  rw [Int32.lt_iff_toInt_lt] at q
  obtain ⟨c, hc⟩ : ∃ c, ((cs.drop F).take N)[I]? = some c := ⟨((cs.drop F).take N)[I]'(by omega), List.getElem?_eq_getElem (by omega)⟩
  have hfk : (f + k).toInt = ((F + I : Nat) : Int) := by rw [own_add hf hk] <;> omega
  refine own_aload_n (pc' := 9) rfl d_cok_8 rfl (by first | rfl | assumption) ?_
  refine own_iload (pc' := 11) rfl d_cok_9 rfl ?_
  refine own_virtual1v (M' := M_sca) d_cok_11 (pc' := 14) rfl (tw_123 hw) (tw_124 hw) (tw_126 hw) (tw_125 hw) (tw_3 hw) (tw_127 hw) (by decide) rfl (own_lenOf pd_26 rfl) rfl rfl rfl rfl S.1 (c_sca K a0 hw hU g SC hg rf hrf SF x _ k I c h S (by omega) hk hc) (by simp) ?_
  rintro w h1 xs1 ⟨rfl, rfl⟩
  refine own_aload_n (pc' := 15) rfl d_cok_14 rfl (by first | rfl | assumption) ?_
  refine own_iload_n (pc' := 16) rfl d_cok_15 rfl ?_
  refine own_iload (pc' := 18) rfl d_cok_16 rfl ?_
  refine own_iadd (pc' := 19) rfl d_cok_18 ?_
  refine own_caload (pc' := 20) rfl d_cok_19 A (i := (F + I)) hfk (own_ints_get (own_cut_get hc)) ?_
  refine own_icmpne (pcT := 27) (pcF := 23) d_cok_20 (by decide) (by decide) rfl (fun q2 => ?_) (fun q2 => ?_)
  · exact absurd rfl q2
  refine own_iconst (v := (1 : Int32)) (pc' := 24) rfl d_cok_23 rfl ?_
  refine own_goto (pc' := 28) d_cok_24 (by decide) (by decide) ?_
  refine own_ireturnN (t := .boolean) rfl (by simp) (by first | exact own_nb0 | exact own_nb1 | rfl) d_cok_28 rfl rfl ?_
  exact ⟨rfl, rfl⟩
abbrev M_law : own_Mi := (x, code, maxLocals, ret, room_1)
theorem pn_law : plainFor (own_Mi.y M_law) = true := plainFor_of_name (by first | (simp [plainName, overriddenIn]; done) | decide +kernel)
set_option maxRecDepth 65536 in
set_option maxHeartbeats 40000000 in
theorem c_law (K : own_Cx) (a0 : Array Value) (hw : ∀ d ∈ tables_1, d.before a0 K.Z = true) (hnw : K.nw = false) (hEL : EW K.Z a0 K.E) (hme : ("java/lang/StringUTF16", 295) ∈ K.E) (hme2 : ("java/lang/StringLatin1", 151) ∈ K.E) (hU : own_U16 K) (rf : Value) (hrf : rf.isRef = true) (SF : Sta K.Z K.Z.heap "jdk/internal/util/Preconditions" "SIOOBE_FORMATTER" "Ljava/util/function/BiFunction;" rf) (g : Int32) (SC : Sta K.Z K.Z.heap "java/lang/String" "COMPACT_STRINGS" "Z" (.int g)) (hg : ¬ g = 0) (p0 p1 p2 p3 : Int32) (h : Heap) :
    own_Met K M_law #[.int p0, .int p1, .int p2, .int p3] [] h (own_ret fun w _ _ => w = .int 1) := by
  have m5 : ∀ z : Int32, ∃ N : Nat, ((z &&& 2147483647) % 5).toInt = N ∧ N ≤ 4 := by
    intro z
    have hx := c_mask z 2147483647 31 (by decide) (by decide)
    have v5 : (5 : Int32).toInt = 5 := rfl
    have hk := (c_iremV (z &&& 2147483647) 5).1 (by rw [hx]; omega) (by decide)
    exact ⟨((z &&& 2147483647) % 5).toInt.toNat, by omega, by omega⟩
  refine own_met_4_9 (M := M_law) pn_law rfl (by first | rfl | exact own_cat (by assumption)) (by first | rfl | exact own_cat (by assumption)) (by first | rfl | exact own_cat (by assumption)) (by first | rfl | exact own_cat (by assumption)) ?_
  refine own_iconst (v := (4 : Int32)) (pc' := 1) rfl at_0 rfl ?_
  refine own_newarray (pc' := 3) rfl at_1 (tw_0 hw) (N := 4) (cap := 4) (by decide) (by decide) rfl rfl rfl ?_
  intro cA q0 ei Es A0
  refine own_astore_4 (pc' := 5) rfl at_3 (by first | exact One.u | exact One.val rfl | assumption | exact One.val (by assumption)) (by first | rfl | assumption) ?_
  refine own_aload (pc' := 7) rfl at_5 rfl (by first | rfl | assumption) ?_
  refine own_iconst (v := (0 : Int32)) (pc' := 8) rfl at_7 rfl ?_
  refine own_iload_n (pc' := 9) rfl at_8 rfl ?_
  refine own_i2c (pc' := 10) rfl at_9 ?_
  refine own_castore (pc' := 11) rfl at_10 A0 (i := 0) (by decide) (by simp) (own_ch_nar p0) (by simp) ?_
  intro q1 kq1 A1
  refine own_aload (pc' := 13) rfl at_11 rfl (by first | rfl | assumption) ?_
  refine own_iconst (v := (1 : Int32)) (pc' := 14) rfl at_13 rfl ?_
  refine own_iload_n (pc' := 15) rfl at_14 rfl ?_
  refine own_bipush (v := (16 : Int32)) (pc' := 17) rfl at_15 rfl ?_
  refine own_iushr (pc' := 18) rfl at_17 ?_
  refine own_i2c (pc' := 19) rfl at_18 ?_
  refine own_castore (pc' := 20) rfl at_19 A1 (i := 1) (by decide) (by simp) (own_ch_nar _) (by simp) ?_
  intro q2 kq2 A2
  refine own_aload (pc' := 22) rfl at_20 rfl (by first | rfl | assumption) ?_
  refine own_iconst (v := (2 : Int32)) (pc' := 23) rfl at_22 rfl ?_
  refine own_iload_n (pc' := 24) rfl at_23 rfl ?_
  refine own_i2c (pc' := 25) rfl at_24 ?_
  refine own_castore (pc' := 26) rfl at_25 A2 (i := 2) (by decide) (by simp) (own_ch_nar p1) (by simp) ?_
  intro q3 kq3 A3
  refine own_aload (pc' := 28) rfl at_26 rfl (by first | rfl | assumption) ?_
  refine own_iconst (v := (3 : Int32)) (pc' := 29) rfl at_28 rfl ?_
  refine own_iload_n (pc' := 30) rfl at_29 rfl ?_
  refine own_bipush (v := (16 : Int32)) (pc' := 32) rfl at_30 rfl ?_
  refine own_iushr (pc' := 33) rfl at_32 ?_
  refine own_i2c (pc' := 34) rfl at_33 ?_
  refine own_castore (pc' := 35) rfl at_34 A3 (i := 3) (by decide) (by simp) (own_ch_nar _) (by simp) ?_
  intro q4 kq4 A4
  obtain ⟨c0, ec0, rc0⟩ : ∃ c, own_ch p0 = c ∧ 0 ≤ c.toInt ∧ c.toInt < 65536 := ⟨_, rfl, own_ch_r p0⟩
  obtain ⟨c1, ec1, rc1⟩ : ∃ c, own_ch (XT.ushr p0 16) = c ∧ 0 ≤ c.toInt ∧ c.toInt < 65536 := ⟨_, rfl, own_ch_r _⟩
  obtain ⟨c2, ec2, rc2⟩ : ∃ c, own_ch p1 = c ∧ 0 ≤ c.toInt ∧ c.toInt < 65536 := ⟨_, rfl, own_ch_r p1⟩
  obtain ⟨c3, ec3, rc3⟩ : ∃ c, own_ch (XT.ushr p1 16) = c ∧ 0 ≤ c.toInt ∧ c.toInt < 65536 := ⟨_, rfl, own_ch_r _⟩
  rw [ec0, ec1, ec2, ec3] at A4
  have IN0 : own_Ary K.Z q4 cA .char (own_ints [c0, c1, c2, c3]) := A4
  have cV0 : own_Chs [c0, c1, c2, c3] := by
    intro c hc
    simp only [List.mem_cons, List.not_mem_nil, or_false] at hc
    rcases hc with rfl | rfl | rfl | rfl <;> assumption
  obtain ⟨cs, hcs⟩ : ∃ cs : List Int32, cs = [c0, c1, c2, c3] := ⟨_, rfl⟩
  have hlen : cs.length = 4 := by rw [hcs]; rfl
  rw [← hcs] at IN0 cV0
  refine own_new (pc' := 38) rfl at_35 (tw_1 hw) (tw_2 hw) (tw_3 hw) rfl rfl ?_
  intro x h2 ex E2 X2 D2
  refine own_dup (pc' := 39) rfl at_38 (by first | rfl | assumption) ?_
  refine own_aload (pc' := 41) rfl at_39 rfl (by first | rfl | assumption) ?_
  refine own_special1n (M' := M_si1) at_41 (pc' := 44) rfl rfl rfl (tw_4 hw) (tw_5 hw) (tw_3 hw) (tw_6 hw) (by decide) rfl (own_lenOf pd_27 rfl) rfl rfl rfl rfl (c_si1 K a0 hw hU x cA g cs h2 (by omega) (by omega) cV0 (IN0.ext E2) X2 (D2 (Or.inr (tw_29 hw)) (ty := .array .byte) (by decide)) (D2 (Or.inr (tw_27 hw)) (ty := .byte) (by decide)) SC hg) (by simp) ?_
  rintro h3 xs3 ⟨k3, S3⟩
  have E3 : Ext q4 h3 := own_ext_keep E2 k3 (by intro z hz; cases List.mem_singleton.mp hz; omega)
  have IN3 := IN0.ext E3
  refine own_astore_5 (pc' := 46) rfl at_44 (by first | exact One.u | exact One.val rfl | assumption | exact One.val (by assumption)) (by first | rfl | assumption) ?_
  refine own_iload_n (pc' := 47) rfl at_46 rfl ?_
  refine own_ldcI (pc' := 49) rfl at_47 (tw_30 hw) ?_
  refine own_iand (pc' := 50) rfl at_49 ?_
  refine own_iconst (v := (5 : Int32)) (pc' := 51) rfl at_50 rfl ?_
  refine own_irem (pc' := 52) rfl at_51 (by decide) ?_
  obtain ⟨a, ea⟩ : ∃ a, (p2 &&& 2147483647) % 5 = a := ⟨_, rfl⟩
  obtain ⟨NA, hNA, hNA4⟩ := m5 p2
  rw [ea] at hNA ⊢
  refine own_istore_6 (pc' := 54) rfl at_52 (by first | exact One.u | exact One.val rfl | assumption | exact One.val (by assumption)) ?_
  refine own_iload_n (pc' := 55) rfl at_54 rfl ?_
  refine own_ldcI (pc' := 57) rfl at_55 (tw_30 hw) ?_
  refine own_iand (pc' := 58) rfl at_57 ?_
  refine own_iconst (v := (5 : Int32)) (pc' := 59) rfl at_58 rfl ?_
  refine own_irem (pc' := 60) rfl at_59 (by decide) ?_
  obtain ⟨b, eb⟩ : ∃ b, (p3 &&& 2147483647) % 5 = b := ⟨_, rfl⟩
  obtain ⟨NB, hNB, hNB4⟩ := m5 p3
  rw [eb] at hNB ⊢
  refine own_istore_7 (pc' := 62) rfl at_60 (by first | exact One.u | exact One.val rfl | assumption | exact One.val (by assumption)) ?_
  refine own_iload (pc' := 64) rfl at_62 rfl ?_
  refine own_iload (pc' := 66) rfl at_64 rfl ?_
  refine own_static2v (M' := M_mmn) at_66 (pc' := 69) rfl (tw_31 hw) (tw_32 hw) (tw_33 hw) (tw_34 hw) (by decide) rfl (own_lenOf pd_14 rfl) rfl rfl rfl rfl (c_mmn K a0 hw a b _) (by simp) ?_
  rintro w h4 xs4 ⟨f, rfl, hf0, rfl⟩
  obtain ⟨F, hf, hF⟩ : ∃ F : Nat, f.toInt = F ∧ F = min NA NB := ⟨min NA NB, by rcases hf0 with ⟨z, rfl⟩ | ⟨z, rfl⟩ <;> omega, rfl⟩
  refine own_istore_8 (pc' := 71) rfl at_69 (by first | exact One.u | exact One.val rfl | assumption | exact One.val (by assumption)) ?_
  refine own_iload (pc' := 73) rfl at_71 rfl ?_
  refine own_iload (pc' := 75) rfl at_73 rfl ?_
  refine own_static2v (M' := M_mmx) at_75 (pc' := 78) rfl (tw_35 hw) (tw_36 hw) (tw_33 hw) (tw_37 hw) (by decide) rfl (own_lenOf pd_14 rfl) rfl rfl rfl rfl (c_mmx K a0 hw a b _) (by simp) ?_
  rintro w h5 xs5 ⟨e, rfl, he0, rfl⟩
  obtain ⟨E, he, hE⟩ : ∃ E : Nat, e.toInt = E ∧ E = max NA NB := ⟨max NA NB, by rcases he0 with ⟨z, rfl⟩ | ⟨z, rfl⟩ <;> omega, rfl⟩
  have hFE : F ≤ E := by omega
  have hE4 : E ≤ cs.length := by omega
  have hef : (e - f).toInt = ((E - F : Nat) : Int) := by rw [own_sub he hf] <;> omega
  refine own_istore_9 (pc' := 80) rfl at_78 (by first | exact One.u | exact One.val rfl | assumption | exact One.val (by assumption)) ?_
  refine own_new (pc' := 83) rfl at_80 (tw_38 hw) (tw_39 hw) (tw_40 hw) rfl rfl ?_
  intro t h6 et E6 X6 D6
  have G1 := D6 (Or.inr (tw_69 hw)) (ty := .object "java/lang/String") (by decide)
  have G2 := D6 (Or.inr (tw_71 hw)) (ty := .int) (by decide)
  have G3 := D6 (Or.inr (tw_73 hw)) (ty := .int) (by decide)
  have S6 := S3.ext E6
  refine own_dup (pc' := 84) rfl at_83 (by first | rfl | assumption) ?_
  refine own_aload (pc' := 86) rfl at_84 rfl (by first | rfl | assumption) ?_
  refine own_iload (pc' := 88) rfl at_86 rfl ?_
  refine own_iload (pc' := 90) rfl at_88 rfl ?_
  refine own_special3n (M' := M_tin) at_90 (pc' := 93) rfl rfl rfl (tw_41 hw) (tw_42 hw) (tw_40 hw) (tw_43 hw) (by decide) rfl (own_lenOf pd_28 rfl) rfl rfl rfl rfl (c_tin K a0 hw g SC hg t x f e cs h6 S6 (by omega) (by omega) (by omega) X6 G1 G2 G3) (by simp) ?_
  rintro h7 xs7 ⟨k7, T7⟩
  have E7 := own_ext_keep E6 k7 (by intro z hz; cases List.mem_singleton.mp hz; omega)
  have S7 := S3.ext E7
  refine own_astore_10 (pc' := 95) rfl at_93 (by first | exact One.u | exact One.val rfl | assumption | exact One.val (by assumption)) (by first | rfl | assumption) ?_
  refine own_aload (pc' := 97) rfl at_95 rfl (by first | rfl | assumption) ?_
  refine own_virtual0v (M' := M_txs) at_97 (pc' := 100) rfl (tw_74 hw) (tw_75 hw) (tw_77 hw) (tw_76 hw) (tw_40 hw) (tw_78 hw) (by decide) rfl (own_lenOf pd_29 rfl) rfl rfl rfl rfl T7.1 (c_txs K a0 hw hnw hEL hme hme2 hU rf hrf SF g SC hg t x f e F E cs h7 hf he hFE hE4 (by omega) S7 T7) (by simp) ?_
  rintro w h8 xs8 ⟨z, rfl, E8, S8⟩
  have IN8 := (IN3.ext E7).ext E8
  have hsl : ((cs.drop F).take (E - F)).length = E - F := own_cut_len (by omega)
  refine own_astore_11 (pc' := 102) rfl at_100 (by first | exact One.u | exact One.val rfl | assumption | exact One.val (by assumption)) (by first | rfl | assumption) ?_
  refine own_iload (pc' := 104) rfl at_102 rfl ?_
  refine own_iload (pc' := 106) rfl at_104 rfl ?_
  refine own_isub (pc' := 107) rfl at_106 ?_
  refine own_istore_12 (pc' := 109) rfl at_107 (by first | exact One.u | exact One.val rfl | assumption | exact One.val (by assumption)) ?_
  refine own_aload (pc' := 111) rfl at_109 rfl (by first | rfl | assumption) ?_
  refine own_virtual0v (M' := M_sl) at_111 (pc' := 114) rfl (tw_118 hw) (tw_51 hw) (tw_53 hw) (tw_52 hw) (tw_3 hw) (tw_54 hw) (by decide) rfl (own_lenOf pd_19 rfl) rfl rfl rfl rfl S8.1 (c_sl K a0 hw g SC hg z _ h8 S8) (by simp) ?_
  rintro w h9 xs9 ⟨rfl, rfl⟩
  refine own_iload (pc' := 116) rfl at_114 rfl ?_
  refine own_icmpeq (pcT := 121) (pcF := 119) at_116 (by decide) (by decide) rfl (fun q => ?_) (fun q => ?_)
  rotate_left 1
  · exact absurd (Int32.toInt_inj.mp (by rw [own_lit _ (by omega), hsl, hef])) q
  refine own_aload (pc' := 123) rfl at_121 rfl (by first | rfl | assumption) ?_
  refine own_aload (pc' := 125) rfl at_123 rfl (by first | rfl | assumption) ?_
  refine own_iload (pc' := 127) rfl at_125 rfl ?_
  refine own_iload (pc' := 129) rfl at_127 rfl ?_
  refine own_iconst (v := (0 : Int32)) (pc' := 130) rfl at_129 rfl ?_
  refine own_static5v (M' := M_cok) at_130 (pc' := 133) rfl (tw_119 hw) (tw_120 hw) (tw_121 hw) (tw_122 hw) (by decide) rfl (own_lenOf pd_30 rfl) rfl rfl rfl rfl (c_cok K a0 hw hU g SC hg rf hrf SF z cA cs f (e - f) 0 F (E - F) 0 _ (by omega) (by omega) S8 IN8 hf hef rfl) (by simp) ?_
  rintro w m0 zs0 ⟨rfl, rfl⟩
  refine own_ifeq (pcT := 185) (pcF := 136) at_133 (by decide) (by decide) rfl (fun u0 => ?_) (fun u0 => ?_)
  · exact absurd u0 (by decide)
  refine own_aload (pc' := 138) rfl at_136 rfl (by first | rfl | assumption) ?_
  refine own_aload (pc' := 140) rfl at_138 rfl (by first | rfl | assumption) ?_
  refine own_iload (pc' := 142) rfl at_140 rfl ?_
  refine own_iload (pc' := 144) rfl at_142 rfl ?_
  refine own_iconst (v := (1 : Int32)) (pc' := 145) rfl at_144 rfl ?_
  refine own_static5v (M' := M_cok) at_145 (pc' := 148) rfl (tw_119 hw) (tw_120 hw) (tw_121 hw) (tw_122 hw) (by decide) rfl (own_lenOf pd_30 rfl) rfl rfl rfl rfl (c_cok K a0 hw hU g SC hg rf hrf SF z cA cs f (e - f) 1 F (E - F) 1 _ (by omega) (by omega) S8 IN8 hf hef rfl) (by simp) ?_
  rintro w m1 zs1 ⟨rfl, rfl⟩
  refine own_ifeq (pcT := 185) (pcF := 151) at_148 (by decide) (by decide) rfl (fun u1 => ?_) (fun u1 => ?_)
  · exact absurd u1 (by decide)
  refine own_aload (pc' := 153) rfl at_151 rfl (by first | rfl | assumption) ?_
  refine own_aload (pc' := 155) rfl at_153 rfl (by first | rfl | assumption) ?_
  refine own_iload (pc' := 157) rfl at_155 rfl ?_
  refine own_iload (pc' := 159) rfl at_157 rfl ?_
  refine own_iconst (v := (2 : Int32)) (pc' := 160) rfl at_159 rfl ?_
  refine own_static5v (M' := M_cok) at_160 (pc' := 163) rfl (tw_119 hw) (tw_120 hw) (tw_121 hw) (tw_122 hw) (by decide) rfl (own_lenOf pd_30 rfl) rfl rfl rfl rfl (c_cok K a0 hw hU g SC hg rf hrf SF z cA cs f (e - f) 2 F (E - F) 2 _ (by omega) (by omega) S8 IN8 hf hef rfl) (by simp) ?_
  rintro w m2 zs2 ⟨rfl, rfl⟩
  refine own_ifeq (pcT := 185) (pcF := 166) at_163 (by decide) (by decide) rfl (fun u2 => ?_) (fun u2 => ?_)
  · exact absurd u2 (by decide)
  refine own_aload (pc' := 168) rfl at_166 rfl (by first | rfl | assumption) ?_
  refine own_aload (pc' := 170) rfl at_168 rfl (by first | rfl | assumption) ?_
  refine own_iload (pc' := 172) rfl at_170 rfl ?_
  refine own_iload (pc' := 174) rfl at_172 rfl ?_
  refine own_iconst (v := (3 : Int32)) (pc' := 175) rfl at_174 rfl ?_
  refine own_static5v (M' := M_cok) at_175 (pc' := 178) rfl (tw_119 hw) (tw_120 hw) (tw_121 hw) (tw_122 hw) (by decide) rfl (own_lenOf pd_30 rfl) rfl rfl rfl rfl (c_cok K a0 hw hU g SC hg rf hrf SF z cA cs f (e - f) 3 F (E - F) 3 _ (by omega) (by omega) S8 IN8 hf hef rfl) (by simp) ?_
  rintro w m3 zs3 ⟨rfl, rfl⟩
  refine own_ifeq (pcT := 185) (pcF := 181) at_178 (by decide) (by decide) rfl (fun u3 => ?_) (fun u3 => ?_)
  · exact absurd u3 (by decide)
  refine own_iconst (v := (1 : Int32)) (pc' := 182) rfl at_181 rfl ?_
  refine own_goto (pc' := 186) at_182 (by decide) (by decide) ?_
  refine own_ireturnN (t := .boolean) rfl (by simp) (by first | exact own_nb0 | exact own_nb1 | rfl) at_186 rfl rfl ?_
  rfl
abbrev own_EL : List (String × Nat) := [("java/lang/StringLatin1", 151), ("java/lang/StringUTF16", 295)]
theorem own_EW {a0 : Array Value} {Z : State} (hw : ∀ d ∈ tables_1, d.before a0 Z = true) : EW Z a0 own_EL := (EW.cons (hw _ (List.mem_of_getElem? (i := 192) rfl)) (by decide +kernel) (EW.cons (hw _ (List.mem_of_getElem? (i := 189) rfl)) (by decide +kernel) EW.nil))
set_option maxRecDepth 65536 in
set_option maxHeartbeats 40000000 in
theorem comes_1 {Post : Tables → Env → Array Value → State → Outcome → State → Prop} (hpost : ∀ tb e args s v u, (limb_1_1.after args s (.returned v) u = true ∧ limb_1_2.after args s (.returned v) u = true ∧ True) → ReturnedEndW s (.returned v) u (Jvm.fieldLocs frame_1_writes args s ++ Jvm.arrayLocs frame_1_arrays args s ++ Jvm.staticLocs frame_1_statics s) 32 2240 → Post tb e args s (.returned v) u) :
    ArmFor flags0 classFile x code maxLocals ret World_1 tables_1 room_1 Calls_1 rest_1 Pre_1 Post := by
  intro l hfl _ _ p e ha hc hk s m args below hf hA hF happ hP
  obtain ⟨hcalls, hrest, hpre⟩ := hP
  obtain ⟨-, -, -, hnamed, -, -, -, hat⟩ := (Spec.applies_iff hf).mp happ
  obtain ⟨hg, hn⟩ := and_e (Cond.before_iff.mp (show (Jvm.Cond.and given_1 narrow_1).before args s = true from hpre))
  obtain ⟨gc, gv⟩ := and_e hg
  obtain ⟨g0, gv⟩ := and_e gv
  obtain ⟨g1, gv⟩ := and_e gv
  obtain ⟨g2, gv⟩ := and_e gv
  obtain ⟨w0, w1, w2, w3, rfl⟩ : ∃ w0 w1 w2 w3 : Value, args = #[w0, w1, w2, w3] := by
    have hs : args.size = 4 := by simpa [Cond.value, given_1] using gc
    obtain ⟨L⟩ := args
    match L, hs with
    | [w0, w1, w2, w3], _ => exact ⟨w0, w1, w2, w3, rfl⟩
  have hw := fun d (hd : d ∈ tables_1) => atoms_spec (ws := Jvm.Cond.code x code maxLocals ret :: tables_1) hat d (List.mem_cons_of_mem _ hd)
  obtain ⟨hsets, hown0⟩ := atoms_of _ (rest_1_c_eq ▸ (show rest_1_c.before _ s = true from hrest))
  have hfit : Fit s := fun {y c} hc i hi => by
    obtain ⟨ha, rfl⟩ := Array.getElem?_eq_some_iff.mp hc
    have q := List.all_eq_true.mp ((Array.all_eq_true_iff_forall_mem.mp hF) _ (Array.getElem_mem ha)) i (List.mem_range.mpr hi)
    simpa [Array.getElem?_eq_getElem hi] using q
  obtain ⟨p0, ev0⟩ := is_v g0
  obtain rfl : w0 = (.int p0) := Option.some.inj ev0
  obtain ⟨p1, ev1⟩ := is_v g1
  obtain rfl : w1 = (.int p1) := Option.some.inj ev1
  obtain ⟨p2, ev2⟩ := is_v g2
  obtain rfl : w2 = (.int p2) := Option.some.inj ev2
  obtain ⟨p3, ev3⟩ := is_v gv
  obtain rfl : w3 = (.int p3) := Option.some.inj ev3
  obtain ⟨gcs, ecs⟩ := is_v (Cond.before_iff.mp (hsets _ (List.mem_of_getElem? (i := 1) rfl)))
  have SC : Sta s s.heap "java/lang/String" "COMPACT_STRINGS" "Z" (.int gcs) := Sta.start ecs (Or.inl (hsets _ (List.mem_of_getElem? (i := 0) rfl)))
  have hgc : ¬ (gcs = (0 : Int32)) := gotF (Cond.eq_ints ecs (Term.int_eval (0))) (not_v (Cond.before_iff.mp (hsets _ (List.mem_of_getElem? (i := 2) rfl))))
  have hEW := own_EW hw
  have hCH : CHv s own_EL s.vm s.heap := CHv.start hEW (fun p hp => hcalls.1 p (by simpa [consts_1] using hp)) (hsets _ (List.mem_of_getElem? (i := 2) rfl)) (tw_19 hw) (tw_2 hw)
  have own_seti : ∀ (t : Term) (i : Int32), (Jvm.Cond.eq t (Term.int i)).before #[.int p0, .int p1, .int p2, .int p3] s = true → t.eval #[.int p0, .int p1, .int p2, .int p3] s none [] s = some (.int i) := by
    intro t i hq
    have hq := Cond.before_iff.mp hq
    obtain ⟨x, y, q1, q2, q3, -⟩ := cmp_v (Or.inl hq)
    cases (Term.int_eval i).symm.trans q2
    cases x <;> simp only [Kin] at q3
    · have := gotT (Cond.eq_ints q1 (Term.int_eval i)) hq
      rw [q1, this]
    all_goals first | (obtain ⟨z, q3⟩ := q3; cases q3) | (cases q3.2)
  have hU : own_U16 (l, s, own_EL, false) := ⟨Sta.start (own_seti _ _ (hsets _ (List.mem_of_getElem? (i := 12) rfl))) (Or.inl (hsets _ (List.mem_of_getElem? (i := 11) rfl))), Sta.start (own_seti _ _ (hsets _ (List.mem_of_getElem? (i := 15) rfl))) (Or.inl (hsets _ (List.mem_of_getElem? (i := 14) rfl))), Sta.start (own_seti _ _ (hsets _ (List.mem_of_getElem? (i := 18) rfl))) (Or.inl (hsets _ (List.mem_of_getElem? (i := 17) rfl)))⟩
  obtain ⟨rf, erf, hrf⟩ := isR_v (Cond.before_iff.mp (hsets _ (List.mem_of_getElem? (i := 8) rfl)))
  have SF : Sta s s.heap "jdk/internal/util/Preconditions" "SIOOBE_FORMATTER" "Ljava/util/function/BiFunction;" rf := Sta.start erf (Or.inl (hsets _ (List.mem_of_getElem? (i := 7) rfl)))
  have main := c_law (l, s, own_EL, false) _ hw rfl hEW (by show _ ∈ own_EL; simp [own_EL]) (by show _ ∈ own_EL; simp [own_EL]) hU rf hrf SF gcs SC hgc p0 p1 p2 p3 s.heap
  obtain ⟨n, o, h1, h2, h3, v, L, xs, rfl, ⟨w, e0, hq⟩, N, hC, hS, hE, hR, hwm⟩ := main tables_1 p e ha hc hk s m _ below hf ((Spec.applies_iff_loose hf).mp happ).1 ⟨rfl, State.Warmed39.refl s, rfl, ⟨_, hEW⟩, hCH, (fun x hx => nomatch hx), own_ext_refl _⟩ trivial
  subst e0
  subst hq
  refine ⟨n, _, h1, h2, h3, hpost _ _ _ _ _ _ ⟨Cond.after_iff.mpr rfl, Cond.after_iff.mpr (eq_i res_at (Term.int_eval (1)) rfl), trivial⟩ ⟨⟨_, rfl⟩, hR.2.1, hR.2.2.1, (hR.2.2.2.sift fun y hy => Or.inr (N y hy)).mono (by decide) (by decide)⟩⟩
theorem main_1_1 : Claimed_1_1 := comes_1 fun _ _ _ _ _ _ h hF => ⟨h.1, hF⟩
theorem main_1_2 : Claimed_1_2 := comes_1 fun _ _ _ _ _ _ h hF => ⟨h.2.1, hF⟩
end Jvm.Pilot.@@N@@
namespace Jvm.Pilot.@@N@@
open Jvm Jvm.ClassFile Sem Op Lib Jvm.Free Jvm.Stand Jvm.Pilot.@@N@@.Jvm.D
/-! MADE BY PROGRAM (witnessworld.py) out of the Statement's table words and the real class files: 25 classes; the members and pool entries that the words name. The judged class is class 1, her method 2. -/
namespace start1
open Jvm.ClassFile
def u (s : String) : CpInfo := .utf8 (stringToUtf16 s)
/-- a pool by its gaps: so many unusable entries, then the entry; so many at the end -/
def gap : Nat → List CpInfo → List CpInfo
  | 0, r => r
  | n + 1, r => .unusable :: gap n r
def poolList (es : List (Nat × CpInfo)) (last : Nat) : List CpInfo := es.foldr (fun e r => gap e.1 (e.2 :: r)) (gap last [])
def pool (es : List (Nat × CpInfo)) (last : Nat) : Array CpInfo := ⟨poolList es last⟩
def fileOf (pool : Array CpInfo) (this : Nat) (attrs : Array Attribute := #[]) (ms : Array MethodInfo := #[]) (fl : Nat := 33) (sup : Nat := 0) (ifs : Array Nat := #[]) (fds : Array FieldInfo := #[]) : ClassFile where
  minorVersion := 0
  majorVersion := 65
  constantPool := pool
  accessFlags := fl
  thisClass := this
  superClass := sup
  interfaces := ifs
  fields := fds
  methods := ms
  attributes := attrs
def plain (name : String) (sup : Option ClassId) : Class where
  name := name
  kind := .ordinary
  loader := none
  accessFlags := 33
  super := sup
  interfaces := #[]
  cf := none
  fields := #[]
  methods := #[]
  instanceTypes := #[]
  staticTypes := #[]
  resolved := #[]
  callSites := []
  init := .initialized
  statics := none
  mirror := none

def pool0 : Array CpInfo := pool [(5, u "<init>"), (0, u "()V"), (1, .class_ 10), (1, u "java/lang/Object")] 113

def k0c0 : Code := { maxStack := 0, maxLocals := 1, code := object_method_1_code, exceptionTable := #[], attributes := #[] }
def k0m0 : Method := { name := "<init>", desc := "()V", sig := { parameters := [], returnType := none }, accessFlags := 1, code := some k0c0 }
/-- java/lang/Object -/
def k0 : Class := { plain "java/lang/Object" none with
  accessFlags := 33
  interfaces := #[]
  cf := some (fileOf pool0 8 #[] #[{ accessFlags := 1, nameIndex := 5, descriptorIndex := 6, attributes := #[] }] 33 0 #[] #[])
  fields := #[]
  methods := #[k0m0]
  instanceTypes := #[]
  staticTypes := #[]
  resolved := Array.replicate 124 none
  statics := none }

def pool1 : Array CpInfo := pool [(2, .class_ 4), (1, u "java/lang/Object"), (0, u "<init>"), (0, u "()V"), (0, .methodref 8 9), (0, .class_ 10), (0, .nameAndType 11 12), (0, u "java/lang/String"), (0, u "charAt"), (0, u "(I)C"), (0, .methodref 8 14), (0, .nameAndType 5 15), (0, u "([C)V"), (0, .integer 2147483647), (0, .methodref 18 19), (0, .class_ 20), (0, .nameAndType 21 22), (0, u "java/lang/Math"), (0, u "min"), (0, u "(II)I"), (0, .methodref 18 24), (0, .nameAndType 25 22), (0, u "max"), (0, .class_ 27), (0, u "com/example/macroweave/macroweave/Text"), (0, .methodref 26 29), (0, .nameAndType 5 30), (0, u "(Ljava/lang/String;II)V"), (0, .methodref 26 32), (0, .nameAndType 33 34), (0, u "toString"), (0, u "()Ljava/lang/String;"), (0, .methodref 8 36), (0, .nameAndType 37 38), (0, u "length"), (0, u "()I"), (0, .methodref 40 41), (0, .class_ 42), (0, .nameAndType 43 44), (0, u "com/example/macroweave/macroweave/TextToStringPinLaw"), (0, u "charOk"), (0, u "(Ljava/lang/String;[CIII)Z"), (3, u "law"), (0, u "(IIII)Z")] 4

def k1m0 : Method := { name := "<init>", desc := "()V", sig := { parameters := [], returnType := none }, accessFlags := 2, code := none }
def k1c1 : Code := { maxStack := 4, maxLocals := 5, code := method_2_code, exceptionTable := #[], attributes := #[] }
def k1m1 : Method := { name := "charOk", desc := "(Ljava/lang/String;[CIII)Z", sig := { parameters := [(.object "java/lang/String"), (.array .char), .int, .int, .int], returnType := some .boolean }, accessFlags := 10, code := some k1c1 }
def k1c2 : Code := { maxStack := 5, maxLocals := 13, code := code, exceptionTable := #[], attributes := #[] }
def k1m2 : Method := { name := "law", desc := "(IIII)Z", sig := { parameters := [.int, .int, .int, .int], returnType := some .boolean }, accessFlags := 9, code := some k1c2 }
/-- com/example/macroweave/macroweave/TextToStringPinLaw -/
def k1 : Class := { plain "com/example/macroweave/macroweave/TextToStringPinLaw" (some 0) with
  accessFlags := 49
  interfaces := #[]
  cf := some (fileOf pool1 40 #[] #[{ accessFlags := 2, nameIndex := 5, descriptorIndex := 6, attributes := #[] }, { accessFlags := 10, nameIndex := 43, descriptorIndex := 44, attributes := #[] }, { accessFlags := 9, nameIndex := 48, descriptorIndex := 49, attributes := #[] }] 49 2 #[] #[])
  fields := #[]
  methods := #[k1m0, k1m1, k1m2]
  instanceTypes := #[]
  staticTypes := #[]
  resolved := Array.replicate 54 none
  statics := none }

def pool2 : Array CpInfo := pool [(1, .class_ 2), (0, u "java/io/Serializable"), (0, .class_ 4), (0, u "java/lang/Object")] 2

/-- java/io/Serializable -/
def k2 : Class := { plain "java/io/Serializable" (some 0) with
  accessFlags := 1537
  interfaces := #[]
  cf := some (fileOf pool2 1 #[] #[] 1537 3 #[] #[])
  fields := #[]
  methods := #[]
  instanceTypes := #[]
  staticTypes := #[]
  resolved := Array.replicate 7 none
  statics := none }

def pool3 : Array CpInfo := pool [(1, .class_ 2), (0, u "java/lang/Comparable"), (0, .class_ 4), (0, u "java/lang/Object")] 7

/-- java/lang/Comparable -/
def k3 : Class := { plain "java/lang/Comparable" (some 0) with
  accessFlags := 1537
  interfaces := #[]
  cf := some (fileOf pool3 1 #[] #[] 1537 3 #[] #[])
  fields := #[]
  methods := #[]
  instanceTypes := #[]
  staticTypes := #[]
  resolved := Array.replicate 12 none
  statics := none }

def pool4 : Array CpInfo := pool [(2, .class_ 4), (1, u "java/lang/CharSequence"), (42, .class_ 48), (0, u "java/lang/CharSequence$1CodePointIterator"), (10, .class_ 60), (0, u "java/lang/CharSequence$1CharIterator"), (5, .class_ 67), (0, u "java/lang/Object")] 63

/-- java/lang/CharSequence -/
def k4 : Class := { plain "java/lang/CharSequence" (some 0) with
  accessFlags := 1537
  interfaces := #[]
  cf := some (fileOf pool4 2 #[.nestMembers #[47, 59]] #[] 1537 66 #[] #[])
  fields := #[]
  methods := #[]
  instanceTypes := #[]
  staticTypes := #[]
  resolved := Array.replicate 131 none
  statics := none }

def pool5 : Array CpInfo := pool [(1, .class_ 2), (0, u "java/lang/constant/Constable"), (0, .class_ 4), (0, u "java/lang/Object")] 6

/-- java/lang/constant/Constable -/
def k5 : Class := { plain "java/lang/constant/Constable" (some 0) with
  accessFlags := 1537
  interfaces := #[]
  cf := some (fileOf pool5 1 #[] #[] 1537 3 #[] #[])
  fields := #[]
  methods := #[]
  instanceTypes := #[]
  staticTypes := #[]
  resolved := Array.replicate 11 none
  statics := none }

def pool6 : Array CpInfo := pool [(1, .class_ 2), (0, u "java/lang/constant/ConstantDesc"), (0, .class_ 4), (0, u "java/lang/Object")] 32

/-- java/lang/constant/ConstantDesc -/
def k6 : Class := { plain "java/lang/constant/ConstantDesc" (some 0) with
  accessFlags := 1537
  interfaces := #[]
  cf := some (fileOf pool6 1 #[] #[] 1537 3 #[] #[])
  fields := #[]
  methods := #[]
  instanceTypes := #[]
  staticTypes := #[]
  resolved := Array.replicate 37 none
  statics := none }

def pool7 : Array CpInfo := pool [(1, .methodref 2 3), (0, .class_ 4), (0, .nameAndType 5 6), (0, u "java/lang/Object"), (0, u "<init>"), (0, u "()V"), (2, .fieldref 10 11), (0, .class_ 12), (0, .nameAndType 13 14), (0, u "java/lang/String"), (0, u "value"), (0, u "[B"), (0, .fieldref 10 16), (0, .nameAndType 17 18), (0, u "coder"), (0, u "B"), (2, u "hash"), (0, u "I"), (2, u "hashIsZero"), (0, u "Z"), (0, .methodref 10 28), (0, .nameAndType 5 29), (0, u "([CIILjava/lang/Void;)V"), (6, u "checkBoundsOffCount"), (0, u "(III)I"), (0, .fieldref 10 39), (0, .nameAndType 40 26), (0, u "COMPACT_STRINGS"), (1, .class_ 44), (1, u "java/lang/StringUTF16"), (0, u "compress"), (1, .methodref 42 48), (0, .nameAndType 49 50), (0, u "coderFromArrayLen"), (0, u "([BI)B"), (56, .class_ 109), (1, u "java/lang/StringLatin1"), (32, u "()Z"), (34, .methodref 42 178), (0, .nameAndType 45 179), (0, u "([CII)[B"), (31, u "([BB)V"), (122, u "()I"), (0, .methodref 10 336), (0, .nameAndType 17 337), (0, u "()B"), (25, u "([BI)C"), (27, u "(II)V"), (35, u "(I)C"), (64, .methodref 10 493), (0, .nameAndType 494 142), (0, u "isLatin1"), (0, .methodref 107 496), (0, .nameAndType 497 363), (0, u "charAt"), (0, .methodref 42 496), (2, u "checkIndex"), (3, .methodref 10 506), (0, .nameAndType 507 334), (0, u "length"), (5, u "checkFromToIndex"), (7, .methodref 10 522), (0, .nameAndType 523 524), (0, u "checkBoundsBeginEnd"), (0, u "(III)V"), (50, .class_ 576), (0, u "java/lang/CharSequence"), (22, u "CASE_INSENSITIVE_ORDER"), (0, u "Ljava/util/Comparator;"), (82, u "substring"), (0, u "(II)Ljava/lang/String;"), (0, .methodref 107 686), (0, .nameAndType 687 688), (0, u "newString"), (0, u "([BII)Ljava/lang/String;"), (0, .methodref 42 686), (320, u "([C)V"), (42, .fieldref 1054 1055), (0, .class_ 1056), (0, .nameAndType 1057 1058), (0, u "jdk/internal/util/Preconditions"), (0, u "SIOOBE_FORMATTER"), (0, u "Ljava/util/function/BiFunction;"), (0, .methodref 1054 1060), (0, .nameAndType 501 1061), (0, u "(IILjava/util/function/BiFunction;)I"), (0, .methodref 1054 1063), (0, .nameAndType 513 1064), (0, u "(IIILjava/util/function/BiFunction;)I"), (0, .methodref 1054 1066), (0, .nameAndType 1067 1064), (0, u "checkFromIndexSize"), (33, u "serialPersistentFields"), (0, u "[Ljava/io/ObjectStreamField;"), (0, .class_ 1104), (0, u "java/lang/String$CaseInsensitiveComparator"), (1, .class_ 1107), (0, u "java/io/Serializable"), (0, .class_ 1109), (0, u "java/lang/Comparable"), (0, .class_ 1111), (0, u "java/lang/constant/Constable"), (0, .class_ 1113), (0, u "java/lang/constant/ConstantDesc"), (2, u "serialVersionUID"), (0, u "J"), (3, u "REPL"), (0, u "C"), (2, u "LATIN1"), (1, u "UTF16")] 323

def k7m0 : Method := { name := "<init>", desc := "()V", sig := { parameters := [], returnType := none }, accessFlags := 1, code := none }
def k7c1 : Code := { maxStack := 5, maxLocals := 2, code := jdk_42_method_3_code, exceptionTable := #[], attributes := #[] }
def k7m1 : Method := { name := "<init>", desc := "([C)V", sig := { parameters := [(.array .char)], returnType := none }, accessFlags := 1, code := some k7c1 }
def k7c2 : Code := { maxStack := 2, maxLocals := 1, code := jdk_42_method_54_code, exceptionTable := #[], attributes := #[] }
def k7m2 : Method := { name := "length", desc := "()I", sig := { parameters := [], returnType := some .int }, accessFlags := 1, code := some k7c2 }
def k7c3 : Code := { maxStack := 2, maxLocals := 2, code := jdk_42_method_56_code, exceptionTable := #[], attributes := #[] }
def k7m3 : Method := { name := "charAt", desc := "(I)C", sig := { parameters := [.int], returnType := some .char }, accessFlags := 1, code := some k7c3 }
def k7c4 : Code := { maxStack := 3, maxLocals := 5, code := jdk_42_method_92_code, exceptionTable := #[], attributes := #[] }
def k7m4 : Method := { name := "substring", desc := "(II)Ljava/lang/String;", sig := { parameters := [.int, .int], returnType := some (.object "java/lang/String") }, accessFlags := 1, code := some k7c4 }
def k7c5 : Code := { maxStack := 4, maxLocals := 6, code := jdk_42_method_149_code, exceptionTable := #[], attributes := #[] }
def k7m5 : Method := { name := "<init>", desc := "([CIILjava/lang/Void;)V", sig := { parameters := [(.array .char), .int, .int, (.object "java/lang/Void")], returnType := none }, accessFlags := 2, code := some k7c5 }
def k7c6 : Code := { maxStack := 2, maxLocals := 3, code := jdk_42_method_151_code, exceptionTable := #[], attributes := #[] }
def k7m6 : Method := { name := "<init>", desc := "([BB)V", sig := { parameters := [(.array .byte), .byte], returnType := none }, accessFlags := 0, code := some k7c6 }
def k7c7 : Code := { maxStack := 1, maxLocals := 1, code := jdk_42_method_152_code, exceptionTable := #[], attributes := #[] }
def k7m7 : Method := { name := "coder", desc := "()B", sig := { parameters := [], returnType := some .byte }, accessFlags := 0, code := some k7c7 }
def k7c8 : Code := { maxStack := 1, maxLocals := 1, code := jdk_42_method_154_code, exceptionTable := #[], attributes := #[] }
def k7m8 : Method := { name := "isLatin1", desc := "()Z", sig := { parameters := [], returnType := some .boolean }, accessFlags := 0, code := some k7c8 }
def k7c9 : Code := { maxStack := 3, maxLocals := 2, code := jdk_42_method_155_code, exceptionTable := #[], attributes := #[] }
def k7m9 : Method := { name := "checkIndex", desc := "(II)V", sig := { parameters := [.int, .int], returnType := none }, accessFlags := 8, code := some k7c9 }
def k7c10 : Code := { maxStack := 4, maxLocals := 3, code := jdk_42_method_157_code, exceptionTable := #[], attributes := #[] }
def k7m10 : Method := { name := "checkBoundsOffCount", desc := "(III)I", sig := { parameters := [.int, .int, .int], returnType := some .int }, accessFlags := 8, code := some k7c10 }
def k7c11 : Code := { maxStack := 4, maxLocals := 3, code := jdk_42_method_158_code, exceptionTable := #[], attributes := #[] }
def k7m11 : Method := { name := "checkBoundsBeginEnd", desc := "(III)V", sig := { parameters := [.int, .int, .int], returnType := none }, accessFlags := 8, code := some k7c11 }
/-- java/lang/String -/
def k7 : Class := { plain "java/lang/String" (some 0) with
  accessFlags := 49
  interfaces := #[2, 3, 4, 5, 6]
  cf := some (fileOf pool7 10 #[.nestMembers #[1103]] #[{ accessFlags := 1, nameIndex := 5, descriptorIndex := 6, attributes := #[] }, { accessFlags := 1, nameIndex := 5, descriptorIndex := 1010, attributes := #[] }, { accessFlags := 1, nameIndex := 507, descriptorIndex := 334, attributes := #[] }, { accessFlags := 1, nameIndex := 497, descriptorIndex := 427, attributes := #[] }, { accessFlags := 1, nameIndex := 683, descriptorIndex := 684, attributes := #[] }, { accessFlags := 2, nameIndex := 5, descriptorIndex := 29, attributes := #[] }, { accessFlags := 0, nameIndex := 5, descriptorIndex := 211, attributes := #[] }, { accessFlags := 0, nameIndex := 17, descriptorIndex := 337, attributes := #[] }, { accessFlags := 0, nameIndex := 494, descriptorIndex := 142, attributes := #[] }, { accessFlags := 8, nameIndex := 501, descriptorIndex := 391, attributes := #[] }, { accessFlags := 8, nameIndex := 36, descriptorIndex := 37, attributes := #[] }, { accessFlags := 8, nameIndex := 523, descriptorIndex := 524, attributes := #[] }] 49 2 #[1106, 1108, 575, 1110, 1112] #[{ accessFlags := 18, nameIndex := 13, descriptorIndex := 14, attributes := #[] }, { accessFlags := 18, nameIndex := 17, descriptorIndex := 18, attributes := #[] }, { accessFlags := 2, nameIndex := 21, descriptorIndex := 22, attributes := #[] }, { accessFlags := 2, nameIndex := 25, descriptorIndex := 26, attributes := #[] }, { accessFlags := 26, nameIndex := 1116, descriptorIndex := 1117, attributes := #[] }, { accessFlags := 24, nameIndex := 40, descriptorIndex := 26, attributes := #[] }, { accessFlags := 26, nameIndex := 1101, descriptorIndex := 1102, attributes := #[] }, { accessFlags := 26, nameIndex := 1121, descriptorIndex := 1122, attributes := #[] }, { accessFlags := 25, nameIndex := 599, descriptorIndex := 600, attributes := #[] }, { accessFlags := 24, nameIndex := 1125, descriptorIndex := 18, attributes := #[] }, { accessFlags := 24, nameIndex := 1127, descriptorIndex := 18, attributes := #[] }])
  fields := #[{ name := "value", type := (.array .byte), accessFlags := 18, slot := 0, constantValue := 0 }, { name := "coder", type := .byte, accessFlags := 18, slot := 1, constantValue := 0 }, { name := "hash", type := .int, accessFlags := 2, slot := 2, constantValue := 0 }, { name := "hashIsZero", type := .boolean, accessFlags := 2, slot := 3, constantValue := 0 }, { name := "serialVersionUID", type := .long, accessFlags := 26, slot := 0, constantValue := 0 }, { name := "COMPACT_STRINGS", type := .boolean, accessFlags := 24, slot := 1, constantValue := 0 }, { name := "serialPersistentFields", type := (.array (.object "java/io/ObjectStreamField")), accessFlags := 26, slot := 2, constantValue := 0 }, { name := "REPL", type := .char, accessFlags := 26, slot := 3, constantValue := 0 }, { name := "CASE_INSENSITIVE_ORDER", type := (.object "java/util/Comparator"), accessFlags := 25, slot := 4, constantValue := 0 }, { name := "LATIN1", type := .byte, accessFlags := 24, slot := 5, constantValue := 0 }, { name := "UTF16", type := .byte, accessFlags := 24, slot := 6, constantValue := 0 }]
  methods := #[k7m0, k7m1, k7m2, k7m3, k7m4, k7m5, k7m6, k7m7, k7m8, k7m9, k7m10, k7m11]
  instanceTypes := #[(.array .byte), .byte, .int, .boolean]
  staticTypes := #[.long, .boolean, (.array (.object "java/io/ObjectStreamField")), .char, (.object "java/util/Comparator"), .byte, .byte]
  resolved := Array.replicate 1451 none
  statics := some 0 }

def pool8 : Array CpInfo := pool [(3, .class_ 4), (0, u "java/lang/String"), (1, .class_ 8), (1, u "java/lang/Object"), (0, u "<init>"), (0, u "()V"), (0, .methodref 12 13), (0, .class_ 14), (0, .nameAndType 15 16), (0, u "java/lang/StringUTF16"), (0, u "newBytesLength"), (0, u "(I)I"), (3, .integer 1073741823), (23, .fieldref 12 45), (0, .nameAndType 46 47), (0, u "$assertionsDisabled"), (0, u "Z"), (0, .methodref 12 49), (0, .nameAndType 50 51), (0, u "length"), (0, u "([B)I"), (7, .fieldref 12 60), (0, .nameAndType 61 62), (0, u "HI_BYTE_SHIFT"), (0, u "I"), (0, .fieldref 12 64), (0, .nameAndType 65 62), (0, u "LO_BYTE_SHIFT"), (1, .methodref 12 68), (0, .nameAndType 69 70), (0, u "checkIndex"), (0, u "(I[B)V"), (0, .methodref 12 72), (0, .nameAndType 73 74), (0, u "getChar"), (0, u "([BI)C"), (24, u "(II[B)V"), (7, .methodref 12 108), (0, .nameAndType 109 110), (0, u "newBytesFor"), (0, u "(I)[B"), (0, .methodref 12 112), (0, .nameAndType 113 114), (0, u "putChar"), (0, u "([BII)V"), (0, .methodref 12 116), (0, .nameAndType 117 118), (0, u "compress"), (0, u "([CI[BII)I"), (0, .methodref 12 120), (0, .nameAndType 121 122), (0, u "toBytes"), (0, u "([CII)[B"), (0, .methodref 12 124), (0, .nameAndType 117 125), (0, u "([BI[BII)I"), (0, .methodref 127 128), (0, .class_ 129), (0, .nameAndType 130 131), (0, u "java/util/Arrays"), (0, u "copyOfRange"), (0, u "([BII)[B"), (41, .methodref 12 174), (0, .nameAndType 175 99), (0, u "checkBoundsOffCount"), (75, .fieldref 3 252), (0, .nameAndType 253 47), (0, u "COMPACT_STRINGS"), (3, .methodref 12 258), (0, .nameAndType 117 131), (0, .methodref 12 260), (0, .nameAndType 261 262), (0, u "coderFromArrayLen"), (0, u "([BI)B"), (0, .methodref 3 264), (0, .nameAndType 9 265), (0, u "([BB)V"), (15, u "(III)I"), (13, .string 296), (0, u ""), (30, u "newString"), (0, u "([BII)Ljava/lang/String;"), (40, .class_ 371), (1, u "java/lang/StringUTF16$LinesSpliterator"), (20, u "charAt"), (21, .methodref 3 415), (0, .nameAndType 69 416), (0, u "(II)V"), (2, .methodref 3 420), (0, .nameAndType 175 281), (9, u "MAX_LENGTH"), (196, .class_ 628), (0, u "java/lang/StringUTF16$CodePointsSpliterator"), (0, .class_ 630), (0, u "java/lang/StringUTF16$CharsSpliterator")] 4

def k8m0 : Method := { name := "<init>", desc := "()V", sig := { parameters := [], returnType := none }, accessFlags := 0, code := none }
def k8c1 : Code := { maxStack := 1, maxLocals := 1, code := jdk_52_method_2_code, exceptionTable := #[], attributes := #[] }
def k8m1 : Method := { name := "newBytesFor", desc := "(I)[B", sig := { parameters := [.int], returnType := some (.array .byte) }, accessFlags := 9, code := some k8c1 }
def k8c2 : Code := { maxStack := 4, maxLocals := 1, code := jdk_52_method_3_code, exceptionTable := #[], attributes := #[] }
def k8m2 : Method := { name := "newBytesLength", desc := "(I)I", sig := { parameters := [.int], returnType := some .int }, accessFlags := 9, code := some k8c2 }
def k8c3 : Code := { maxStack := 4, maxLocals := 3, code := jdk_52_method_4_code, exceptionTable := #[], attributes := #[] }
def k8m3 : Method := { name := "putChar", desc := "([BII)V", sig := { parameters := [(.array .byte), .int, .int], returnType := none }, accessFlags := 8, code := some k8c3 }
def k8c4 : Code := { maxStack := 3, maxLocals := 2, code := jdk_52_method_5_code, exceptionTable := #[], attributes := #[] }
def k8m4 : Method := { name := "getChar", desc := "([BI)C", sig := { parameters := [(.array .byte), .int], returnType := some .char }, accessFlags := 8, code := some k8c4 }
def k8c5 : Code := { maxStack := 2, maxLocals := 1, code := jdk_52_method_6_code, exceptionTable := #[], attributes := #[] }
def k8m5 : Method := { name := "length", desc := "([B)I", sig := { parameters := [(.array .byte)], returnType := some .int }, accessFlags := 9, code := some k8c5 }
def k8c6 : Code := { maxStack := 4, maxLocals := 5, code := jdk_52_method_14_code, exceptionTable := #[], attributes := #[] }
def k8m6 : Method := { name := "toBytes", desc := "([CII)[B", sig := { parameters := [(.array .char), .int, .int], returnType := some (.array .byte) }, accessFlags := 9, code := some k8c6 }
def k8c7 : Code := { maxStack := 2, maxLocals := 2, code := jdk_52_method_15_code, exceptionTable := #[], attributes := #[] }
def k8m7 : Method := { name := "coderFromArrayLen", desc := "([BI)B", sig := { parameters := [(.array .byte), .int], returnType := some .byte }, accessFlags := 8, code := some k8c7 }
def k8c8 : Code := { maxStack := 5, maxLocals := 6, code := jdk_52_method_16_code, exceptionTable := #[], attributes := #[] }
def k8m8 : Method := { name := "compress", desc := "([CII)[B", sig := { parameters := [(.array .char), .int, .int], returnType := some (.array .byte) }, accessFlags := 9, code := some k8c8 }
def k8c9 : Code := { maxStack := 5, maxLocals := 6, code := jdk_52_method_17_code, exceptionTable := #[], attributes := #[] }
def k8m9 : Method := { name := "compress", desc := "([BII)[B", sig := { parameters := [(.array .byte), .int, .int], returnType := some (.array .byte) }, accessFlags := 9, code := some k8c9 }
def k8c10 : Code := { maxStack := 3, maxLocals := 7, code := jdk_52_method_21_code, exceptionTable := #[], attributes := #[] }
def k8m10 : Method := { name := "compress", desc := "([CI[BII)I", sig := { parameters := [(.array .char), .int, (.array .byte), .int, .int], returnType := some .int }, accessFlags := 9, code := some k8c10 }
def k8c11 : Code := { maxStack := 3, maxLocals := 7, code := jdk_52_method_22_code, exceptionTable := #[], attributes := #[] }
def k8m11 : Method := { name := "compress", desc := "([BI[BII)I", sig := { parameters := [(.array .byte), .int, (.array .byte), .int, .int], returnType := some .int }, accessFlags := 9, code := some k8c11 }
def k8c12 : Code := { maxStack := 6, maxLocals := 5, code := jdk_52_method_69_code, exceptionTable := #[], attributes := #[] }
def k8m12 : Method := { name := "newString", desc := "([BII)Ljava/lang/String;", sig := { parameters := [(.array .byte), .int, .int], returnType := some (.object "java/lang/String") }, accessFlags := 9, code := some k8c12 }
def k8c13 : Code := { maxStack := 2, maxLocals := 2, code := jdk_52_method_83_code, exceptionTable := #[], attributes := #[] }
def k8m13 : Method := { name := "charAt", desc := "([BI)C", sig := { parameters := [(.array .byte), .int], returnType := some .char }, accessFlags := 9, code := some k8c13 }
def k8c14 : Code := { maxStack := 2, maxLocals := 2, code := jdk_52_method_91_code, exceptionTable := #[], attributes := #[] }
def k8m14 : Method := { name := "checkIndex", desc := "(I[B)V", sig := { parameters := [.int, (.array .byte)], returnType := none }, accessFlags := 9, code := some k8c14 }
def k8c15 : Code := { maxStack := 3, maxLocals := 3, code := jdk_52_method_94_code, exceptionTable := #[], attributes := #[] }
def k8m15 : Method := { name := "checkBoundsOffCount", desc := "(II[B)V", sig := { parameters := [.int, .int, (.array .byte)], returnType := none }, accessFlags := 9, code := some k8c15 }
/-- java/lang/StringUTF16 -/
def k8 : Class := { plain "java/lang/StringUTF16" (some 0) with
  accessFlags := 48
  interfaces := #[]
  cf := some (fileOf pool8 12 #[.nestMembers #[627, 629, 369]] #[{ accessFlags := 0, nameIndex := 9, descriptorIndex := 10, attributes := #[] }, { accessFlags := 9, nameIndex := 109, descriptorIndex := 110, attributes := #[] }, { accessFlags := 9, nameIndex := 15, descriptorIndex := 16, attributes := #[] }, { accessFlags := 8, nameIndex := 113, descriptorIndex := 114, attributes := #[] }, { accessFlags := 8, nameIndex := 73, descriptorIndex := 74, attributes := #[] }, { accessFlags := 9, nameIndex := 50, descriptorIndex := 51, attributes := #[] }, { accessFlags := 9, nameIndex := 121, descriptorIndex := 122, attributes := #[] }, { accessFlags := 8, nameIndex := 261, descriptorIndex := 262, attributes := #[] }, { accessFlags := 9, nameIndex := 117, descriptorIndex := 122, attributes := #[] }, { accessFlags := 9, nameIndex := 117, descriptorIndex := 131, attributes := #[] }, { accessFlags := 9, nameIndex := 117, descriptorIndex := 118, attributes := #[] }, { accessFlags := 9, nameIndex := 117, descriptorIndex := 125, attributes := #[] }, { accessFlags := 9, nameIndex := 327, descriptorIndex := 328, attributes := #[] }, { accessFlags := 9, nameIndex := 392, descriptorIndex := 74, attributes := #[] }, { accessFlags := 9, nameIndex := 69, descriptorIndex := 70, attributes := #[] }, { accessFlags := 9, nameIndex := 175, descriptorIndex := 99, attributes := #[] }] 48 6 #[] #[{ accessFlags := 26, nameIndex := 61, descriptorIndex := 62, attributes := #[] }, { accessFlags := 26, nameIndex := 65, descriptorIndex := 62, attributes := #[] }, { accessFlags := 24, nameIndex := 430, descriptorIndex := 62, attributes := #[] }, { accessFlags := 4120, nameIndex := 46, descriptorIndex := 47, attributes := #[] }])
  fields := #[{ name := "HI_BYTE_SHIFT", type := .int, accessFlags := 26, slot := 0, constantValue := 0 }, { name := "LO_BYTE_SHIFT", type := .int, accessFlags := 26, slot := 1, constantValue := 0 }, { name := "MAX_LENGTH", type := .int, accessFlags := 24, slot := 2, constantValue := 0 }, { name := "$assertionsDisabled", type := .boolean, accessFlags := 4120, slot := 3, constantValue := 0 }]
  methods := #[k8m0, k8m1, k8m2, k8m3, k8m4, k8m5, k8m6, k8m7, k8m8, k8m9, k8m10, k8m11, k8m12, k8m13, k8m14, k8m15]
  instanceTypes := #[]
  staticTypes := #[.int, .int, .int, .boolean]
  resolved := Array.replicate 635 none
  statics := some 1 }

def pool9 : Array CpInfo := pool [(1, .class_ 2), (0, u "java/lang/Math"), (1, .class_ 6), (1, u "java/lang/Object"), (0, u "<init>"), (0, u "()V"), (89, .class_ 100), (1, u "java/lang/Math$RandomNumberGeneratorHolder"), (71, u "negativeZeroFloatBits"), (0, u "J"), (2, u "negativeZeroDoubleBits"), (21, u "max"), (2, u "min"), (43, u "$assertionsDisabled"), (0, u "Z"), (88, u "(II)I"), (2, u "twoToTheDoubleScaleDown"), (0, u "D"), (4, u "twoToTheDoubleScaleUp"), (9, u "E"), (3, u "PI"), (2, u "TAU"), (2, u "DEGREES_TO_RADIANS"), (0, u "RADIANS_TO_DEGREES")] 94

def k9m0 : Method := { name := "<init>", desc := "()V", sig := { parameters := [], returnType := none }, accessFlags := 2, code := none }
def k9c1 : Code := { maxStack := 2, maxLocals := 2, code := jdk_29_method_65_code, exceptionTable := #[], attributes := #[] }
def k9m1 : Method := { name := "max", desc := "(II)I", sig := { parameters := [.int, .int], returnType := some .int }, accessFlags := 9, code := some k9c1 }
def k9c2 : Code := { maxStack := 2, maxLocals := 2, code := jdk_29_method_69_code, exceptionTable := #[], attributes := #[] }
def k9m2 : Method := { name := "min", desc := "(II)I", sig := { parameters := [.int, .int], returnType := some .int }, accessFlags := 9, code := some k9c2 }
/-- java/lang/Math -/
def k9 : Class := { plain "java/lang/Math" (some 0) with
  accessFlags := 49
  interfaces := #[]
  cf := some (fileOf pool9 1 #[.nestMembers #[98]] #[{ accessFlags := 2, nameIndex := 7, descriptorIndex := 8, attributes := #[] }, { accessFlags := 9, nameIndex := 198, descriptorIndex := 335, attributes := #[] }, { accessFlags := 9, nameIndex := 201, descriptorIndex := 335, attributes := #[] }] 49 4 #[] #[{ accessFlags := 25, nameIndex := 354, descriptorIndex := 339, attributes := #[] }, { accessFlags := 25, nameIndex := 358, descriptorIndex := 339, attributes := #[] }, { accessFlags := 25, nameIndex := 361, descriptorIndex := 339, attributes := #[] }, { accessFlags := 26, nameIndex := 364, descriptorIndex := 339, attributes := #[] }, { accessFlags := 26, nameIndex := 365, descriptorIndex := 339, attributes := #[] }, { accessFlags := 26, nameIndex := 172, descriptorIndex := 173, attributes := #[] }, { accessFlags := 26, nameIndex := 176, descriptorIndex := 173, attributes := #[] }, { accessFlags := 8, nameIndex := 344, descriptorIndex := 339, attributes := #[] }, { accessFlags := 8, nameIndex := 338, descriptorIndex := 339, attributes := #[] }, { accessFlags := 4120, nameIndex := 245, descriptorIndex := 246, attributes := #[] }])
  fields := #[{ name := "E", type := .double, accessFlags := 25, slot := 0, constantValue := 0 }, { name := "PI", type := .double, accessFlags := 25, slot := 1, constantValue := 0 }, { name := "TAU", type := .double, accessFlags := 25, slot := 2, constantValue := 0 }, { name := "DEGREES_TO_RADIANS", type := .double, accessFlags := 26, slot := 3, constantValue := 0 }, { name := "RADIANS_TO_DEGREES", type := .double, accessFlags := 26, slot := 4, constantValue := 0 }, { name := "negativeZeroFloatBits", type := .long, accessFlags := 26, slot := 5, constantValue := 0 }, { name := "negativeZeroDoubleBits", type := .long, accessFlags := 26, slot := 6, constantValue := 0 }, { name := "twoToTheDoubleScaleUp", type := .double, accessFlags := 8, slot := 7, constantValue := 0 }, { name := "twoToTheDoubleScaleDown", type := .double, accessFlags := 8, slot := 8, constantValue := 0 }, { name := "$assertionsDisabled", type := .boolean, accessFlags := 4120, slot := 9, constantValue := 0 }]
  methods := #[k9m0, k9m1, k9m2]
  instanceTypes := #[]
  staticTypes := #[.double, .double, .double, .double, .double, .long, .long, .double, .double, .boolean]
  resolved := Array.replicate 460 none
  statics := none }

def pool10 : Array CpInfo := pool [(1, .methodref 2 3), (0, .class_ 4), (0, .nameAndType 5 6), (0, u "java/lang/Object"), (0, u "<init>"), (0, u "()V"), (0, .class_ 8), (0, u "java/lang/Record")] 13

def k10c0 : Code := { maxStack := 1, maxLocals := 1, code := jdk_30_method_1_code, exceptionTable := #[], attributes := #[] }
def k10m0 : Method := { name := "<init>", desc := "()V", sig := { parameters := [], returnType := none }, accessFlags := 4, code := some k10c0 }
/-- java/lang/Record -/
def k10 : Class := { plain "java/lang/Record" (some 0) with
  accessFlags := 1057
  interfaces := #[]
  cf := some (fileOf pool10 7 #[] #[{ accessFlags := 4, nameIndex := 5, descriptorIndex := 6, attributes := #[] }] 1057 2 #[] #[])
  fields := #[]
  methods := #[k10m0]
  instanceTypes := #[]
  staticTypes := #[]
  resolved := Array.replicate 22 none
  statics := none }

def pool11 : Array CpInfo := pool [(1, .methodref 2 3), (0, .class_ 4), (0, .nameAndType 5 6), (0, u "java/lang/Record"), (0, u "<init>"), (0, u "()V"), (0, .methodref 8 9), (0, .class_ 10), (0, .nameAndType 11 12), (0, u "java/lang/String"), (0, u "length"), (0, u "()I"), (0, .methodref 14 15), (0, .class_ 16), (0, .nameAndType 17 18), (0, u "java/util/Objects"), (0, u "checkFromToIndex"), (0, u "(III)I"), (0, .fieldref 20 21), (0, .class_ 22), (0, .nameAndType 23 24), (0, u "com/example/macroweave/macroweave/Text"), (0, u "string"), (0, u "Ljava/lang/String;"), (0, .fieldref 20 26), (0, .nameAndType 27 28), (0, u "start"), (0, u "I"), (0, .fieldref 20 30), (0, .nameAndType 31 28), (0, u "end"), (2, u "(Ljava/lang/String;II)V"), (13, .methodref 8 49), (0, .nameAndType 50 51), (0, u "substring"), (0, u "(II)Ljava/lang/String;"), (39, u "EMPTY"), (0, u "Lcom/example/macroweave/macroweave/Text;"), (0, .class_ 94), (0, u "java/lang/CharSequence"), (5, u "toString"), (0, u "()Ljava/lang/String;")] 33

def k11c0 : Code := { maxStack := 3, maxLocals := 4, code := prog_64_method_1_code, exceptionTable := #[], attributes := #[] }
def k11m0 : Method := { name := "<init>", desc := "(Ljava/lang/String;II)V", sig := { parameters := [(.object "java/lang/String"), .int, .int], returnType := none }, accessFlags := 0, code := some k11c0 }
def k11c1 : Code := { maxStack := 3, maxLocals := 1, code := prog_64_method_7_code, exceptionTable := #[], attributes := #[] }
def k11m1 : Method := { name := "toString", desc := "()Ljava/lang/String;", sig := { parameters := [], returnType := some (.object "java/lang/String") }, accessFlags := 1, code := some k11c1 }
/-- com/example/macroweave/macroweave/Text -/
def k11 : Class := { plain "com/example/macroweave/macroweave/Text" (some 10) with
  accessFlags := 48
  interfaces := #[4]
  cf := some (fileOf pool11 20 #[] #[{ accessFlags := 0, nameIndex := 5, descriptorIndex := 34, attributes := #[] }, { accessFlags := 1, nameIndex := 100, descriptorIndex := 101, attributes := #[] }] 48 2 #[93] #[{ accessFlags := 18, nameIndex := 23, descriptorIndex := 24, attributes := #[] }, { accessFlags := 18, nameIndex := 27, descriptorIndex := 28, attributes := #[] }, { accessFlags := 18, nameIndex := 31, descriptorIndex := 28, attributes := #[] }, { accessFlags := 24, nameIndex := 91, descriptorIndex := 92, attributes := #[] }])
  fields := #[{ name := "string", type := (.object "java/lang/String"), accessFlags := 18, slot := 0, constantValue := 0 }, { name := "start", type := .int, accessFlags := 18, slot := 1, constantValue := 0 }, { name := "end", type := .int, accessFlags := 18, slot := 2, constantValue := 0 }, { name := "EMPTY", type := (.object "com/example/macroweave/macroweave/Text"), accessFlags := 24, slot := 0, constantValue := 0 }]
  methods := #[k11m0, k11m1]
  instanceTypes := #[(.object "java/lang/String"), .int, .int]
  staticTypes := #[(.object "com/example/macroweave/macroweave/Text")]
  resolved := Array.replicate 135 none
  statics := none }

def pool12 : Array CpInfo := pool [(2, .class_ 4), (1, u "java/lang/Object"), (0, u "<init>"), (0, u "()V"), (35, .class_ 44), (1, u "java/util/Objects"), (61, .class_ 108), (1, u "jdk/internal/util/Preconditions"), (2, .methodref 106 112), (0, .nameAndType 113 114), (0, u "checkFromToIndex"), (0, u "(IIILjava/util/function/BiFunction;)I"), (60, u "(III)I")] 8

def k12m0 : Method := { name := "<init>", desc := "()V", sig := { parameters := [], returnType := none }, accessFlags := 2, code := none }
def k12c1 : Code := { maxStack := 4, maxLocals := 3, code := jdk_31_method_18_code, exceptionTable := #[], attributes := #[] }
def k12m1 : Method := { name := "checkFromToIndex", desc := "(III)I", sig := { parameters := [.int, .int, .int], returnType := some .int }, accessFlags := 9, code := some k12c1 }
/-- java/util/Objects -/
def k12 : Class := { plain "java/util/Objects" (some 0) with
  accessFlags := 49
  interfaces := #[]
  cf := some (fileOf pool12 42 #[] #[{ accessFlags := 2, nameIndex := 5, descriptorIndex := 6, attributes := #[] }, { accessFlags := 9, nameIndex := 113, descriptorIndex := 175, attributes := #[] }] 49 2 #[] #[])
  fields := #[]
  methods := #[k12m0, k12m1]
  instanceTypes := #[]
  staticTypes := #[]
  resolved := Array.replicate 184 none
  statics := none }

def pool13 : Array CpInfo := pool [(2, .class_ 4), (1, u "java/lang/Object"), (0, u "<init>"), (0, u "()V"), (17, .class_ 26), (1, u "jdk/internal/util/Preconditions"), (6, u "checkIndex"), (13, u "checkFromToIndex"), (1, u "checkFromIndexSize"), (5, .class_ 56), (0, u "jdk/internal/util/Preconditions$4"), (57, .class_ 115), (0, u "jdk/internal/util/Preconditions$1"), (7, u "SIOOBE_FORMATTER"), (0, u "Ljava/util/function/BiFunction;"), (0, .class_ 126), (0, u "jdk/internal/util/Preconditions$2"), (3, u "AIOOBE_FORMATTER"), (0, .class_ 132), (0, u "jdk/internal/util/Preconditions$3"), (3, u "IOOBE_FORMATTER"), (41, u "(IILjava/util/function/BiFunction;)I"), (4, u "(IIILjava/util/function/BiFunction;)I")] 10

def k13m0 : Method := { name := "<init>", desc := "()V", sig := { parameters := [], returnType := none }, accessFlags := 1, code := none }
def k13c1 : Code := { maxStack := 3, maxLocals := 3, code := jdk_41_method_11_code, exceptionTable := #[], attributes := #[] }
def k13m1 : Method := { name := "checkIndex", desc := "(IILjava/util/function/BiFunction;)I", sig := { parameters := [.int, .int, (.object "java/util/function/BiFunction")], returnType := some .int }, accessFlags := 9, code := some k13c1 }
def k13c2 : Code := { maxStack := 4, maxLocals := 4, code := jdk_41_method_12_code, exceptionTable := #[], attributes := #[] }
def k13m2 : Method := { name := "checkFromToIndex", desc := "(IIILjava/util/function/BiFunction;)I", sig := { parameters := [.int, .int, .int, (.object "java/util/function/BiFunction")], returnType := some .int }, accessFlags := 9, code := some k13c2 }
def k13c3 : Code := { maxStack := 4, maxLocals := 4, code := jdk_41_method_13_code, exceptionTable := #[], attributes := #[] }
def k13m3 : Method := { name := "checkFromIndexSize", desc := "(IIILjava/util/function/BiFunction;)I", sig := { parameters := [.int, .int, .int, (.object "java/util/function/BiFunction")], returnType := some .int }, accessFlags := 9, code := some k13c3 }
/-- jdk/internal/util/Preconditions -/
def k13 : Class := { plain "jdk/internal/util/Preconditions" (some 0) with
  accessFlags := 33
  interfaces := #[]
  cf := some (fileOf pool13 24 #[.nestMembers #[55, 131, 125, 114]] #[{ accessFlags := 1, nameIndex := 5, descriptorIndex := 6, attributes := #[] }, { accessFlags := 9, nameIndex := 33, descriptorIndex := 178, attributes := #[] }, { accessFlags := 9, nameIndex := 47, descriptorIndex := 183, attributes := #[] }, { accessFlags := 9, nameIndex := 49, descriptorIndex := 183, attributes := #[] }] 33 2 #[] #[{ accessFlags := 25, nameIndex := 123, descriptorIndex := 124, attributes := #[] }, { accessFlags := 25, nameIndex := 130, descriptorIndex := 124, attributes := #[] }, { accessFlags := 25, nameIndex := 136, descriptorIndex := 124, attributes := #[] }])
  fields := #[{ name := "SIOOBE_FORMATTER", type := (.object "java/util/function/BiFunction"), accessFlags := 25, slot := 0, constantValue := 0 }, { name := "AIOOBE_FORMATTER", type := (.object "java/util/function/BiFunction"), accessFlags := 25, slot := 1, constantValue := 0 }, { name := "IOOBE_FORMATTER", type := (.object "java/util/function/BiFunction"), accessFlags := 25, slot := 2, constantValue := 0 }]
  methods := #[k13m0, k13m1, k13m2, k13m3]
  instanceTypes := #[]
  staticTypes := #[(.object "java/util/function/BiFunction"), (.object "java/util/function/BiFunction"), (.object "java/util/function/BiFunction")]
  resolved := Array.replicate 194 none
  statics := some 2 }

def pool14 : Array CpInfo := pool [(1, .class_ 2), (0, u "java/lang/String"), (1, .class_ 6), (1, u "java/lang/Object"), (0, u "<init>"), (0, u "()V"), (0, .methodref 1 10), (0, .nameAndType 11 12), (0, u "checkIndex"), (0, u "(II)V"), (1, .class_ 16), (1, u "java/lang/StringLatin1"), (36, u "([BI)C"), (58, .methodref 1 113), (0, .nameAndType 7 114), (0, u "([BB)V"), (6, u "$assertionsDisabled"), (0, u "Z"), (8, .class_ 133), (1, u "java/util/Arrays"), (17, .string 152), (0, u ""), (43, u "newString"), (0, u "([BII)Ljava/lang/String;"), (23, .class_ 223), (1, u "java/lang/StringLatin1$LinesSpliterator"), (8, .methodref 131 233), (0, .nameAndType 234 235), (0, u "copyOfRange"), (0, u "([BII)[B"), (16, u "charAt"), (137, .class_ 391), (0, u "java/lang/StringLatin1$CharsSpliterator")] 3

def k14m0 : Method := { name := "<init>", desc := "()V", sig := { parameters := [], returnType := none }, accessFlags := 0, code := none }
def k14c1 : Code := { maxStack := 2, maxLocals := 2, code := jdk_43_method_2_code, exceptionTable := #[], attributes := #[] }
def k14m1 : Method := { name := "charAt", desc := "([BI)C", sig := { parameters := [(.array .byte), .int], returnType := some .char }, accessFlags := 9, code := some k14c1 }
def k14c2 : Code := { maxStack := 6, maxLocals := 3, code := jdk_43_method_47_code, exceptionTable := #[], attributes := #[] }
def k14m2 : Method := { name := "newString", desc := "([BII)Ljava/lang/String;", sig := { parameters := [(.array .byte), .int, .int], returnType := some (.object "java/lang/String") }, accessFlags := 9, code := some k14c2 }
/-- java/lang/StringLatin1 -/
def k14 : Class := { plain "java/lang/StringLatin1" (some 0) with
  accessFlags := 48
  interfaces := #[]
  cf := some (fileOf pool14 14 #[.nestMembers #[390, 221]] #[{ accessFlags := 0, nameIndex := 7, descriptorIndex := 8, attributes := #[] }, { accessFlags := 9, nameIndex := 252, descriptorIndex := 53, attributes := #[] }, { accessFlags := 9, nameIndex := 196, descriptorIndex := 197, attributes := #[] }] 48 4 #[] #[{ accessFlags := 4120, nameIndex := 121, descriptorIndex := 122, attributes := #[] }])
  fields := #[{ name := "$assertionsDisabled", type := .boolean, accessFlags := 4120, slot := 0, constantValue := 0 }]
  methods := #[k14m0, k14m1, k14m2]
  instanceTypes := #[]
  staticTypes := #[.boolean]
  resolved := Array.replicate 395 none
  statics := none }

def pool15 : Array CpInfo := pool [(2, .class_ 4), (1, u "java/lang/Object"), (0, u "<init>"), (0, u "()V"), (7, .class_ 16), (1, u "java/util/Arrays"), (57, .class_ 76), (1, u "java/util/Arrays$NaturalOrder"), (36, .class_ 115), (1, u "java/util/Arrays$LegacyMergeSort"), (1, u "Z"), (21, u "copyOfRange"), (10, .methodref 151 152), (0, .class_ 153), (0, .nameAndType 154 155), (0, u "java/lang/System"), (0, u "arraycopy"), (0, u "(Ljava/lang/Object;ILjava/lang/Object;II)V"), (148, .methodref 305 306), (0, .class_ 307), (0, .nameAndType 308 309), (0, u "java/lang/Math"), (0, u "min"), (0, u "(II)I"), (29, .methodref 14 340), (0, .nameAndType 341 342), (0, u "copyOfRangeByte"), (0, u "([BII)[B"), (0, .methodref 14 344), (0, .nameAndType 345 346), (0, u "checkLength"), (0, u "(II)V"), (28, .class_ 376), (0, u "java/util/Arrays$ArrayList"), (68, u "$assertionsDisabled"), (269, u "MIN_ARRAY_SORT_GRAN"), (0, u "I"), (2, u "INSERTIONSORT_THRESHOLD"), (255, .class_ 976), (0, u "java/util/Arrays$ArrayItr")] 52

def k15m0 : Method := { name := "<init>", desc := "()V", sig := { parameters := [], returnType := none }, accessFlags := 2, code := none }
def k15c1 : Code := { maxStack := 4, maxLocals := 2, code := jdk_65_method_131_code, exceptionTable := #[], attributes := #[] }
def k15m1 : Method := { name := "checkLength", desc := "(II)V", sig := { parameters := [.int, .int], returnType := none }, accessFlags := 10, code := some k15c1 }
def k15c2 : Code := { maxStack := 3, maxLocals := 3, code := jdk_65_method_132_code, exceptionTable := #[], attributes := #[] }
def k15m2 : Method := { name := "copyOfRange", desc := "([BII)[B", sig := { parameters := [(.array .byte), .int, .int], returnType := some (.array .byte) }, accessFlags := 9, code := some k15c2 }
def k15c3 : Code := { maxStack := 6, maxLocals := 5, code := jdk_65_method_133_code, exceptionTable := #[], attributes := #[] }
def k15m3 : Method := { name := "copyOfRangeByte", desc := "([BII)[B", sig := { parameters := [(.array .byte), .int, .int], returnType := some (.array .byte) }, accessFlags := 10, code := some k15c3 }
/-- java/util/Arrays -/
def k15 : Class := { plain "java/util/Arrays" (some 0) with
  accessFlags := 49
  interfaces := #[]
  cf := some (fileOf pool15 14 #[.nestMembers #[975, 375, 113, 74]] #[{ accessFlags := 2, nameIndex := 5, descriptorIndex := 6, attributes := #[] }, { accessFlags := 10, nameIndex := 345, descriptorIndex := 346, attributes := #[] }, { accessFlags := 9, nameIndex := 139, descriptorIndex := 342, attributes := #[] }, { accessFlags := 10, nameIndex := 341, descriptorIndex := 342, attributes := #[] }] 49 2 #[] #[{ accessFlags := 26, nameIndex := 715, descriptorIndex := 716, attributes := #[] }, { accessFlags := 26, nameIndex := 719, descriptorIndex := 716, attributes := #[] }, { accessFlags := 4120, nameIndex := 445, descriptorIndex := 117, attributes := #[] }])
  fields := #[{ name := "MIN_ARRAY_SORT_GRAN", type := .int, accessFlags := 26, slot := 0, constantValue := 0 }, { name := "INSERTIONSORT_THRESHOLD", type := .int, accessFlags := 26, slot := 1, constantValue := 0 }, { name := "$assertionsDisabled", type := .boolean, accessFlags := 4120, slot := 2, constantValue := 0 }]
  methods := #[k15m0, k15m1, k15m2, k15m3]
  instanceTypes := #[]
  staticTypes := #[.int, .int, .boolean]
  resolved := Array.replicate 1029 none
  statics := none }

def pool16 : Array CpInfo := pool [(2, .class_ 4), (1, u "java/lang/Object"), (0, u "<init>"), (0, u "()V"), (1, .class_ 10), (1, u "java/lang/System"), (0, u "allowSecurityManager"), (0, u "I"), (16, u "cons"), (0, u "Ljava/io/Console;"), (77, .class_ 110), (1, u "java/lang/System$CallersHolder"), (43, u "initialErrStream"), (0, u "Ljava/io/PrintStream;"), (19, u "security"), (0, u "Ljava/lang/SecurityManager;"), (31, .class_ 209), (0, u "java/lang/System$1"), (7, u "props"), (0, u "Ljava/util/Properties;"), (2, u "lineSeparator"), (0, u "Ljava/lang/String;"), (96, .class_ 321), (1, u "java/lang/System$LoggerFinder"), (5, .class_ 328), (0, u "java/lang/System$Logger"), (67, u "err"), (2, u "out"), (91, u "notSupportedJnuEncoding"), (15, u "in"), (17, u "initialIn"), (0, u "Ljava/io/InputStream;"), (35, u "bootLayer"), (0, u "Ljava/lang/ModuleLayer;"), (99, .class_ 664), (0, u "java/lang/System$2"), (9, u "NEVER"), (2, u "MAYBE"), (49, u "arraycopy"), (0, u "(Ljava/lang/Object;ILjava/lang/Object;II)V"), (72, .class_ 802), (0, u "java/lang/System$Logger$Level")] 31

def k16m0 : Method := { name := "<init>", desc := "()V", sig := { parameters := [], returnType := none }, accessFlags := 2, code := none }
def k16m1 : Method := { name := "arraycopy", desc := "(Ljava/lang/Object;ILjava/lang/Object;II)V", sig := { parameters := [(.object "java/lang/Object"), .int, (.object "java/lang/Object"), .int, .int], returnType := none }, accessFlags := 265, code := none }
/-- java/lang/System -/
def k16 : Class := { plain "java/lang/System" (some 0) with
  accessFlags := 49
  interfaces := #[]
  cf := some (fileOf pool16 8 #[.nestMembers #[319, 327, 801, 108, 663, 208]] #[{ accessFlags := 2, nameIndex := 5, descriptorIndex := 6, attributes := #[] }, { accessFlags := 265, nameIndex := 727, descriptorIndex := 728, attributes := #[] }] 49 2 #[] #[{ accessFlags := 25, nameIndex := 507, descriptorIndex := 526, attributes := #[] }, { accessFlags := 25, nameIndex := 399, descriptorIndex := 155, attributes := #[] }, { accessFlags := 25, nameIndex := 396, descriptorIndex := 155, attributes := #[] }, { accessFlags := 10, nameIndex := 525, descriptorIndex := 526, attributes := #[] }, { accessFlags := 26, nameIndex := 674, descriptorIndex := 12, attributes := #[] }, { accessFlags := 26, nameIndex := 677, descriptorIndex := 12, attributes := #[] }, { accessFlags := 10, nameIndex := 11, descriptorIndex := 12, attributes := #[] }, { accessFlags := 74, nameIndex := 175, descriptorIndex := 176, attributes := #[] }, { accessFlags := 10, nameIndex := 491, descriptorIndex := 222, attributes := #[] }, { accessFlags := 74, nameIndex := 29, descriptorIndex := 30, attributes := #[] }, { accessFlags := 74, nameIndex := 154, descriptorIndex := 155, attributes := #[] }, { accessFlags := 10, nameIndex := 217, descriptorIndex := 218, attributes := #[] }, { accessFlags := 10, nameIndex := 221, descriptorIndex := 222, attributes := #[] }, { accessFlags := 8, nameIndex := 562, descriptorIndex := 563, attributes := #[] }])
  fields := #[{ name := "in", type := (.object "java/io/InputStream"), accessFlags := 25, slot := 0, constantValue := 0 }, { name := "out", type := (.object "java/io/PrintStream"), accessFlags := 25, slot := 1, constantValue := 0 }, { name := "err", type := (.object "java/io/PrintStream"), accessFlags := 25, slot := 2, constantValue := 0 }, { name := "initialIn", type := (.object "java/io/InputStream"), accessFlags := 10, slot := 3, constantValue := 0 }, { name := "NEVER", type := .int, accessFlags := 26, slot := 4, constantValue := 0 }, { name := "MAYBE", type := .int, accessFlags := 26, slot := 5, constantValue := 0 }, { name := "allowSecurityManager", type := .int, accessFlags := 10, slot := 6, constantValue := 0 }, { name := "security", type := (.object "java/lang/SecurityManager"), accessFlags := 74, slot := 7, constantValue := 0 }, { name := "notSupportedJnuEncoding", type := (.object "java/lang/String"), accessFlags := 10, slot := 8, constantValue := 0 }, { name := "cons", type := (.object "java/io/Console"), accessFlags := 74, slot := 9, constantValue := 0 }, { name := "initialErrStream", type := (.object "java/io/PrintStream"), accessFlags := 74, slot := 10, constantValue := 0 }, { name := "props", type := (.object "java/util/Properties"), accessFlags := 10, slot := 11, constantValue := 0 }, { name := "lineSeparator", type := (.object "java/lang/String"), accessFlags := 10, slot := 12, constantValue := 0 }, { name := "bootLayer", type := (.object "java/lang/ModuleLayer"), accessFlags := 8, slot := 13, constantValue := 0 }]
  methods := #[k16m0, k16m1]
  instanceTypes := #[]
  staticTypes := #[(.object "java/io/InputStream"), (.object "java/io/PrintStream"), (.object "java/io/PrintStream"), (.object "java/io/InputStream"), .int, .int, .int, (.object "java/lang/SecurityManager"), (.object "java/lang/String"), (.object "java/io/Console"), (.object "java/io/PrintStream"), (.object "java/util/Properties"), (.object "java/lang/String"), (.object "java/lang/ModuleLayer")]
  resolved := Array.replicate 834 none
  statics := none }

def pool17 : Array CpInfo := pool [(9, u "<init>"), (6, .class_ 18), (1, u "java/lang/Object"), (0, u "()V"), (1, .class_ 23), (1, u "jdk/internal/util/ArraysSupport"), (0, u "LOG2_ARRAY_LONG_INDEX_SCALE"), (0, u "I"), (2, u "U"), (0, u "Ljdk/internal/misc/Unsafe;"), (8, u "BIG_ENDIAN"), (0, u "Z"), (8, u "LOG2_BYTE_BIT_SIZE"), (4, u "LOG2_ARRAY_INT_INDEX_SCALE"), (54, u "JLA"), (0, u "Ljdk/internal/access/JavaLangAccess;"), (11, u "LOG2_ARRAY_BOOLEAN_INDEX_SCALE"), (9, u "LOG2_ARRAY_BYTE_INDEX_SCALE"), (5, u "LOG2_ARRAY_CHAR_INDEX_SCALE"), (5, u "LOG2_ARRAY_SHORT_INDEX_SCALE"), (18, u "LOG2_ARRAY_FLOAT_INDEX_SCALE"), (24, u "LOG2_ARRAY_DOUBLE_INDEX_SCALE"), (89, u "T_BOOLEAN"), (2, u "T_CHAR"), (1, u "T_FLOAT"), (1, u "T_DOUBLE"), (1, u "T_BYTE"), (1, u "T_SHORT"), (1, u "T_INT"), (1, u "T_LONG"), (1, u "SOFT_MAX_ARRAY_LENGTH")] 83

def k17m0 : Method := { name := "<init>", desc := "()V", sig := { parameters := [], returnType := none }, accessFlags := 2, code := none }
/-- jdk/internal/util/ArraysSupport -/
def k17 : Class := { plain "jdk/internal/util/ArraysSupport" (some 0) with
  accessFlags := 33
  interfaces := #[]
  cf := some (fileOf pool17 21 #[] #[{ accessFlags := 2, nameIndex := 9, descriptorIndex := 19, attributes := #[] }] 33 16 #[] #[{ accessFlags := 24, nameIndex := 28, descriptorIndex := 29, attributes := #[] }, { accessFlags := 26, nameIndex := 38, descriptorIndex := 39, attributes := #[] }, { accessFlags := 25, nameIndex := 121, descriptorIndex := 25, attributes := #[] }, { accessFlags := 25, nameIndex := 131, descriptorIndex := 25, attributes := #[] }, { accessFlags := 25, nameIndex := 137, descriptorIndex := 25, attributes := #[] }, { accessFlags := 25, nameIndex := 143, descriptorIndex := 25, attributes := #[] }, { accessFlags := 25, nameIndex := 53, descriptorIndex := 25, attributes := #[] }, { accessFlags := 25, nameIndex := 24, descriptorIndex := 25, attributes := #[] }, { accessFlags := 25, nameIndex := 162, descriptorIndex := 25, attributes := #[] }, { accessFlags := 25, nameIndex := 187, descriptorIndex := 25, attributes := #[] }, { accessFlags := 26, nameIndex := 48, descriptorIndex := 25, attributes := #[] }, { accessFlags := 25, nameIndex := 277, descriptorIndex := 25, attributes := #[] }, { accessFlags := 25, nameIndex := 280, descriptorIndex := 25, attributes := #[] }, { accessFlags := 25, nameIndex := 282, descriptorIndex := 25, attributes := #[] }, { accessFlags := 25, nameIndex := 284, descriptorIndex := 25, attributes := #[] }, { accessFlags := 25, nameIndex := 286, descriptorIndex := 25, attributes := #[] }, { accessFlags := 25, nameIndex := 288, descriptorIndex := 25, attributes := #[] }, { accessFlags := 25, nameIndex := 290, descriptorIndex := 25, attributes := #[] }, { accessFlags := 25, nameIndex := 292, descriptorIndex := 25, attributes := #[] }, { accessFlags := 26, nameIndex := 108, descriptorIndex := 109, attributes := #[] }, { accessFlags := 25, nameIndex := 294, descriptorIndex := 25, attributes := #[] }])
  fields := #[{ name := "U", type := (.object "jdk/internal/misc/Unsafe"), accessFlags := 24, slot := 0, constantValue := 0 }, { name := "BIG_ENDIAN", type := .boolean, accessFlags := 26, slot := 1, constantValue := 0 }, { name := "LOG2_ARRAY_BOOLEAN_INDEX_SCALE", type := .int, accessFlags := 25, slot := 2, constantValue := 0 }, { name := "LOG2_ARRAY_BYTE_INDEX_SCALE", type := .int, accessFlags := 25, slot := 3, constantValue := 0 }, { name := "LOG2_ARRAY_CHAR_INDEX_SCALE", type := .int, accessFlags := 25, slot := 4, constantValue := 0 }, { name := "LOG2_ARRAY_SHORT_INDEX_SCALE", type := .int, accessFlags := 25, slot := 5, constantValue := 0 }, { name := "LOG2_ARRAY_INT_INDEX_SCALE", type := .int, accessFlags := 25, slot := 6, constantValue := 0 }, { name := "LOG2_ARRAY_LONG_INDEX_SCALE", type := .int, accessFlags := 25, slot := 7, constantValue := 0 }, { name := "LOG2_ARRAY_FLOAT_INDEX_SCALE", type := .int, accessFlags := 25, slot := 8, constantValue := 0 }, { name := "LOG2_ARRAY_DOUBLE_INDEX_SCALE", type := .int, accessFlags := 25, slot := 9, constantValue := 0 }, { name := "LOG2_BYTE_BIT_SIZE", type := .int, accessFlags := 26, slot := 10, constantValue := 0 }, { name := "T_BOOLEAN", type := .int, accessFlags := 25, slot := 11, constantValue := 0 }, { name := "T_CHAR", type := .int, accessFlags := 25, slot := 12, constantValue := 0 }, { name := "T_FLOAT", type := .int, accessFlags := 25, slot := 13, constantValue := 0 }, { name := "T_DOUBLE", type := .int, accessFlags := 25, slot := 14, constantValue := 0 }, { name := "T_BYTE", type := .int, accessFlags := 25, slot := 15, constantValue := 0 }, { name := "T_SHORT", type := .int, accessFlags := 25, slot := 16, constantValue := 0 }, { name := "T_INT", type := .int, accessFlags := 25, slot := 17, constantValue := 0 }, { name := "T_LONG", type := .int, accessFlags := 25, slot := 18, constantValue := 0 }, { name := "JLA", type := (.object "jdk/internal/access/JavaLangAccess"), accessFlags := 26, slot := 19, constantValue := 0 }, { name := "SOFT_MAX_ARRAY_LENGTH", type := .int, accessFlags := 25, slot := 20, constantValue := 0 }]
  methods := #[k17m0]
  instanceTypes := #[]
  staticTypes := #[(.object "jdk/internal/misc/Unsafe"), .boolean, .int, .int, .int, .int, .int, .int, .int, .int, .int, .int, .int, .int, .int, .int, .int, .int, .int, (.object "jdk/internal/access/JavaLangAccess"), .int]
  resolved := Array.replicate 378 none
  statics := none }

def pool18 : Array CpInfo := pool [(1, u "java/lang/Cloneable"), (0, .class_ 1), (0, u "java/lang/Object"), (0, .class_ 3)] 3

/-- java/lang/Cloneable -/
def k18 : Class := { plain "java/lang/Cloneable" (some 0) with
  accessFlags := 1537
  interfaces := #[]
  cf := some (fileOf pool18 2 #[] #[] 1537 4 #[] #[])
  fields := #[]
  methods := #[]
  instanceTypes := #[]
  staticTypes := #[]
  resolved := Array.replicate 8 none
  statics := none }

/-- the primitive byte -/
def k19 : Class := { plain "byte" none with kind := .primitive 'B', accessFlags := 0x411 }
/-- [B -/
def k20 : Class := { plain "[B" (some 0) with kind := .array 19 .byte, interfaces := #[18, 2], accessFlags := 1041 }

/-- the primitive char -/
def k21 : Class := { plain "char" none with kind := .primitive 'C', accessFlags := 0x411 }
/-- [C -/
def k22 : Class := { plain "[C" (some 0) with kind := .array 21 .char, interfaces := #[18, 2], accessFlags := 1041 }

/-- the primitive int -/
def k23 : Class := { plain "int" none with kind := .primitive 'I', accessFlags := 0x411 }
/-- [I -/
def k24 : Class := { plain "[I" (some 0) with kind := .array 23 .int, interfaces := #[18, 2], accessFlags := 1041 }

def heap : Heap := #[{ cls := 7, slots := #[.long 0, .int 1, .null, .int 0, .null, .int 0, .int 0], vm := .statics 7 },
  { cls := 8, slots := #[.int 0, .int 8, .int 0, .int 1], vm := .statics 8 },
  { cls := 13, slots := #[.null, .null, .null], vm := .statics 13 }]
def classes : Array Class := #[k0, k1, k2, k3, k4, k5, k6, k7, k8, k9, k10, k11, k12, k13, k14, k15, k16, k17, k18, k19, k20, k21, k22, k23, k24]
def interned : List (Array UInt16 × Addr) := []
def slotsUsed : Nat := 14
def theMethod : MethodId := ⟨1, 2⟩
def args0 : Array Value := #[.int 5, .int 6, .int 7, .int 8]
def aboutOver (below : List Frame) : State where
  vm := { classes := classes, interned := interned.toArray }
  heap := heap
  slotsUsed := slotsUsed
  threads := #[{ frames := .invoking theMethod args0 :: below }]
def below0 : List Frame := [.native { method := ⟨0, 0⟩, args := #[] }]
def about1 : State := aboutOver below0
def p0 : Program := .bare "" "" ""
def e0 : Env := launch0.env 0 0 0
theorem w_frames : about1.frames = Frame.invoking theMethod args0 :: below0 := rfl
set_option maxRecDepth 65536 in
theorem w_args : argsFit about1.vm theMethod args0 = true := by decide +kernel
set_option maxRecDepth 65536 in
theorem w_heap : heapFits about1 = true := by decide +kernel
set_option maxRecDepth 65536 in
theorem w_runnable : about1.curStatus? = some .runnable := by decide +kernel
set_option maxRecDepth 65536 in
theorem w_alone : about1.alone = true := by decide +kernel
set_option maxRecDepth 65536 in
theorem w_named : about1.methodNamed? x = some theMethod := by decide +kernel
set_option maxRecDepth 65536 in
theorem w_hears : about1.hears theMethod below0 = true := by decide +kernel
set_option maxRecDepth 65536 in
theorem w_ripe : about1.ripe theMethod args0 below0 = true := by decide +kernel
theorem w_running : about1.status = .running := rfl
set_option maxRecDepth 65536 in
theorem w_room : about1.hasRoom e0.platform room_1 = true :=
  launch0.hasRoom_least _ room_1 (by decide +kernel) (by decide +kernel) (by decide +kernel) (by decide +kernel) (by decide +kernel) (by decide +kernel)
theorem allAtoms_all (ts : List Jvm.Cond) (a : Array Jvm.Value) (st : Jvm.State) : (allAtoms ts).before a st = ts.all (fun c => c.before a st) := by
  induction ts with
  | nil => rfl
  | cons c t ih =>
    show (Jvm.Cond.and c (allAtoms t)).before a st = _
    rw [Jvm.Cond.before_and, ih, List.all_cons]
def words1 : List Jvm.Cond := Jvm.Cond.code x code maxLocals ret :: tables_1
/-- a 'code' word, met by the world's own term for the bytes: nothing is compared byte by byte -/
theorem code_word {y : MethodName} {bytes : ByteArray} {mx : Nat} {rt : Option FieldType} {a : Array Value} {s : State} {m : MethodId} {meth : Method} {c : Code} (h1 : s.methodNamed? y = some m) (h2 : s.vm.method? m = some meth) (h3 : meth.code = some c) (h4 : c.code = bytes)
    (h5 : (c.maxLocals == mx && c.exceptionTable.isEmpty && decide (c.maxStack ≤ mostOperands) && decide (meth.sig.returnType = rt) && !meth.locks && decide (parseMethodDescriptor y.desc = some meth.sig)) = true) : (Jvm.Cond.code y bytes mx rt).before a s = true := by
  simp only [Bool.and_eq_true, beq_iff_eq, Bool.not_eq_true', decide_eq_true_eq] at h5
  obtain ⟨⟨⟨⟨⟨g1, g2⟩, g3⟩, g4⟩, g5⟩, g6⟩ := h5
  simp [Cond.before, Cond.holds, Cond.value, h1, h2, h3, h4, g1, g2, g3, g4, g5, g6]
def isCode : Jvm.Cond → Bool
  | .code _ _ _ _ => true
  | _ => false
theorem all_split {L : List Jvm.Cond} {P : Jvm.Cond → Bool} (h1 : L.all (fun c => isCode c || P c) = true) (h2 : ∀ c ∈ L.filter isCode, P c = true) : L.all P = true := by
  refine List.all_eq_true.mpr fun c hc => ?_
  have h := List.all_eq_true.mp h1 c hc
  rcases Bool.eq_false_or_eq_true (isCode c) with hi | hi
  · exact h2 c (List.mem_filter.mpr ⟨hc, hi⟩)
  · simpa [hi] using h
set_option maxRecDepth 65536 in
theorem w_c0 : (Jvm.Cond.code x code maxLocals ret).before args0 about1 = true := code_word (m := ⟨1, 2⟩) (meth := k1m2) (c := k1c2) (by decide +kernel) rfl rfl rfl (by decide +kernel)
set_option maxRecDepth 65536 in
theorem w_c1 : (Jvm.Cond.code ({ cls := "java/lang/String", name := "<init>", desc := "([C)V" } : Jvm.MethodName) jdk_42_method_3_code (2 : Nat) (Option.none : Option Jvm.ClassFile.FieldType)).before args0 about1 = true := code_word (m := ⟨7, 1⟩) (meth := k7m1) (c := k7c1) (by decide +kernel) rfl rfl rfl (by decide +kernel)
set_option maxRecDepth 65536 in
theorem w_c2 : (Jvm.Cond.code ({ cls := "java/lang/String", name := "<init>", desc := "([CIILjava/lang/Void;)V" } : Jvm.MethodName) jdk_42_method_149_code (6 : Nat) (Option.none : Option Jvm.ClassFile.FieldType)).before args0 about1 = true := code_word (m := ⟨7, 5⟩) (meth := k7m5) (c := k7c5) (by decide +kernel) rfl rfl rfl (by decide +kernel)
set_option maxRecDepth 65536 in
theorem w_c3 : (Jvm.Cond.code ({ cls := "java/lang/Object", name := "<init>", desc := "()V" } : Jvm.MethodName) object_method_1_code (1 : Nat) (Option.none : Option Jvm.ClassFile.FieldType)).before args0 about1 = true := code_word (m := ⟨0, 0⟩) (meth := k0m0) (c := k0c0) (by decide +kernel) rfl rfl rfl (by decide +kernel)
set_option maxRecDepth 65536 in
theorem w_c4 : (Jvm.Cond.code ({ cls := "java/lang/StringUTF16", name := "compress", desc := "([CII)[B" } : Jvm.MethodName) jdk_52_method_16_code (6 : Nat) (Option.some (Jvm.ClassFile.FieldType.array Jvm.ClassFile.FieldType.byte))).before args0 about1 = true := code_word (m := ⟨8, 8⟩) (meth := k8m8) (c := k8c8) (by decide +kernel) rfl rfl rfl (by decide +kernel)
set_option maxRecDepth 65536 in
theorem w_c5 : (Jvm.Cond.code ({ cls := "java/lang/StringUTF16", name := "compress", desc := "([CI[BII)I" } : Jvm.MethodName) jdk_52_method_21_code (7 : Nat) (Option.some Jvm.ClassFile.FieldType.int)).before args0 about1 = true := code_word (m := ⟨8, 10⟩) (meth := k8m10) (c := k8c10) (by decide +kernel) rfl rfl rfl (by decide +kernel)
set_option maxRecDepth 65536 in
theorem w_c6 : (Jvm.Cond.code ({ cls := "java/lang/StringUTF16", name := "coderFromArrayLen", desc := "([BI)B" } : Jvm.MethodName) jdk_52_method_15_code (2 : Nat) (Option.some Jvm.ClassFile.FieldType.byte)).before args0 about1 = true := code_word (m := ⟨8, 7⟩) (meth := k8m7) (c := k8c7) (by decide +kernel) rfl rfl rfl (by decide +kernel)
set_option maxRecDepth 65536 in
theorem w_c7 : (Jvm.Cond.code ({ cls := "java/lang/Math", name := "min", desc := "(II)I" } : Jvm.MethodName) jdk_29_method_69_code (2 : Nat) (Option.some Jvm.ClassFile.FieldType.int)).before args0 about1 = true := code_word (m := ⟨9, 2⟩) (meth := k9m2) (c := k9c2) (by decide +kernel) rfl rfl rfl (by decide +kernel)
set_option maxRecDepth 65536 in
theorem w_c8 : (Jvm.Cond.code ({ cls := "java/lang/Math", name := "max", desc := "(II)I" } : Jvm.MethodName) jdk_29_method_65_code (2 : Nat) (Option.some Jvm.ClassFile.FieldType.int)).before args0 about1 = true := code_word (m := ⟨9, 1⟩) (meth := k9m1) (c := k9c1) (by decide +kernel) rfl rfl rfl (by decide +kernel)
set_option maxRecDepth 65536 in
theorem w_c9 : (Jvm.Cond.code ({ cls := "com/example/macroweave/macroweave/Text", name := "<init>", desc := "(Ljava/lang/String;II)V" } : Jvm.MethodName) prog_64_method_1_code (4 : Nat) (Option.none : Option Jvm.ClassFile.FieldType)).before args0 about1 = true := code_word (m := ⟨11, 0⟩) (meth := k11m0) (c := k11c0) (by decide +kernel) rfl rfl rfl (by decide +kernel)
set_option maxRecDepth 65536 in
theorem w_c10 : (Jvm.Cond.code ({ cls := "java/lang/Record", name := "<init>", desc := "()V" } : Jvm.MethodName) jdk_30_method_1_code (1 : Nat) (Option.none : Option Jvm.ClassFile.FieldType)).before args0 about1 = true := code_word (m := ⟨10, 0⟩) (meth := k10m0) (c := k10c0) (by decide +kernel) rfl rfl rfl (by decide +kernel)
set_option maxRecDepth 65536 in
theorem w_c11 : (Jvm.Cond.code ({ cls := "java/lang/String", name := "length", desc := "()I" } : Jvm.MethodName) jdk_42_method_54_code (1 : Nat) (Option.some Jvm.ClassFile.FieldType.int)).before args0 about1 = true := code_word (m := ⟨7, 2⟩) (meth := k7m2) (c := k7c2) (by decide +kernel) rfl rfl rfl (by decide +kernel)
set_option maxRecDepth 65536 in
theorem w_c12 : (Jvm.Cond.code ({ cls := "java/lang/String", name := "coder", desc := "()B" } : Jvm.MethodName) jdk_42_method_152_code (1 : Nat) (Option.some Jvm.ClassFile.FieldType.byte)).before args0 about1 = true := code_word (m := ⟨7, 7⟩) (meth := k7m7) (c := k7c7) (by decide +kernel) rfl rfl rfl (by decide +kernel)
set_option maxRecDepth 65536 in
theorem w_c13 : (Jvm.Cond.code ({ cls := "java/util/Objects", name := "checkFromToIndex", desc := "(III)I" } : Jvm.MethodName) jdk_31_method_18_code (3 : Nat) (Option.some Jvm.ClassFile.FieldType.int)).before args0 about1 = true := code_word (m := ⟨12, 1⟩) (meth := k12m1) (c := k12c1) (by decide +kernel) rfl rfl rfl (by decide +kernel)
set_option maxRecDepth 65536 in
theorem w_c14 : (Jvm.Cond.code ({ cls := "jdk/internal/util/Preconditions", name := "checkFromToIndex", desc := "(IIILjava/util/function/BiFunction;)I" } : Jvm.MethodName) jdk_41_method_12_code (4 : Nat) (Option.some Jvm.ClassFile.FieldType.int)).before args0 about1 = true := code_word (m := ⟨13, 2⟩) (meth := k13m2) (c := k13c2) (by decide +kernel) rfl rfl rfl (by decide +kernel)
set_option maxRecDepth 65536 in
theorem w_c15 : (Jvm.Cond.code ({ cls := "com/example/macroweave/macroweave/Text", name := "toString", desc := "()Ljava/lang/String;" } : Jvm.MethodName) prog_64_method_7_code (1 : Nat) (Option.some (Jvm.ClassFile.FieldType.object "java/lang/String"))).before args0 about1 = true := code_word (m := ⟨11, 1⟩) (meth := k11m1) (c := k11c1) (by decide +kernel) rfl rfl rfl (by decide +kernel)
set_option maxRecDepth 65536 in
theorem w_c16 : (Jvm.Cond.code ({ cls := "java/lang/String", name := "substring", desc := "(II)Ljava/lang/String;" } : Jvm.MethodName) jdk_42_method_92_code (5 : Nat) (Option.some (Jvm.ClassFile.FieldType.object "java/lang/String"))).before args0 about1 = true := code_word (m := ⟨7, 4⟩) (meth := k7m4) (c := k7c4) (by decide +kernel) rfl rfl rfl (by decide +kernel)
set_option maxRecDepth 65536 in
theorem w_c17 : (Jvm.Cond.code ({ cls := "java/lang/String", name := "checkBoundsBeginEnd", desc := "(III)V" } : Jvm.MethodName) jdk_42_method_158_code (3 : Nat) (Option.none : Option Jvm.ClassFile.FieldType)).before args0 about1 = true := code_word (m := ⟨7, 11⟩) (meth := k7m11) (c := k7c11) (by decide +kernel) rfl rfl rfl (by decide +kernel)
set_option maxRecDepth 65536 in
theorem w_c18 : (Jvm.Cond.code ({ cls := "java/lang/String", name := "isLatin1", desc := "()Z" } : Jvm.MethodName) jdk_42_method_154_code (1 : Nat) (Option.some Jvm.ClassFile.FieldType.boolean)).before args0 about1 = true := code_word (m := ⟨7, 8⟩) (meth := k7m8) (c := k7c8) (by decide +kernel) rfl rfl rfl (by decide +kernel)
set_option maxRecDepth 65536 in
theorem w_c19 : (Jvm.Cond.code ({ cls := "java/lang/StringLatin1", name := "newString", desc := "([BII)Ljava/lang/String;" } : Jvm.MethodName) jdk_43_method_47_code (3 : Nat) (Option.some (Jvm.ClassFile.FieldType.object "java/lang/String"))).before args0 about1 = true := code_word (m := ⟨14, 2⟩) (meth := k14m2) (c := k14c2) (by decide +kernel) rfl rfl rfl (by decide +kernel)
set_option maxRecDepth 65536 in
theorem w_c20 : (Jvm.Cond.code ({ cls := "java/util/Arrays", name := "copyOfRange", desc := "([BII)[B" } : Jvm.MethodName) jdk_65_method_132_code (3 : Nat) (Option.some (Jvm.ClassFile.FieldType.array Jvm.ClassFile.FieldType.byte))).before args0 about1 = true := code_word (m := ⟨15, 2⟩) (meth := k15m2) (c := k15c2) (by decide +kernel) rfl rfl rfl (by decide +kernel)
set_option maxRecDepth 65536 in
theorem w_c21 : (Jvm.Cond.code ({ cls := "java/util/Arrays", name := "copyOfRangeByte", desc := "([BII)[B" } : Jvm.MethodName) jdk_65_method_133_code (5 : Nat) (Option.some (Jvm.ClassFile.FieldType.array Jvm.ClassFile.FieldType.byte))).before args0 about1 = true := code_word (m := ⟨15, 3⟩) (meth := k15m3) (c := k15c3) (by decide +kernel) rfl rfl rfl (by decide +kernel)
set_option maxRecDepth 65536 in
theorem w_c22 : (Jvm.Cond.code ({ cls := "java/util/Arrays", name := "checkLength", desc := "(II)V" } : Jvm.MethodName) jdk_65_method_131_code (2 : Nat) (Option.none : Option Jvm.ClassFile.FieldType)).before args0 about1 = true := code_word (m := ⟨15, 1⟩) (meth := k15m1) (c := k15c1) (by decide +kernel) rfl rfl rfl (by decide +kernel)
set_option maxRecDepth 65536 in
theorem w_c23 : (Jvm.Cond.code ({ cls := "java/lang/String", name := "<init>", desc := "([BB)V" } : Jvm.MethodName) jdk_42_method_151_code (3 : Nat) (Option.none : Option Jvm.ClassFile.FieldType)).before args0 about1 = true := code_word (m := ⟨7, 6⟩) (meth := k7m6) (c := k7c6) (by decide +kernel) rfl rfl rfl (by decide +kernel)
set_option maxRecDepth 65536 in
theorem w_c24 : (Jvm.Cond.code ({ cls := "com/example/macroweave/macroweave/TextToStringPinLaw", name := "charOk", desc := "(Ljava/lang/String;[CIII)Z" } : Jvm.MethodName) method_2_code (5 : Nat) (Option.some Jvm.ClassFile.FieldType.boolean)).before args0 about1 = true := code_word (m := ⟨1, 1⟩) (meth := k1m1) (c := k1c1) (by decide +kernel) rfl rfl rfl (by decide +kernel)
set_option maxRecDepth 65536 in
theorem w_c25 : (Jvm.Cond.code ({ cls := "java/lang/String", name := "charAt", desc := "(I)C" } : Jvm.MethodName) jdk_42_method_56_code (2 : Nat) (Option.some Jvm.ClassFile.FieldType.char)).before args0 about1 = true := code_word (m := ⟨7, 3⟩) (meth := k7m3) (c := k7c3) (by decide +kernel) rfl rfl rfl (by decide +kernel)
set_option maxRecDepth 65536 in
theorem w_c26 : (Jvm.Cond.code ({ cls := "java/lang/StringLatin1", name := "charAt", desc := "([BI)C" } : Jvm.MethodName) jdk_43_method_2_code (2 : Nat) (Option.some Jvm.ClassFile.FieldType.char)).before args0 about1 = true := code_word (m := ⟨14, 1⟩) (meth := k14m1) (c := k14c1) (by decide +kernel) rfl rfl rfl (by decide +kernel)
set_option maxRecDepth 65536 in
theorem w_c27 : (Jvm.Cond.code ({ cls := "java/lang/String", name := "checkIndex", desc := "(II)V" } : Jvm.MethodName) jdk_42_method_155_code (2 : Nat) (Option.none : Option Jvm.ClassFile.FieldType)).before args0 about1 = true := code_word (m := ⟨7, 9⟩) (meth := k7m9) (c := k7c9) (by decide +kernel) rfl rfl rfl (by decide +kernel)
set_option maxRecDepth 65536 in
theorem w_c28 : (Jvm.Cond.code ({ cls := "jdk/internal/util/Preconditions", name := "checkIndex", desc := "(IILjava/util/function/BiFunction;)I" } : Jvm.MethodName) jdk_41_method_11_code (3 : Nat) (Option.some Jvm.ClassFile.FieldType.int)).before args0 about1 = true := code_word (m := ⟨13, 1⟩) (meth := k13m1) (c := k13c1) (by decide +kernel) rfl rfl rfl (by decide +kernel)
set_option maxRecDepth 65536 in
theorem w_c29 : (Jvm.Cond.code ({ cls := "java/lang/StringUTF16", name := "toBytes", desc := "([CII)[B" } : Jvm.MethodName) jdk_52_method_14_code (5 : Nat) (Option.some (Jvm.ClassFile.FieldType.array Jvm.ClassFile.FieldType.byte))).before args0 about1 = true := code_word (m := ⟨8, 6⟩) (meth := k8m6) (c := k8c6) (by decide +kernel) rfl rfl rfl (by decide +kernel)
set_option maxRecDepth 65536 in
theorem w_c30 : (Jvm.Cond.code ({ cls := "java/lang/StringUTF16", name := "newBytesFor", desc := "(I)[B" } : Jvm.MethodName) jdk_52_method_2_code (1 : Nat) (Option.some (Jvm.ClassFile.FieldType.array Jvm.ClassFile.FieldType.byte))).before args0 about1 = true := code_word (m := ⟨8, 1⟩) (meth := k8m1) (c := k8c1) (by decide +kernel) rfl rfl rfl (by decide +kernel)
set_option maxRecDepth 65536 in
theorem w_c31 : (Jvm.Cond.code ({ cls := "java/lang/StringUTF16", name := "newBytesLength", desc := "(I)I" } : Jvm.MethodName) jdk_52_method_3_code (1 : Nat) (Option.some Jvm.ClassFile.FieldType.int)).before args0 about1 = true := code_word (m := ⟨8, 2⟩) (meth := k8m2) (c := k8c2) (by decide +kernel) rfl rfl rfl (by decide +kernel)
set_option maxRecDepth 65536 in
theorem w_c32 : (Jvm.Cond.code ({ cls := "java/lang/StringUTF16", name := "putChar", desc := "([BII)V" } : Jvm.MethodName) jdk_52_method_4_code (3 : Nat) (Option.none : Option Jvm.ClassFile.FieldType)).before args0 about1 = true := code_word (m := ⟨8, 3⟩) (meth := k8m3) (c := k8c3) (by decide +kernel) rfl rfl rfl (by decide +kernel)
set_option maxRecDepth 65536 in
theorem w_c33 : (Jvm.Cond.code ({ cls := "java/lang/StringUTF16", name := "getChar", desc := "([BI)C" } : Jvm.MethodName) jdk_52_method_5_code (2 : Nat) (Option.some Jvm.ClassFile.FieldType.char)).before args0 about1 = true := code_word (m := ⟨8, 4⟩) (meth := k8m4) (c := k8c4) (by decide +kernel) rfl rfl rfl (by decide +kernel)
set_option maxRecDepth 65536 in
theorem w_c34 : (Jvm.Cond.code ({ cls := "java/lang/StringUTF16", name := "newString", desc := "([BII)Ljava/lang/String;" } : Jvm.MethodName) jdk_52_method_69_code (5 : Nat) (Option.some (Jvm.ClassFile.FieldType.object "java/lang/String"))).before args0 about1 = true := code_word (m := ⟨8, 12⟩) (meth := k8m12) (c := k8c12) (by decide +kernel) rfl rfl rfl (by decide +kernel)
set_option maxRecDepth 65536 in
theorem w_c35 : (Jvm.Cond.code ({ cls := "java/lang/StringUTF16", name := "compress", desc := "([BII)[B" } : Jvm.MethodName) jdk_52_method_17_code (6 : Nat) (Option.some (Jvm.ClassFile.FieldType.array Jvm.ClassFile.FieldType.byte))).before args0 about1 = true := code_word (m := ⟨8, 9⟩) (meth := k8m9) (c := k8c9) (by decide +kernel) rfl rfl rfl (by decide +kernel)
set_option maxRecDepth 65536 in
theorem w_c36 : (Jvm.Cond.code ({ cls := "java/lang/StringUTF16", name := "compress", desc := "([BI[BII)I" } : Jvm.MethodName) jdk_52_method_22_code (7 : Nat) (Option.some Jvm.ClassFile.FieldType.int)).before args0 about1 = true := code_word (m := ⟨8, 11⟩) (meth := k8m11) (c := k8c11) (by decide +kernel) rfl rfl rfl (by decide +kernel)
set_option maxRecDepth 65536 in
theorem w_c37 : (Jvm.Cond.code ({ cls := "java/lang/StringUTF16", name := "checkBoundsOffCount", desc := "(II[B)V" } : Jvm.MethodName) jdk_52_method_94_code (3 : Nat) (Option.none : Option Jvm.ClassFile.FieldType)).before args0 about1 = true := code_word (m := ⟨8, 15⟩) (meth := k8m15) (c := k8c15) (by decide +kernel) rfl rfl rfl (by decide +kernel)
set_option maxRecDepth 65536 in
theorem w_c38 : (Jvm.Cond.code ({ cls := "java/lang/StringUTF16", name := "length", desc := "([B)I" } : Jvm.MethodName) jdk_52_method_6_code (1 : Nat) (Option.some Jvm.ClassFile.FieldType.int)).before args0 about1 = true := code_word (m := ⟨8, 5⟩) (meth := k8m5) (c := k8c5) (by decide +kernel) rfl rfl rfl (by decide +kernel)
set_option maxRecDepth 65536 in
theorem w_c39 : (Jvm.Cond.code ({ cls := "java/lang/String", name := "checkBoundsOffCount", desc := "(III)I" } : Jvm.MethodName) jdk_42_method_157_code (3 : Nat) (Option.some Jvm.ClassFile.FieldType.int)).before args0 about1 = true := code_word (m := ⟨7, 10⟩) (meth := k7m10) (c := k7c10) (by decide +kernel) rfl rfl rfl (by decide +kernel)
set_option maxRecDepth 65536 in
theorem w_c40 : (Jvm.Cond.code ({ cls := "jdk/internal/util/Preconditions", name := "checkFromIndexSize", desc := "(IIILjava/util/function/BiFunction;)I" } : Jvm.MethodName) jdk_41_method_13_code (4 : Nat) (Option.some Jvm.ClassFile.FieldType.int)).before args0 about1 = true := code_word (m := ⟨13, 3⟩) (meth := k13m3) (c := k13c3) (by decide +kernel) rfl rfl rfl (by decide +kernel)
set_option maxRecDepth 65536 in
theorem w_c41 : (Jvm.Cond.code ({ cls := "java/lang/StringUTF16", name := "charAt", desc := "([BI)C" } : Jvm.MethodName) jdk_52_method_83_code (2 : Nat) (Option.some Jvm.ClassFile.FieldType.char)).before args0 about1 = true := code_word (m := ⟨8, 13⟩) (meth := k8m13) (c := k8c13) (by decide +kernel) rfl rfl rfl (by decide +kernel)
set_option maxRecDepth 65536 in
theorem w_c42 : (Jvm.Cond.code ({ cls := "java/lang/StringUTF16", name := "checkIndex", desc := "(I[B)V" } : Jvm.MethodName) jdk_52_method_91_code (2 : Nat) (Option.none : Option Jvm.ClassFile.FieldType)).before args0 about1 = true := code_word (m := ⟨8, 14⟩) (meth := k8m14) (c := k8c14) (by decide +kernel) rfl rfl rfl (by decide +kernel)
def codes1 : List Jvm.Cond := [Jvm.Cond.code x code maxLocals ret, Jvm.Cond.code ({ cls := "java/lang/String", name := "<init>", desc := "([C)V" } : Jvm.MethodName) jdk_42_method_3_code (2 : Nat) (Option.none : Option Jvm.ClassFile.FieldType), Jvm.Cond.code ({ cls := "java/lang/String", name := "<init>", desc := "([CIILjava/lang/Void;)V" } : Jvm.MethodName) jdk_42_method_149_code (6 : Nat) (Option.none : Option Jvm.ClassFile.FieldType), Jvm.Cond.code ({ cls := "java/lang/Object", name := "<init>", desc := "()V" } : Jvm.MethodName) object_method_1_code (1 : Nat) (Option.none : Option Jvm.ClassFile.FieldType), Jvm.Cond.code ({ cls := "java/lang/StringUTF16", name := "compress", desc := "([CII)[B" } : Jvm.MethodName) jdk_52_method_16_code (6 : Nat) (Option.some (Jvm.ClassFile.FieldType.array Jvm.ClassFile.FieldType.byte)), Jvm.Cond.code ({ cls := "java/lang/StringUTF16", name := "compress", desc := "([CI[BII)I" } : Jvm.MethodName) jdk_52_method_21_code (7 : Nat) (Option.some Jvm.ClassFile.FieldType.int), Jvm.Cond.code ({ cls := "java/lang/StringUTF16", name := "coderFromArrayLen", desc := "([BI)B" } : Jvm.MethodName) jdk_52_method_15_code (2 : Nat) (Option.some Jvm.ClassFile.FieldType.byte), Jvm.Cond.code ({ cls := "java/lang/Math", name := "min", desc := "(II)I" } : Jvm.MethodName) jdk_29_method_69_code (2 : Nat) (Option.some Jvm.ClassFile.FieldType.int), Jvm.Cond.code ({ cls := "java/lang/Math", name := "max", desc := "(II)I" } : Jvm.MethodName) jdk_29_method_65_code (2 : Nat) (Option.some Jvm.ClassFile.FieldType.int), Jvm.Cond.code ({ cls := "com/example/macroweave/macroweave/Text", name := "<init>", desc := "(Ljava/lang/String;II)V" } : Jvm.MethodName) prog_64_method_1_code (4 : Nat) (Option.none : Option Jvm.ClassFile.FieldType), Jvm.Cond.code ({ cls := "java/lang/Record", name := "<init>", desc := "()V" } : Jvm.MethodName) jdk_30_method_1_code (1 : Nat) (Option.none : Option Jvm.ClassFile.FieldType), Jvm.Cond.code ({ cls := "java/lang/String", name := "length", desc := "()I" } : Jvm.MethodName) jdk_42_method_54_code (1 : Nat) (Option.some Jvm.ClassFile.FieldType.int), Jvm.Cond.code ({ cls := "java/lang/String", name := "coder", desc := "()B" } : Jvm.MethodName) jdk_42_method_152_code (1 : Nat) (Option.some Jvm.ClassFile.FieldType.byte), Jvm.Cond.code ({ cls := "java/util/Objects", name := "checkFromToIndex", desc := "(III)I" } : Jvm.MethodName) jdk_31_method_18_code (3 : Nat) (Option.some Jvm.ClassFile.FieldType.int), Jvm.Cond.code ({ cls := "jdk/internal/util/Preconditions", name := "checkFromToIndex", desc := "(IIILjava/util/function/BiFunction;)I" } : Jvm.MethodName) jdk_41_method_12_code (4 : Nat) (Option.some Jvm.ClassFile.FieldType.int), Jvm.Cond.code ({ cls := "com/example/macroweave/macroweave/Text", name := "toString", desc := "()Ljava/lang/String;" } : Jvm.MethodName) prog_64_method_7_code (1 : Nat) (Option.some (Jvm.ClassFile.FieldType.object "java/lang/String")), Jvm.Cond.code ({ cls := "java/lang/String", name := "substring", desc := "(II)Ljava/lang/String;" } : Jvm.MethodName) jdk_42_method_92_code (5 : Nat) (Option.some (Jvm.ClassFile.FieldType.object "java/lang/String")), Jvm.Cond.code ({ cls := "java/lang/String", name := "checkBoundsBeginEnd", desc := "(III)V" } : Jvm.MethodName) jdk_42_method_158_code (3 : Nat) (Option.none : Option Jvm.ClassFile.FieldType), Jvm.Cond.code ({ cls := "java/lang/String", name := "isLatin1", desc := "()Z" } : Jvm.MethodName) jdk_42_method_154_code (1 : Nat) (Option.some Jvm.ClassFile.FieldType.boolean), Jvm.Cond.code ({ cls := "java/lang/StringLatin1", name := "newString", desc := "([BII)Ljava/lang/String;" } : Jvm.MethodName) jdk_43_method_47_code (3 : Nat) (Option.some (Jvm.ClassFile.FieldType.object "java/lang/String")), Jvm.Cond.code ({ cls := "java/util/Arrays", name := "copyOfRange", desc := "([BII)[B" } : Jvm.MethodName) jdk_65_method_132_code (3 : Nat) (Option.some (Jvm.ClassFile.FieldType.array Jvm.ClassFile.FieldType.byte)), Jvm.Cond.code ({ cls := "java/util/Arrays", name := "copyOfRangeByte", desc := "([BII)[B" } : Jvm.MethodName) jdk_65_method_133_code (5 : Nat) (Option.some (Jvm.ClassFile.FieldType.array Jvm.ClassFile.FieldType.byte)), Jvm.Cond.code ({ cls := "java/util/Arrays", name := "checkLength", desc := "(II)V" } : Jvm.MethodName) jdk_65_method_131_code (2 : Nat) (Option.none : Option Jvm.ClassFile.FieldType), Jvm.Cond.code ({ cls := "java/lang/String", name := "<init>", desc := "([BB)V" } : Jvm.MethodName) jdk_42_method_151_code (3 : Nat) (Option.none : Option Jvm.ClassFile.FieldType), Jvm.Cond.code ({ cls := "com/example/macroweave/macroweave/TextToStringPinLaw", name := "charOk", desc := "(Ljava/lang/String;[CIII)Z" } : Jvm.MethodName) method_2_code (5 : Nat) (Option.some Jvm.ClassFile.FieldType.boolean), Jvm.Cond.code ({ cls := "java/lang/String", name := "charAt", desc := "(I)C" } : Jvm.MethodName) jdk_42_method_56_code (2 : Nat) (Option.some Jvm.ClassFile.FieldType.char), Jvm.Cond.code ({ cls := "java/lang/StringLatin1", name := "charAt", desc := "([BI)C" } : Jvm.MethodName) jdk_43_method_2_code (2 : Nat) (Option.some Jvm.ClassFile.FieldType.char), Jvm.Cond.code ({ cls := "java/lang/String", name := "checkIndex", desc := "(II)V" } : Jvm.MethodName) jdk_42_method_155_code (2 : Nat) (Option.none : Option Jvm.ClassFile.FieldType), Jvm.Cond.code ({ cls := "jdk/internal/util/Preconditions", name := "checkIndex", desc := "(IILjava/util/function/BiFunction;)I" } : Jvm.MethodName) jdk_41_method_11_code (3 : Nat) (Option.some Jvm.ClassFile.FieldType.int), Jvm.Cond.code ({ cls := "java/lang/StringUTF16", name := "toBytes", desc := "([CII)[B" } : Jvm.MethodName) jdk_52_method_14_code (5 : Nat) (Option.some (Jvm.ClassFile.FieldType.array Jvm.ClassFile.FieldType.byte)), Jvm.Cond.code ({ cls := "java/lang/StringUTF16", name := "newBytesFor", desc := "(I)[B" } : Jvm.MethodName) jdk_52_method_2_code (1 : Nat) (Option.some (Jvm.ClassFile.FieldType.array Jvm.ClassFile.FieldType.byte)), Jvm.Cond.code ({ cls := "java/lang/StringUTF16", name := "newBytesLength", desc := "(I)I" } : Jvm.MethodName) jdk_52_method_3_code (1 : Nat) (Option.some Jvm.ClassFile.FieldType.int), Jvm.Cond.code ({ cls := "java/lang/StringUTF16", name := "putChar", desc := "([BII)V" } : Jvm.MethodName) jdk_52_method_4_code (3 : Nat) (Option.none : Option Jvm.ClassFile.FieldType), Jvm.Cond.code ({ cls := "java/lang/StringUTF16", name := "getChar", desc := "([BI)C" } : Jvm.MethodName) jdk_52_method_5_code (2 : Nat) (Option.some Jvm.ClassFile.FieldType.char), Jvm.Cond.code ({ cls := "java/lang/StringUTF16", name := "newString", desc := "([BII)Ljava/lang/String;" } : Jvm.MethodName) jdk_52_method_69_code (5 : Nat) (Option.some (Jvm.ClassFile.FieldType.object "java/lang/String")), Jvm.Cond.code ({ cls := "java/lang/StringUTF16", name := "compress", desc := "([BII)[B" } : Jvm.MethodName) jdk_52_method_17_code (6 : Nat) (Option.some (Jvm.ClassFile.FieldType.array Jvm.ClassFile.FieldType.byte)), Jvm.Cond.code ({ cls := "java/lang/StringUTF16", name := "compress", desc := "([BI[BII)I" } : Jvm.MethodName) jdk_52_method_22_code (7 : Nat) (Option.some Jvm.ClassFile.FieldType.int), Jvm.Cond.code ({ cls := "java/lang/StringUTF16", name := "checkBoundsOffCount", desc := "(II[B)V" } : Jvm.MethodName) jdk_52_method_94_code (3 : Nat) (Option.none : Option Jvm.ClassFile.FieldType), Jvm.Cond.code ({ cls := "java/lang/StringUTF16", name := "length", desc := "([B)I" } : Jvm.MethodName) jdk_52_method_6_code (1 : Nat) (Option.some Jvm.ClassFile.FieldType.int), Jvm.Cond.code ({ cls := "java/lang/String", name := "checkBoundsOffCount", desc := "(III)I" } : Jvm.MethodName) jdk_42_method_157_code (3 : Nat) (Option.some Jvm.ClassFile.FieldType.int), Jvm.Cond.code ({ cls := "jdk/internal/util/Preconditions", name := "checkFromIndexSize", desc := "(IIILjava/util/function/BiFunction;)I" } : Jvm.MethodName) jdk_41_method_13_code (4 : Nat) (Option.some Jvm.ClassFile.FieldType.int), Jvm.Cond.code ({ cls := "java/lang/StringUTF16", name := "charAt", desc := "([BI)C" } : Jvm.MethodName) jdk_52_method_83_code (2 : Nat) (Option.some Jvm.ClassFile.FieldType.char), Jvm.Cond.code ({ cls := "java/lang/StringUTF16", name := "checkIndex", desc := "(I[B)V" } : Jvm.MethodName) jdk_52_method_91_code (2 : Nat) (Option.none : Option Jvm.ClassFile.FieldType)]
set_option maxRecDepth 65536 in
theorem codes_eq : words1.filter isCode = codes1 := rfl
theorem w_codes : ∀ c ∈ words1.filter isCode, c.before args0 about1 = true := by
  rw [codes_eq]
  intro c hc
  simp only [codes1, List.mem_cons, List.not_mem_nil, or_false] at hc
  rcases hc with rfl | rfl | rfl | rfl | rfl | rfl | rfl | rfl | rfl | rfl | rfl | rfl | rfl | rfl | rfl | rfl | rfl | rfl | rfl | rfl | rfl | rfl | rfl | rfl | rfl | rfl | rfl | rfl | rfl | rfl | rfl | rfl | rfl | rfl | rfl | rfl | rfl | rfl | rfl | rfl | rfl | rfl | rfl
  · exact w_c0
  · exact w_c1
  · exact w_c2
  · exact w_c3
  · exact w_c4
  · exact w_c5
  · exact w_c6
  · exact w_c7
  · exact w_c8
  · exact w_c9
  · exact w_c10
  · exact w_c11
  · exact w_c12
  · exact w_c13
  · exact w_c14
  · exact w_c15
  · exact w_c16
  · exact w_c17
  · exact w_c18
  · exact w_c19
  · exact w_c20
  · exact w_c21
  · exact w_c22
  · exact w_c23
  · exact w_c24
  · exact w_c25
  · exact w_c26
  · exact w_c27
  · exact w_c28
  · exact w_c29
  · exact w_c30
  · exact w_c31
  · exact w_c32
  · exact w_c33
  · exact w_c34
  · exact w_c35
  · exact w_c36
  · exact w_c37
  · exact w_c38
  · exact w_c39
  · exact w_c40
  · exact w_c41
  · exact w_c42
set_option maxRecDepth 65536 in
theorem w_t1 : (words1.take 24).all (fun c => isCode c || c.before args0 about1) = true := by decide +kernel
set_option maxRecDepth 65536 in
theorem w_t2 : ((words1.drop 24).take 24).all (fun c => isCode c || c.before args0 about1) = true := by decide +kernel
set_option maxRecDepth 65536 in
theorem w_t3 : (((words1.drop 24).drop 24).take 24).all (fun c => isCode c || c.before args0 about1) = true := by decide +kernel
set_option maxRecDepth 65536 in
theorem w_t4 : ((((words1.drop 24).drop 24).drop 24).take 24).all (fun c => isCode c || c.before args0 about1) = true := by decide +kernel
set_option maxRecDepth 65536 in
theorem w_t5 : (((((words1.drop 24).drop 24).drop 24).drop 24).take 24).all (fun c => isCode c || c.before args0 about1) = true := by decide +kernel
set_option maxRecDepth 65536 in
theorem w_t6 : ((((((words1.drop 24).drop 24).drop 24).drop 24).drop 24).take 24).all (fun c => isCode c || c.before args0 about1) = true := by decide +kernel
set_option maxRecDepth 65536 in
theorem w_t7 : (((((((words1.drop 24).drop 24).drop 24).drop 24).drop 24).drop 24).take 24).all (fun c => isCode c || c.before args0 about1) = true := by decide +kernel
set_option maxRecDepth 65536 in
theorem w_t8 : ((((((((words1.drop 24).drop 24).drop 24).drop 24).drop 24).drop 24).drop 24).take 24).all (fun c => isCode c || c.before args0 about1) = true := by decide +kernel
set_option maxRecDepth 65536 in
theorem w_t9 : ((((((((words1.drop 24).drop 24).drop 24).drop 24).drop 24).drop 24).drop 24).drop 24).all (fun c => isCode c || c.before args0 about1) = true := by decide +kernel
theorem w_tables : (allAtoms (Jvm.Cond.code x code maxLocals ret :: tables_1)).before args0 about1 = true := by
  rw [allAtoms_all]
  show words1.all (fun c => c.before args0 about1) = true
  refine all_split ?_ w_codes
  rw [← List.take_append_drop 24 words1, List.all_append, w_t1, ← List.take_append_drop 24 (words1.drop 24), List.all_append, w_t2, ← List.take_append_drop 24 ((words1.drop 24).drop 24), List.all_append, w_t3, ← List.take_append_drop 24 (((words1.drop 24).drop 24).drop 24), List.all_append, w_t4, ← List.take_append_drop 24 ((((words1.drop 24).drop 24).drop 24).drop 24), List.all_append, w_t5, ← List.take_append_drop 24 (((((words1.drop 24).drop 24).drop 24).drop 24).drop 24), List.all_append, w_t6, ← List.take_append_drop 24 ((((((words1.drop 24).drop 24).drop 24).drop 24).drop 24).drop 24), List.all_append, w_t7, ← List.take_append_drop 24 (((((((words1.drop 24).drop 24).drop 24).drop 24).drop 24).drop 24).drop 24), List.all_append, w_t8, w_t9]
  rfl
set_option maxRecDepth 65536 in
theorem w_rest : rest_1_c.before args0 about1 = true := by decide +kernel
set_option maxRecDepth 65536 in
theorem w_case : (Jvm.Cond.and given_1 narrow_1).before args0 about1 = true := by decide +kernel
set_option maxRecDepth 65536 in
theorem w_consts : constsHeld consts_1 about1 := Jvm.Lit.constsHeldB_iff.mp (by decide +kernel)
theorem w_applies : (headSpec (Jvm.Cond.code x code maxLocals ret :: tables_1) room_1).applies x e0.platform about1 = true :=
  (Spec.applies_iff w_frames).mpr ⟨w_running, w_runnable, w_alone, w_named, w_hears, w_ripe, w_room, w_tables⟩
theorem atStart : AtStart classFile x code maxLocals ret World_1 tables_1 room_1 Calls_1 rest_1 Pre_1 launch0 p0 e0 about1 theMethod args0 below0 :=
  ⟨lists_1, trivial, launch0.admits_env _ _ _, launch0.least_env, fairChoices_fair.cas, fairChoices_fair.clock, w_frames, w_args, w_heap, w_applies, ⟨w_consts, trivial⟩, w_rest, w_case⟩
end start1
theorem witness_1 : WitnessClaimed_1 := ⟨start1.p0, start1.e0, start1.about1, start1.theMethod, start1.args0, start1.below0, start1.atStart⟩
end Jvm.Pilot.@@N@@
