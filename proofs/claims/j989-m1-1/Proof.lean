import JvmDerived
import JvmDerived.Pilot.@@N@@Statement
import JvmDerived.Pilot.@@N@@Code
set_option linter.unusedVariables false
set_option linter.unusedSimpArgs false
namespace Jvm.Pilot.@@N@@
open Jvm Jvm.ClassFile Sem Op Lib Jvm.Free Jvm.Stand Jvm.LawKit Jvm.RoadKit Bundle Jvm.Pilot.@@N@@.Jvm.D
/-! THE LAYER: what a body does from a point on, as one sentence ('own_WP'); a contract is 'own_Met'. K: the launch, the start's state, the string constants that are held, 'nothing is interned'. M: the method, its bytes, its locals, what it returns, its room. -/
abbrev own_Cx : Type := Launch × State × List (String × Nat) × Bool
abbrev own_Cx.l (K : own_Cx) : Launch := K.1
abbrev own_Cx.Z (K : own_Cx) : State := K.2.1
abbrev own_Cx.E (K : own_Cx) : List (String × Nat) := K.2.2.1
abbrev own_Cx.nw (K : own_Cx) : Bool := K.2.2.2
abbrev own_Cx.n (K : own_Cx) : Nat := K.Z.heap.size
abbrev own_Mi : Type := MethodName × ByteArray × Nat × Option FieldType × Room
abbrev own_Mi.y (M : own_Mi) : MethodName := M.1
abbrev own_Mi.b (M : own_Mi) : ByteArray := M.2.1
abbrev own_Mi.mx (M : own_Mi) : Nat := M.2.2.1
abbrev own_Mi.ret (M : own_Mi) : Option FieldType := M.2.2.2.1
abbrev own_Mi.R (M : own_Mi) : Room := M.2.2.2.2
abbrev own_Q : Type := Option Value → Heap → List Addr → Prop
def own_ret (q : Value → Heap → List Addr → Prop) : own_Q := fun v h xs => ∃ w, v = some w ∧ q w h xs
def own_void (q : Heap → List Addr → Prop) : own_Q := fun v h xs => v = none ∧ q h xs
def own_Bdy (K : own_Cx) (M : own_Mi) (p : Program) (s : State) (m : MethodId) (meth : Method) (c : Code) : Prop :=
  p.tables.exec = Jvm.exec ∧ c.code = M.b ∧ c.maxLocals = M.mx ∧ s.vm.findClass M.y.cls = some m.cls ∧ meth.name = M.y.name ∧ meth.sig.returnType = M.ret ∧ meth.locks = false ∧ K.Z.Warmed39 s.vm ∧ ∃ a0, EW K.Z a0 K.E
def own_Sf (K : own_Cx) (vm : Vm) (h : Heap) (xs : List Addr) : Prop := ∀ x ∈ xs, K.n ≤ x ∧ x < h.size ∧ Safe K.Z K.E vm h x
def own_Inv (K : own_Cx) (s : State) (vm0 : Vm) (k0 : Nat) (h : Heap) (sf : List Addr) : Prop :=
  s.Since vm0 k0 ∧ k0 ≤ h.size ∧ (K.nw = true → s.WarmedH vm0) ∧ CHr K.Z K.E s.vm s.heap vm0 h ∧ own_Sf K vm0 h sf ∧ Ext K.Z.heap h
def own_End (K : own_Cx) (R : Room) (Q : own_Q) (s : State) (o : Outcome) (t : State) : Prop :=
  ∃ v L xs, o = .returned v ∧ Q v t.heap xs ∧ Fr K.n L ∧ CHr K.Z K.E s.vm s.heap t.vm t.heap ∧ own_Sf K t.vm t.heap xs ∧ Ext K.Z.heap t.heap ∧ ReturnedEndW s o t L R.cells R.slots ∧ (K.nw = true → s.WarmedH t.vm)
def own_Fin (K : own_Cx) (R : Room) (Q : own_Q) (p : Program) (e : Env) (below : List Frame) (s F : State) : Prop :=
  ∃ s₂ o, Steps p.tables e below F s₂ ∧ s₂.status = .running ∧ Ended s₂ below o ∧ own_End K R Q s o s₂
def own_WP (K : own_Cx) (M : own_Mi) (Q : own_Q) (pc : Nat) (Ls : List Slot) (St : List Value) (sf : List Addr) (h : Heap) (cs sl : Nat) : Prop :=
  ∀ (p : Program) (e : Env) (s : State) (vm0 : Vm) (k0 : Nat) (m : MethodId) (args : Array Value) (below : List Frame) (meth : Method) (c : Code) (T : State) (locs : List Loc) (cs' sl' : Nat),
    own_Bdy K M p (s.setVm vm0) m meth c → Stand p K.l e M.R (s.setVm vm0) m args below meth c T locs cs' sl' → cs' ≤ cs → sl' ≤ sl → T.heap = h → Fr K.n locs → own_Inv K s vm0 k0 h sf →
    own_Fin K M.R Q p e below s (T.setTop (mkF m pc Ls.toArray St))
def own_Met (K : own_Cx) (M : own_Mi) (as' : Array Value) (sf : List Addr) (h : Heap) (Q : own_Q) : Prop :=
  ∀ ws : List Jvm.Cond, MetFree K.l M.y (head1 (Jvm.Cond.code M.y M.b M.mx M.ret :: ws) M.R) (fun a U => a = as' ∧ K.Z.Warmed39 U.vm ∧ U.heap = h ∧ (∃ a0, EW K.Z a0 K.E) ∧ CHv K.Z K.E U.vm h ∧ own_Sf K U.vm h sf ∧ Ext K.Z.heap h) (fun _ _ _ _ _ => True) (fun _ U o U' => own_End K M.R Q U o U')
section Core
variable {K : own_Cx} {M : own_Mi} {Q : own_Q} {pc pc' : Nat} {Ls Ls' : List Slot} {St St' : List Value} {sf : List Addr} {h : Heap} {cs sl : Nat} {a0 : Array Value}
theorem own_ext_trans {h h' h2 : Heap} (E : Ext h h') (E' : Ext h' h2) : Ext h h2 := ⟨Nat.le_trans E.1 E'.1, fun x c q => E'.2 x c (E.2 x c q)⟩
theorem own_ext_refl (h : Heap) : Ext h h := ⟨Nat.le_refl _, fun _ _ q => q⟩
theorem own_met (hpn : plainFor M.y = true) {as' : Array Value} (ef : ∀ m : MethodId, entryFrame m as' M.mx = mkF m 0 Ls.toArray []) (k : own_WP K M Q 0 Ls [] sf h 0 0) : own_Met K M as' sf h Q := by
  intro ws
  refine MetFree.of_bodySF hpn hisR ?_
  intro p e s m args below meth c s₁ Bd hml0 hP hK
  obtain ⟨rfl, hZ, hh, hEW, hC, hsf, hE⟩ := hP
  have hown : s.vm.findClass M.y.cls = some m.cls := findClass_of_methodNamed Bd.named
  have hnm := (name_of_methodNamed Bd.named Bd.method).1
  have X0 : Stand p K.l e M.R s m args below meth c s₁ [] 0 0 := Stand.of_body Bd
  have e0 : s₁.heap = h := by rw [← hh, Bd.state]; rfl
  have hI : own_Inv K s s.vm 0 h sf := ⟨(State.WarmedH.refl s).since _, Nat.zero_le _, fun _ => State.WarmedH.refl s, by rw [← hh]; exact CHr.refl (by rw [hh]; exact hC), hsf, hE⟩
  obtain ⟨s₂, o, h1, h2, h3, h4⟩ := k p e s s.vm 0 m args below meth c s₁ [] 0 0 ⟨Bd.exec, Bd.bytes, hml0, hown, hnm, Bd.returns, BodyLoose.notSynchronized Bd, hZ, hEW⟩ X0 (Nat.le_refl _) (Nat.le_refl _) e0 (Fr.nil _) hI
  refine ⟨s₂, o, ?_, h2, h3, h4⟩
  rw [ef m]
  exact h1
theorem own_step (k : own_WP K M Q pc' Ls' St' sf h cs sl)
    (st : ∀ (p : Program) (e : Env) (s : State) (m : MethodId) (args : Array Value) (below : List Frame) (meth : Method) (c : Code) (T : State) (locs : List Loc) (cs' sl' : Nat), own_Bdy K M p s m meth c → Stand p K.l e M.R s m args below meth c T locs cs' sl' → T.heap = h →
      ∀ t, Steps p.tables e below (T.setTop (mkF m pc' Ls'.toArray St')) t → Steps p.tables e below (T.setTop (mkF m pc Ls.toArray St)) t) : own_WP K M Q pc Ls St sf h cs sl := by
  intro p e s vm0 k0 m args below meth c T locs cs' sl' B X hc hs eT N I
  obtain ⟨s₂, o, h1, r⟩ := k p e s vm0 k0 m args below meth c T locs cs' sl' B X hc hs eT N I
  exact ⟨s₂, o, st p e _ m args below meth c T locs cs' sl' B X eT _ h1, r⟩
theorem own_move (k : own_WP K M Q pc' Ls' St' sf h cs sl)
    (st : ∀ (p : Program) (e : Env) (s : State) (m : MethodId) (args : Array Value) (below : List Frame) (meth : Method) (c : Code) (T : State) (locs : List Loc) (cs' sl' : Nat), own_Bdy K M p s m meth c → Stand p K.l e M.R s m args below meth c T locs cs' sl' → T.heap = h → Ext K.Z.heap h →
      ∃ T', Stand p K.l e M.R s m args below meth c T' locs cs' sl' ∧ T'.heap = h ∧ ∀ t, Steps p.tables e below (T'.setTop (mkF m pc' Ls'.toArray St')) t → Steps p.tables e below (T.setTop (mkF m pc Ls.toArray St)) t) : own_WP K M Q pc Ls St sf h cs sl := by
  intro p e s vm0 k0 m args below meth c T locs cs' sl' B X hc hs eT N I
  obtain ⟨T', X', e', st'⟩ := st p e _ m args below meth c T locs cs' sl' B X eT I.2.2.2.2.2
  obtain ⟨s₂, o, h1, r⟩ := k p e s vm0 k0 m args below meth c T' locs cs' sl' B X' hc hs e' N I
  exact ⟨s₂, o, st' _ h1, r⟩
theorem own_Sf.new {vm : Vm} {h' : Heap} (E : Ext h h') (hH : CHv K.Z K.E vm h) (hE : Ext K.Z.heap h) (hlt : h.size < h'.size) (S : own_Sf K vm h sf) : own_Sf K vm h' (h.size :: sf) := by
  intro x hx
  rcases List.mem_cons.mp hx with rfl | hx
  · exact ⟨hE.1, hlt, Safe.ext E hH (Safe.new (Nat.le_refl _))⟩
  · obtain ⟨q1, q2, q3⟩ := S x hx
    exact ⟨q1, Nat.lt_of_lt_of_le q2 E.1, Safe.ext E hH q3⟩
theorem own_grow {dc ds : Nat} {P : Heap → Prop} (hc : cs + dc ≤ M.R.cells) (hs : sl + ds ≤ M.R.slots)
    (k : ∀ h', Ext h h' → P h' → own_WP K M Q pc' Ls' St' (h.size :: sf) h' (cs + dc) (sl + ds))
    (st : ∀ (p : Program) (e : Env) (s : State) (m : MethodId) (args : Array Value) (below : List Frame) (meth : Method) (c : Code) (T : State) (locs : List Loc) (cs' sl' : Nat), own_Bdy K M p s m meth c → Stand p K.l e M.R s m args below meth c T locs cs' sl' → cs' + dc ≤ M.R.cells → sl' + ds ≤ M.R.slots → T.heap = h →
      ∃ T' h', Stand p K.l e M.R s m args below meth c T' locs (cs' + dc) (sl' + ds) ∧ T'.heap = h' ∧ Ext h h' ∧ h.size < h'.size ∧ P h' ∧ ∀ t, Steps p.tables e below (T'.setTop (mkF m pc' Ls'.toArray St')) t → Steps p.tables e below (T.setTop (mkF m pc Ls.toArray St)) t) : own_WP K M Q pc Ls St sf h cs sl := by
  intro p e s vm0 k0 m args below meth c T locs cs' sl' B X hc' hs' eT N I
  obtain ⟨T', h', X', e', E, hlt, hP, st'⟩ := st p e _ m args below meth c T locs cs' sl' B X (by omega) (by omega) eT
  obtain ⟨i1, i2, i3, i4, i5, i6⟩ := I
  obtain ⟨s₂, o, h1, r⟩ := k h' E hP p e s vm0 k0 m args below meth c T' locs (cs' + dc) (sl' + ds) B X' (by omega) (by omega) e' N ⟨i1, Nat.le_trans i2 E.1, i3, i4.trans (CHr.ext E i4.1), own_Sf.new E i4.1 i6 hlt i5, own_ext_trans i6 E⟩
  exact ⟨s₂, o, st' _ h1, r⟩
theorem own_Sf.wr {vm : Vm} {h' : Heap} {a : Addr} {i : Nat} {v : Value} (W : Wr h h' a i v) (hH : CHv K.Z K.E vm h) (ha : a ∈ sf) (S : own_Sf K vm h sf) : own_Sf K vm h' sf := by
  intro x hx
  obtain ⟨q1, q2, q3⟩ := S x hx
  exact ⟨q1, by rw [W.size]; exact q2, Safe.wr W (S a ha).2.2 hH q3⟩
theorem own_ext_wr {h h' : Heap} {Z : State} {a : Addr} {i : Nat} {v : Value} (W : Wr h h' a i v) (ha : Z.heap.size ≤ a) (E : Ext Z.heap h) : Ext Z.heap h' := by
  have K := Keep.of_wr W
  exact ⟨by rw [W.size]; exact E.1, fun x c q => K.2.1 x c (E.2 x c q) (by
    intro hm
    have h1 : x < Z.heap.size := (Array.getElem?_eq_some_iff.mp q).1
    have h2 := List.mem_singleton.mp hm
    subst h2
    exact Nat.lt_irrefl _ (Nat.lt_of_lt_of_le h1 ha))⟩
theorem own_write {a : Addr} {i : Nat} {v : Value} (ha : a ∈ sf) (k : ∀ h', Wr h h' a i v → own_WP K M Q pc' Ls' St' sf h' cs sl)
    (st : ∀ (p : Program) (e : Env) (s : State) (m : MethodId) (args : Array Value) (below : List Frame) (meth : Method) (c : Code) (T : State) (locs : List Loc) (cs' sl' : Nat), own_Bdy K M p s m meth c → Stand p K.l e M.R s m args below meth c T locs cs' sl' → T.heap = h →
      ∃ T' h', Stand p K.l e M.R s m args below meth c T' (locs ++ [⟨a, i⟩]) cs' sl' ∧ T'.heap = h' ∧ Wr h h' a i v ∧ ∀ t, Steps p.tables e below (T'.setTop (mkF m pc' Ls'.toArray St')) t → Steps p.tables e below (T.setTop (mkF m pc Ls.toArray St)) t) : own_WP K M Q pc Ls St sf h cs sl := by
  intro p e s vm0 k0 m args below meth c T locs cs' sl' B X hc' hs' eT N I
  obtain ⟨T', h', X', e', W, st'⟩ := st p e _ m args below meth c T locs cs' sl' B X eT
  obtain ⟨i1, i2, i3, i4, i5, i6⟩ := I
  have hn := (i5 a ha).1
  obtain ⟨s₂, o, h1, r⟩ := k h' W p e s vm0 k0 m args below meth c T' _ cs' sl' B X' hc' hs' e' (Fr.snoc X' N hn) ⟨i1, by rw [W.size]; exact i2, i3, i4.trans (CHr.wr W (i5 a ha).2.2 i4.1), own_Sf.wr W i4.1 ha i5, own_ext_wr W hn i6⟩
  exact ⟨s₂, o, st' _ h1, r⟩
/-- the end -/
theorem own_leave {v : Option Value} (hv : M.ret = none → v = none) (hc : cs ≤ M.R.cells) (hs : sl ≤ M.R.slots) (q : Q v h sf)
    (st : ∀ (p : Program) (e : Env) (s : State) (m : MethodId) (args : Array Value) (below : List Frame) (meth : Method) (c : Code) (T : State) (locs : List Loc) (cs' sl' : Nat), own_Bdy K M p s m meth c → Stand p K.l e M.R s m args below meth c T locs cs' sl' →
      ∀ fs, (∀ (f : JFrame) (acts : List Action), f.method = m → f.locked = none → f.entered = [] → (doReturn e (T.setTop f) acts v).1 = T.setFrames fs) → Steps p.tables e below (T.setTop (mkF m pc Ls.toArray St)) (T.setFrames fs)) : own_WP K M Q pc Ls St sf h cs sl := by
  intro p e s vm0 k0 m args below meth c T locs cs' sl' B X hc' hs' eT N I
  obtain ⟨i1, i2, i3, i4, i5, i6⟩ := I
  have hlk : meth.locks = false := B.2.2.2.2.2.2.1
  have hr : meth.sig.returnType = M.ret := B.2.2.2.2.2.1
  obtain ⟨a1, hEW⟩ := B.2.2.2.2.2.2.2.2
  obtain ⟨fs, h1, h2, h3, h4⟩ := X.leaveW i1 (by rw [eT]; exact i2) (v := v) (by rw [hr]; exact hv) hlk
  have A : CHr K.Z K.E vm0 h T.vm h := CHv.at X B.2.2.2.2.2.2.2.1 hEW i4.1
  refine ⟨_, _, st p e _ m args below meth c T locs cs' sl' B X fs h1, h2, h3, v, locs, sf, rfl, ?_, N, ?_, ?_, ?_, ?_, ?_⟩
  · show Q v T.heap sf; rw [eT]; exact q
  · show CHr K.Z K.E s.vm s.heap T.vm T.heap; rw [eT]; exact i4.trans A
  · show own_Sf K T.vm T.heap sf
    rw [eT]
    exact fun x hx => ⟨(i5 x hx).1, (i5 x hx).2.1, A.safe (i5 x hx).2.1 (i5 x hx).2.2⟩
  · show Ext K.Z.heap T.heap; rw [eT]; exact i6
  · obtain ⟨r1, r2, r3, r4⟩ := h4
    exact ⟨r1, r2, r3, r4.mono (by omega) (by omega)⟩
  · exact fun q => State.WarmedH.trans (t := s.setVm vm0) (i3 q) X.warmed
end Core
section Calls
variable {K : own_Cx} {M M' : own_Mi} {Q Q' : own_Q} {pc pc' : Nat} {Ls : List Slot} {St rest : List Value} {sf sf' : List Addr} {h : Heap} {cs sl : Nat} {a0 : Array Value}
theorem own_back {R : Room} {p : Program} {e : Env} {s : State} {vm0 : Vm} {k0 : Nat} {below : List Frame} {args as' : Array Value} {len W : Nat} (hM : own_Met K M' as' sf' h Q') (hsf : ∀ x ∈ sf', x ∈ sf) (hZ : K.Z.Warmed39 vm0) (hEW : ∃ a0, EW K.Z a0 K.E) (I : own_Inv K s vm0 k0 h sf)
    (wc : (Jvm.Cond.code M'.y M'.b M'.mx M'.ret).before a0 K.Z = true) (wz : (Jvm.Cond.initialized M'.y.cls).before a0 K.Z = true) (hf : M'.R.frames + 1 ≤ R.frames) (hl : W + (M'.mx + 11) + M'.R.locals ≤ R.locals) :
    BackS K.l R p e below (s.setVm vm0) args M'.y len W (fun A a => a = as' ∧ A.U.heap = h ∧ A.cells + M'.R.cells ≤ R.cells ∧ A.slots + M'.R.slots ≤ R.slots)
      (fun A _ v B => ∃ L xs, Q' v B.U.heap xs ∧ Fr K.n L ∧ B.locs = A.locs ++ L ∧ B.cells = A.cells + M'.R.cells ∧ B.slots = A.slots + M'.R.slots ∧ CHr K.Z K.E vm0 h B.U.vm B.U.heap ∧ own_Sf K B.U.vm B.U.heap xs ∧ Ext K.Z.heap B.U.heap ∧ (K.nw = true → (s.setVm vm0).WarmedH B.U.vm)) := by
  obtain ⟨a1, hE⟩ := hEW
  have H := I.2.2.2.1.1
  exact BackS.of_freeW (bytes := M'.b) (maxL := M'.mx) (ret := M'.ret) (E := fun _ first o t L k n => k = M'.R.cells ∧ n = M'.R.slots ∧ ∃ v xs, o = .returned v ∧ Q' v t.heap xs ∧ Fr K.n L ∧ CHr K.Z K.E first.vm first.heap t.vm t.heap ∧ own_Sf K t.vm t.heap xs ∧ Ext K.Z.heap t.heap ∧ (K.nw = true → first.WarmedH t.vm)) (hM []) hf hl
    (fun m meth c A a Y hp => have hU : K.Z.Warmed39 A.U.vm := wtrans (s := s.setVm vm0) hZ Y.warmed
      ⟨by show (Jvm.Cond.and _ .tt).before a A.U = true; rw [Cond.before_and, mv hU wc]; rfl, mv hU wc, mv hU wz, hp.2.2.1, hp.2.2.2⟩)
    (fun m meth c A a g mk Y hp => ⟨hp.1, wtrans (s := s.setVm vm0) hZ Y.warmed, hp.2.1, ⟨a1, hE⟩, (CHv.at Y hZ hE H).1, fun x hx => have q := I.2.2.2.2.1 x (hsf x hx); ⟨q.1, q.2.1, (CHv.at Y hZ hE H).safe q.2.1 q.2.2⟩, I.2.2.2.2.2⟩)
    (fun _ _ _ _ _ _ _ _ _ => trivial)
    (fun _ _ _ _ ⟨v, L, xs, h1, h2, h3, h4, h5, h6, h7, h8⟩ => ⟨L, _, _, h7, rfl, rfl, v, xs, h1, h2, h3, h4, h5, h6, h8⟩)
    (fun m meth c A a g mk v t L k n Y hp _ _ ⟨e1, e2, v', xs, e3, e4, e5, e6, e7, e8, e9⟩ => by
      cases e3; subst e1 e2
      refine ⟨L, xs, e4, e5, rfl, rfl, rfl, (CHv.at Y hZ hE H).trans ?_, e7, e8, fun q => ?_⟩
      · rw [← hp.2.1]; exact e6
      · exact State.WarmedH.trans Y.warmed (e9 q))
theorem own_called {p : Program} {e : Env} {s : State} {vm0 : Vm} {k0 : Nat} {m : MethodId} {args : Array Value} {below : List Frame} {meth : Method} {c : Code} {T : State} {locs : List Loc} {cs' sl' : Nat} {v : Option Value} {B : Pt}
    (k : ∀ v h' xs, Q' v h' xs → own_WP K M Q pc' Ls (v.toList ++ rest) (xs ++ sf) h' (cs + M'.R.cells) (sl + M'.R.slots)) (Bd : own_Bdy K M p (s.setVm vm0) m meth c) (hc : cs' ≤ cs) (hs : sl' ≤ sl) (eT : T.heap = h) (N : Fr K.n locs) (I : own_Inv K s vm0 k0 h sf)
    (X' : Stand p K.l e M.R ((s.setVm vm0).setVm B.U.vm) m args below meth c B.U B.locs B.cells B.slots) (hS : (s.setVm vm0).Since B.U.vm B.U.heap.size) (hg : T.heap.size ≤ B.U.heap.size)
    (P : ∃ L xs, Q' v B.U.heap xs ∧ Fr K.n L ∧ B.locs = locs ++ L ∧ B.cells = cs' + M'.R.cells ∧ B.slots = sl' + M'.R.slots ∧ CHr K.Z K.E vm0 h B.U.vm B.U.heap ∧ own_Sf K B.U.vm B.U.heap xs ∧ Ext K.Z.heap B.U.heap ∧ (K.nw = true → (s.setVm vm0).WarmedH B.U.vm))
    {F : State} (st : Steps p.tables e below F (B.U.setTop (mkF m pc' Ls.toArray (v.toList ++ rest)))) : own_Fin K M.R Q p e below s F := by
  obtain ⟨U, l1, c1, s1⟩ := B
  obtain ⟨L, xs, q, NL, eL, ec, es, C, S, E, w⟩ := P
  dsimp only [Pt.U, Pt.locs, Pt.cells, Pt.slots] at X' hS hg q eL ec es C S E w st
  subst eL ec es
  obtain ⟨i1, i2, i3, i4, i5, i6⟩ := I
  obtain ⟨b1, b2, b3, b4, b5, b6, b7, b8, b9⟩ := Bd
  obtain ⟨X2, S2, Z2, O2⟩ := rebS (Z := K.Z) (own := M.y.cls) i1 (n1 := T.heap.size) (by rw [eT]; exact i2) X' hS hg b8 b4
  obtain ⟨s₂, o, h1, r⟩ := k v U.heap xs q p e s U.vm U.heap.size m args below meth c U (locs ++ L) _ _ ⟨b1, b2, b3, O2, b5, b6, b7, Z2, b9⟩ X2 (Nat.add_le_add_right hc _) (Nat.add_le_add_right hs _) rfl (N.app NL)
    ⟨S2, Nat.le_refl _, fun q => State.WarmedH.trans (t := s.setVm vm0) (i3 q) (w q), i4.trans C, fun x hx => by
      rcases List.mem_append.mp hx with hx | hx
      · exact S x hx
      · exact ⟨(i5 x hx).1, Nat.lt_of_lt_of_le (i5 x hx).2.1 C.2.1, C.safe (i5 x hx).2.1 (i5 x hx).2.2⟩, E⟩
  exact ⟨s₂, o, st.trans h1, r⟩
theorem own_special {index : Nat} {a : Addr} {argsL : List Value} (hd : decode M.b pc = .ok (.invokespecial index, 3)) (hp : pc + 3 = pc') (hn : M'.y.name = "<init>") (hrt : M'.ret = none) (w1 : (Jvm.Cond.methodLink M.y.cls index M'.y).before a0 K.Z = true) (w2 : (Jvm.Cond.instanceMethod M'.y).before a0 K.Z = true) (w3 : (Jvm.Cond.initialized M'.y.cls).before a0 K.Z = true) (w4 : (Jvm.Cond.code M'.y M'.b M'.mx M'.ret).before a0 K.Z = true)
    (hy : M'.y.cls ≠ "java/lang/invoke/MethodHandle" ∧ M'.y.cls ≠ "java/lang/invoke/VarHandle") (hsz : Ls.length = M.mx) (hlen : ∀ sig, parseMethodDescriptor M'.y.desc = some sig → argsL.length = sig.parameters.length) (hst : St = argsL.reverse ++ .ref a :: rest)
    (hf : Nat.ble (M'.R.frames + 1) M.R.frames = true) (hl : Nat.ble ((rest.map fun v => v.category).sum + (M'.mx + 11) + M'.R.locals) M.R.locals = true) (hc : Nat.ble (cs + M'.R.cells) M.R.cells = true) (hs : Nat.ble (sl + M'.R.slots) M.R.slots = true)
    (hM : own_Met K M' (.ref a :: argsL).toArray sf' h Q') (hsf : ∀ x ∈ sf', x ∈ sf) (k : ∀ v h' xs, Q' v h' xs → own_WP K M Q pc' Ls (v.toList ++ rest) (xs ++ sf) h' (cs + M'.R.cells) (sl + M'.R.slots)) : own_WP K M Q pc Ls St sf h cs sl := by
  subst hst hp
  intro p e s vm0 k0 m args below meth c T locs cs' sl' B X hc' hs' eT N I
  have q1 := Nat.le_of_ble_eq_true hf
  have q2 := Nat.le_of_ble_eq_true hl
  have q3 := Nat.le_of_ble_eq_true hc
  have q4 := Nat.le_of_ble_eq_true hs
  have w4' : (Jvm.Cond.code M'.y M'.b M'.mx none).before a0 K.Z = true := by rw [← hrt]; exact w4
  obtain ⟨v, vm₁, B', -, X', hS, hg, P, st⟩ := X.specialBackS B.1 (y := M'.y) hn B.2.2.2.1 (mv B.2.2.2.2.2.2.2.1 w1) (mv B.2.2.2.2.2.2.2.1 w2) (bytes := M'.b) (maxL := M'.mx) (mv B.2.2.2.2.2.2.2.1 w4') hy
    (own_back (W := (rest.map fun v => v.category).sum) hM hsf B.2.2.2.2.2.2.2.1 B.2.2.2.2.2.2.2.2 I w4 w3 q1 q2) (g := mkF m pc Ls.toArray (argsL.reverse ++ .ref a :: rest)) rfl (by rw [B.2.2.1, ← hsz]; simp) (Steps.refl _) (a := a) (argsL := argsL) (rest := rest) hlen rfl (by show 2 * 0 + _ ≤ _; omega) (hb B.2.1 hd)
    (fun vm₁ _ => ⟨rfl, eT, by show cs' + _ ≤ _; omega, by show sl' + _ ≤ _; omega⟩)
  exact own_called k B hc' hs' eT N I X' hS hg P st
theorem own_virtual {index : Nat} {a : Addr} {C : String} {argsL : List Value} (hd : decode M.b pc = .ok (.invokevirtual index, 3)) (hp : pc + 3 = pc') (w1 : (Jvm.Cond.methodLink M.y.cls index M'.y).before a0 K.Z = true) (w2 : (Jvm.Cond.declares M'.y).before a0 K.Z = true) (w5 : (Jvm.Cond.selects C M'.y M'.y).before a0 K.Z = true) (w6 : (Jvm.Cond.instanceMethod M'.y).before a0 K.Z = true) (w3 : (Jvm.Cond.initialized M'.y.cls).before a0 K.Z = true) (w4 : (Jvm.Cond.code M'.y M'.b M'.mx M'.ret).before a0 K.Z = true)
    (hy : M'.y.cls ≠ "java/lang/invoke/MethodHandle" ∧ M'.y.cls ≠ "java/lang/invoke/VarHandle") (hsz : Ls.length = M.mx) (hlen : ∀ sig, parseMethodDescriptor M'.y.desc = some sig → argsL.length = sig.parameters.length) (hst : St = argsL.reverse ++ .ref a :: rest)
    (hf : Nat.ble (M'.R.frames + 1) M.R.frames = true) (hl : Nat.ble ((rest.map fun v => v.category).sum + (M'.mx + 11) + M'.R.locals) M.R.locals = true) (hc : Nat.ble (cs + M'.R.cells) M.R.cells = true) (hs : Nat.ble (sl + M'.R.slots) M.R.slots = true)
    (E : Exa K.Z h a C) (hM : own_Met K M' (.ref a :: argsL).toArray sf' h Q') (hsf : ∀ x ∈ sf', x ∈ sf) (k : ∀ v h' xs, Q' v h' xs → own_WP K M Q pc' Ls (v.toList ++ rest) (xs ++ sf) h' (cs + M'.R.cells) (sl + M'.R.slots)) : own_WP K M Q pc Ls St sf h cs sl := by
  subst hst hp
  intro p e s vm0 k0 m args below meth c T locs cs' sl' B X hc' hs' eT N I
  have q1 := Nat.le_of_ble_eq_true hf
  have q2 := Nat.le_of_ble_eq_true hl
  have q3 := Nat.le_of_ble_eq_true hc
  have q4 := Nat.le_of_ble_eq_true hs
  obtain ⟨cB, kB, r1, r2, r3⟩ := isOf (T := T) B.2.2.2.2.2.2.2.1 eT E
  obtain ⟨v, vm₁, B', -, X', hS, hg, P, st⟩ := X.virtualBackS B.1 (y := M'.y) (z := M'.y) B.2.2.2.1 (mv B.2.2.2.2.2.2.2.1 w1) (mv B.2.2.2.2.2.2.2.1 w2) (notFace_of_selects (args := #[]) (mv B.2.2.2.2.2.2.2.1 w5)) (mv B.2.2.2.2.2.2.2.1 w5) (mv B.2.2.2.2.2.2.2.1 w6) hy
    (own_back (W := (rest.map fun v => v.category).sum) hM hsf B.2.2.2.2.2.2.2.1 B.2.2.2.2.2.2.2.2 I w4 w3 q1 q2) r1 r3 (g := mkF m pc Ls.toArray (argsL.reverse ++ .ref a :: rest)) rfl (by rw [B.2.2.1, ← hsz]; simp) (Steps.refl _) (argsL := argsL) (rest := rest) hlen rfl (by show 2 * 0 + _ ≤ _; omega) (hb B.2.1 hd)
    (fun vm₁ _ => ⟨rfl, eT, by show cs' + _ ≤ _; omega, by show sl' + _ ≤ _; omega⟩)
  exact own_called k B hc' hs' eT N I X' hS hg P st
theorem own_special2n {index : Nat} {a : Addr} {v0 v1 : Value} {q' : Heap → List Addr → Prop} (hd : decode M.b pc = .ok (.invokespecial index, 3)) (hp : pc + 3 = pc') (hn : M'.y.name = "<init>") (hrt : M'.ret = none) (w1 : (Jvm.Cond.methodLink M.y.cls index M'.y).before a0 K.Z = true) (w2 : (Jvm.Cond.instanceMethod M'.y).before a0 K.Z = true) (w3 : (Jvm.Cond.initialized M'.y.cls).before a0 K.Z = true) (w4 : (Jvm.Cond.code M'.y M'.b M'.mx M'.ret).before a0 K.Z = true) (hy : M'.y.cls ≠ "java/lang/invoke/MethodHandle" ∧ M'.y.cls ≠ "java/lang/invoke/VarHandle") (hsz : Ls.length = M.mx) (hlen : ∀ sig, parseMethodDescriptor M'.y.desc = some sig → 2 = sig.parameters.length)
    (hf : Nat.ble (M'.R.frames + 1) M.R.frames = true) (hl : Nat.ble ((rest.map fun v => v.category).sum + (M'.mx + 11) + M'.R.locals) M.R.locals = true) (hc : Nat.ble (cs + M'.R.cells) M.R.cells = true) (hs : Nat.ble (sl + M'.R.slots) M.R.slots = true) (hM : own_Met K M' #[.ref a, v0, v1] sf' h (own_void q')) (hsf : ∀ x ∈ sf', x ∈ sf) (k : ∀ h' xs, q' h' xs → own_WP K M Q pc' Ls rest (xs ++ sf) h' (cs + M'.R.cells) (sl + M'.R.slots)) :
    own_WP K M Q pc Ls (v1 :: v0 :: .ref a :: rest) sf h cs sl := own_special (argsL := [v0, v1]) hd hp hn hrt w1 w2 w3 w4 hy hsz hlen rfl hf hl hc hs hM hsf (fun v h' xs ⟨e, q⟩ => by subst e; exact k h' xs q)
theorem own_virtual0v {index : Nat} {a : Addr} {C : String} {q' : Value → Heap → List Addr → Prop} (hd : decode M.b pc = .ok (.invokevirtual index, 3)) (hp : pc + 3 = pc') (w1 : (Jvm.Cond.methodLink M.y.cls index M'.y).before a0 K.Z = true) (w2 : (Jvm.Cond.declares M'.y).before a0 K.Z = true) (w5 : (Jvm.Cond.selects C M'.y M'.y).before a0 K.Z = true) (w6 : (Jvm.Cond.instanceMethod M'.y).before a0 K.Z = true) (w3 : (Jvm.Cond.initialized M'.y.cls).before a0 K.Z = true) (w4 : (Jvm.Cond.code M'.y M'.b M'.mx M'.ret).before a0 K.Z = true) (hy : M'.y.cls ≠ "java/lang/invoke/MethodHandle" ∧ M'.y.cls ≠ "java/lang/invoke/VarHandle") (hsz : Ls.length = M.mx) (hlen : ∀ sig, parseMethodDescriptor M'.y.desc = some sig → 0 = sig.parameters.length)
    (hf : Nat.ble (M'.R.frames + 1) M.R.frames = true) (hl : Nat.ble ((rest.map fun v => v.category).sum + (M'.mx + 11) + M'.R.locals) M.R.locals = true) (hc : Nat.ble (cs + M'.R.cells) M.R.cells = true) (hs : Nat.ble (sl + M'.R.slots) M.R.slots = true) (E : Exa K.Z h a C) (hM : own_Met K M' #[.ref a] sf' h (own_ret q')) (hsf : ∀ x ∈ sf', x ∈ sf) (k : ∀ w h' xs, q' w h' xs → own_WP K M Q pc' Ls (w :: rest) (xs ++ sf) h' (cs + M'.R.cells) (sl + M'.R.slots)) :
    own_WP K M Q pc Ls (.ref a :: rest) sf h cs sl := own_virtual (argsL := []) hd hp w1 w2 w5 w6 w3 w4 hy hsz hlen rfl hf hl hc hs E hM hsf (fun v h' xs ⟨w, e, q⟩ => by subst e; exact k w h' xs q)
end Calls
section Plain
variable {K : own_Cx} {M : own_Mi} {Q : own_Q} {pc pc' : Nat} {Ls : List Slot} {St : List Value} {sf : List Addr} {h : Heap} {cs sl : Nat} {a0 : Array Value}
theorem own_get {α : Type} {L : List α} {k : Nat} {v : α} (q : L[k]? = some v) : L.toArray[k]? = some v := by simpa using q
theorem own_aload_n {i : Fin 4} {v : Value} (hp : pc + 1 = pc') (hd : decode M.b pc = .ok (.aload_n i, 1)) (hl : Ls[i.val]? = some (.val v)) (hv : v.isRef = true) (k : own_WP K M Q pc' Ls (v :: St) sf h cs sl) : own_WP K M Q pc Ls St sf h cs sl :=
  own_step k fun p e s m args below meth c T locs cs' sl' B X eT t q => XS.aloadN X.here B.1 rfl (hb B.2.1 hd) (own_get hl) hv (by subst hp; exact q)
theorem own_aload {i : Nat} {v : Value} (hp : pc + 2 = pc') (hd : decode M.b pc = .ok (.aload i, 2)) (hl : Ls[i]? = some (.val v)) (hv : v.isRef = true) (k : own_WP K M Q pc' Ls (v :: St) sf h cs sl) : own_WP K M Q pc Ls St sf h cs sl :=
  own_step k fun p e s m args below meth c T locs cs' sl' B X eT t q => XS.aload X.here B.1 rfl (hb B.2.1 hd) (own_get hl) hv (by subst hp; exact q)
theorem own_iload_n {i : Fin 4} {v : Int32} (hp : pc + 1 = pc') (hd : decode M.b pc = .ok (.iload_n i, 1)) (hl : Ls[i.val]? = some (.val (.int v))) (k : own_WP K M Q pc' Ls (.int v :: St) sf h cs sl) : own_WP K M Q pc Ls St sf h cs sl :=
  own_step k fun p e s m args below meth c T locs cs' sl' B X eT t q => XS.iloadN X.here B.1 rfl (hb B.2.1 hd) (own_get hl) (by subst hp; exact q)
theorem own_iload {i : Nat} {v : Int32} (hp : pc + 2 = pc') (hd : decode M.b pc = .ok (.iload i, 2)) (hl : Ls[i]? = some (.val (.int v))) (k : own_WP K M Q pc' Ls (.int v :: St) sf h cs sl) : own_WP K M Q pc Ls St sf h cs sl :=
  own_step k fun p e s m args below meth c T locs cs' sl' B X eT t q => XS.iload X.here B.1 rfl (hb B.2.1 hd) (own_get hl) (by subst hp; exact q)
theorem own_iconst {i : Int} {v : Int32} (hp : pc + 1 = pc') (hd : decode M.b pc = .ok (.iconst i, 1)) (hv : Int32.ofInt i = v) (k : own_WP K M Q pc' Ls (.int v :: St) sf h cs sl) : own_WP K M Q pc Ls St sf h cs sl :=
  own_step k fun p e s m args below meth c T locs cs' sl' B X eT t q => XS.iconst X.here B.1 rfl (hb B.2.1 hd) (by subst hp hv; exact q)
theorem own_iand {x y : Int32} (hp : pc + 1 = pc') (hd : decode M.b pc = .ok (.iand, 1)) (k : own_WP K M Q pc' Ls (.int (x &&& y) :: St) sf h cs sl) : own_WP K M Q pc Ls (.int y :: .int x :: St) sf h cs sl :=
  own_step k fun p e s m args below meth c T locs cs' sl' B X eT t q => XS.iand X.here B.1 rfl (hb B.2.1 hd) rfl (by subst hp; exact q)
theorem own_ishl {x y : Int32} (hp : pc + 1 = pc') (hd : decode M.b pc = .ok (.ishl, 1)) (k : own_WP K M Q pc' Ls (.int (x <<< (y &&& 31)) :: St) sf h cs sl) : own_WP K M Q pc Ls (.int y :: .int x :: St) sf h cs sl :=
  own_step k fun p e s m args below meth c T locs cs' sl' B X eT t q => XS.ishl X.here B.1 rfl (hb B.2.1 hd) rfl (by subst hp; exact q)
theorem own_irem {x y : Int32} (hp : pc + 1 = pc') (hd : decode M.b pc = .ok (.irem, 1)) (hy : y ≠ 0) (k : own_WP K M Q pc' Ls (.int (x % y) :: St) sf h cs sl) : own_WP K M Q pc Ls (.int y :: .int x :: St) sf h cs sl :=
  own_step k fun p e s m args below meth c T locs cs' sl' B X eT t q => XS.irem X.here B.1 rfl (hb B.2.1 hd) rfl hy (by subst hp; rw [irem_eq_mod]; exact q)
theorem own_dup {x : Value} (hp : pc + 1 = pc') (hd : decode M.b pc = .ok (.dup, 1)) (hc : x.category = 1) (k : own_WP K M Q pc' Ls (x :: x :: St) sf h cs sl) : own_WP K M Q pc Ls (x :: St) sf h cs sl :=
  own_step k fun p e s m args below meth c T locs cs' sl' B X eT t q => XS.dup X.here B.1 rfl (hb B.2.1 hd) rfl hc (by subst hp; exact q)
theorem own_store {Ls : List Slot} {i : Nat} {v : Value} {o : Slot} (ho : One o) (hv : v.category = 1) (hold : Ls[i]? = some o) : storeLocals Ls.toArray i v = some (Ls.set i (.val v)).toArray := by
  rw [XS.store1 (own_get hold) ho hv]; simp
theorem own_istore_n3 {u0 u1 u2 o : Slot} {r : List Slot} {x : Int32} (hp : pc + 1 = pc') (hd : decode M.b pc = .ok (.istore_n 3, 1)) (ho : One o) (k : own_WP K M Q pc' (u0 :: u1 :: u2 :: .val (.int x) :: r) St sf h cs sl) : own_WP K M Q pc (u0 :: u1 :: u2 :: o :: r) (.int x :: St) sf h cs sl :=
  own_step k fun p e s m args below meth c T locs cs' sl' B X eT t q => XS.istoreN X.here B.1 rfl (hb B.2.1 hd) rfl (own_store (Ls := u0 :: u1 :: u2 :: o :: r) (i := 3) ho rfl rfl) (by subst hp; exact q)
theorem own_istore_4 {u0 u1 u2 u3 o : Slot} {r : List Slot} {x : Int32} (hp : pc + 2 = pc') (hd : decode M.b pc = .ok (.istore 4, 2)) (ho : One o) (k : own_WP K M Q pc' (u0 :: u1 :: u2 :: u3 :: .val (.int x) :: r) St sf h cs sl) : own_WP K M Q pc (u0 :: u1 :: u2 :: u3 :: o :: r) (.int x :: St) sf h cs sl :=
  own_step k fun p e s m args below meth c T locs cs' sl' B X eT t q => XS.istore X.here B.1 rfl (hb B.2.1 hd) rfl (own_store (Ls := u0 :: u1 :: u2 :: u3 :: o :: r) (i := 4) ho rfl rfl) (by subst hp; exact q)
theorem own_istore_5 {u0 u1 u2 u3 u4 o : Slot} {r : List Slot} {x : Int32} (hp : pc + 2 = pc') (hd : decode M.b pc = .ok (.istore 5, 2)) (ho : One o) (k : own_WP K M Q pc' (u0 :: u1 :: u2 :: u3 :: u4 :: .val (.int x) :: r) St sf h cs sl) : own_WP K M Q pc (u0 :: u1 :: u2 :: u3 :: u4 :: o :: r) (.int x :: St) sf h cs sl :=
  own_step k fun p e s m args below meth c T locs cs' sl' B X eT t q => XS.istore X.here B.1 rfl (hb B.2.1 hd) rfl (own_store (Ls := u0 :: u1 :: u2 :: u3 :: u4 :: o :: r) (i := 5) ho rfl rfl) (by subst hp; exact q)
theorem own_astore_8 {u0 u1 u2 u3 u4 u5 u6 u7 o : Slot} {r : List Slot} {x : Value} (hp : pc + 2 = pc') (hd : decode M.b pc = .ok (.astore 8, 2)) (ho : One o) (hv : x.isRef = true) (k : own_WP K M Q pc' (u0 :: u1 :: u2 :: u3 :: u4 :: u5 :: u6 :: u7 :: .val x :: r) St sf h cs sl) : own_WP K M Q pc (u0 :: u1 :: u2 :: u3 :: u4 :: u5 :: u6 :: u7 :: o :: r) (x :: St) sf h cs sl :=
  own_step k fun p e s m args below meth c T locs cs' sl' B X eT t q => XS.astore X.here B.1 rfl (hb B.2.1 hd) rfl hv (own_store (Ls := u0 :: u1 :: u2 :: u3 :: u4 :: u5 :: u6 :: u7 :: o :: r) (i := 8) ho (by rcases ref_cases hv with rfl | ⟨_, rfl⟩ <;> rfl) rfl) (by subst hp; exact q)
theorem own_goto {o : Int} (hd : decode M.b pc = .ok (.goto o, 3)) (ho : 0 ≤ (pc : Int) + o) (hp : ((pc : Int) + o).toNat = pc') (k : own_WP K M Q pc' Ls St sf h cs sl) : own_WP K M Q pc Ls St sf h cs sl :=
  own_step k fun p e s m args below meth c T locs cs' sl' B X eT t q => XS.goto X.here B.1 rfl (pc0 := pc) rfl (hb B.2.1 hd) ho hp q
theorem own_if {cd : ClassFile.Cond} {o : Int} {x : Int32} {pcT pcF : Nat} (hd : decode M.b pc = .ok (.ifCond cd o, 3)) (ho : 0 ≤ (pc : Int) + o) (hp : ((pc : Int) + o).toNat = pcT) (hp' : pc + 3 = pcF)
    (kT : ifCond.holds cd x = true → own_WP K M Q pcT Ls St sf h cs sl) (kF : ifCond.holds cd x = false → own_WP K M Q pcF Ls St sf h cs sl) : own_WP K M Q pc Ls (.int x :: St) sf h cs sl := by
  cases hc : ifCond.holds cd x
  · exact own_step (kF hc) fun p e s m args below meth c T locs cs' sl' B X eT t q => XS.ifNo X.here B.1 rfl (hb B.2.1 hd) rfl hc (by subst hp'; exact q)
  · exact own_step (kT hc) fun p e s m args below meth c T locs cs' sl' B X eT t q => XS.ifYes X.here B.1 rfl (pc0 := pc) rfl (hb B.2.1 hd) rfl hc ho hp q
theorem own_ifne {o : Int} {x : Int32} {pcT pcF : Nat} (hd : decode M.b pc = .ok (.ifCond .ne o, 3)) (ho : 0 ≤ (pc : Int) + o) (hp : ((pc : Int) + o).toNat = pcT) (hp' : pc + 3 = pcF) (kT : ¬ x = 0 → own_WP K M Q pcT Ls St sf h cs sl) (kF : x = 0 → own_WP K M Q pcF Ls St sf h cs sl) : own_WP K M Q pc Ls (.int x :: St) sf h cs sl := by
  refine own_if hd ho hp hp' (fun c => ?_) (fun c => ?_)
  · rw [if0] at c; by_cases q : x = 0
    · have z := (teq q).2; rw [z] at c; cases c
    · exact kT q
  · rw [if0] at c; by_cases q : x = 0
    · exact kF q
    · have z := (feq q).2; rw [z] at c; cases c
theorem own_ifge {o : Int} {x : Int32} {pcT pcF : Nat} (hd : decode M.b pc = .ok (.ifCond .ge o, 3)) (ho : 0 ≤ (pc : Int) + o) (hp : ((pc : Int) + o).toNat = pcT) (hp' : pc + 3 = pcF) (kT : ¬ x < 0 → own_WP K M Q pcT Ls St sf h cs sl) (kF : x < 0 → own_WP K M Q pcF Ls St sf h cs sl) : own_WP K M Q pc Ls (.int x :: St) sf h cs sl := by
  refine own_if hd ho hp hp' (fun c => ?_) (fun c => ?_)
  · rw [if0] at c; by_cases q : x < 0
    · have z := (tlt q).2.1; rw [z] at c; cases c
    · exact kT q
  · rw [if0] at c; by_cases q : x < 0
    · exact kF q
    · have z := (flt q).2.1; rw [z] at c; cases c
theorem own_ifgt {o : Int} {x : Int32} {pcT pcF : Nat} (hd : decode M.b pc = .ok (.ifCond .gt o, 3)) (ho : 0 ≤ (pc : Int) + o) (hp : ((pc : Int) + o).toNat = pcT) (hp' : pc + 3 = pcF) (kT : 0 < x → own_WP K M Q pcT Ls St sf h cs sl) (kF : ¬ 0 < x → own_WP K M Q pcF Ls St sf h cs sl) : own_WP K M Q pc Ls (.int x :: St) sf h cs sl := by
  refine own_if hd ho hp hp' (fun c => ?_) (fun c => ?_)
  · rw [if0] at c; by_cases q : 0 < x
    · exact kT q
    · have z := (flt q).2.2.1; rw [z] at c; cases c
  · rw [if0] at c; by_cases q : 0 < x
    · have z := (tlt q).2.2.1; rw [z] at c; cases c
    · exact kF q
theorem own_ifle {o : Int} {x : Int32} {pcT pcF : Nat} (hd : decode M.b pc = .ok (.ifCond .le o, 3)) (ho : 0 ≤ (pc : Int) + o) (hp : ((pc : Int) + o).toNat = pcT) (hp' : pc + 3 = pcF) (kT : ¬ 0 < x → own_WP K M Q pcT Ls St sf h cs sl) (kF : 0 < x → own_WP K M Q pcF Ls St sf h cs sl) : own_WP K M Q pc Ls (.int x :: St) sf h cs sl := by
  refine own_if hd ho hp hp' (fun c => ?_) (fun c => ?_)
  · rw [if0] at c; by_cases q : 0 < x
    · have z := (tlt q).2.2.2; rw [z] at c; cases c
    · exact kT q
  · rw [if0] at c; by_cases q : 0 < x
    · exact kF q
    · have z := (flt q).2.2.2; rw [z] at c; cases c
/-- returns -/
theorem own_return {qn : Heap → List Addr → Prop} (hr : M.ret = none) (hd : decode M.b pc = .ok (.return_, 1)) (hc : Nat.ble cs M.R.cells = true) (hs : Nat.ble sl M.R.slots = true) (q : qn h sf) : own_WP K M (own_void qn) pc Ls [] sf h cs sl :=
  own_leave (v := none) (fun _ => rfl) (Nat.le_of_ble_eq_true hc) (Nat.le_of_ble_eq_true hs) ⟨rfl, q⟩ fun p e s m args below meth c T locs cs' sl' B X fs hl => X.returnOut B.1 (by rw [B.2.2.2.2.2.1, hr]) (hb B.2.1 hd) hl
theorem own_ireturnN {qv : Value → Heap → List Addr → Prop} {t : FieldType} {z z' : Int32} (hr : M.ret = some t) (ht : t = .boolean ∨ t = .byte ∨ t = .char ∨ t = .short) (hz : nar t z = z') (hd : decode M.b pc = .ok (.ireturn, 1)) (hc : Nat.ble cs M.R.cells = true) (hs : Nat.ble sl M.R.slots = true) (q : qv (.int z') h sf) : own_WP K M (own_ret qv) pc Ls (.int z :: St) sf h cs sl :=
  own_leave (v := some (.int z')) (fun n => by rw [hr] at n; cases n) (Nat.le_of_ble_eq_true hc) (Nat.le_of_ble_eq_true hs) ⟨_, rfl, q⟩ fun p e s m args below meth c T locs cs' sl' B X fs hl => retN X B.1 (t := t) (by rw [B.2.2.2.2.2.1, hr]) ht (hb B.2.1 hd) (by rw [hz]; exact hl)
/-- constants of the pool, fields, statics, new objects and arrays -/
theorem own_ldcI {index : Nat} {v : Int32} (hp : pc + 2 = pc') (hd : decode M.b pc = .ok (.ldc index, 2)) (w : (Jvm.Cond.constant M.y.cls index v).before a0 K.Z = true) (k : own_WP K M Q pc' Ls (.int v :: St) sf h cs sl) : own_WP K M Q pc Ls St sf h cs sl :=
  own_step k fun p e s m args below meth c T locs cs' sl' B X eT t q => X.ldcInt B.1 B.2.2.2.1 (mv B.2.2.2.2.2.2.2.1 w) (g := mkF m pc Ls.toArray St) rfl (hb B.2.1 hd) t (by subst hp; exact q)
theorem own_getF {index : Nat} {R0 O n d : String} {a : Addr} {v : Value} (hp : pc + 3 = pc') (hd : decode M.b pc = .ok (.getfield index, 3)) (w : (Jvm.Cond.fieldLink M.y.cls index R0 n d).before a0 K.Z = true) (via : Via K.Z R0 O n d) (F : Fld K.Z h a O n d v) (k : own_WP K M Q pc' Ls (v :: St) sf h cs sl) : own_WP K M Q pc Ls (.ref a :: St) sf h cs sl := by
  subst hp
  exact own_move k fun p e s m args below meth c T locs cs' sl' B X eT hE => getF X B.1 B.2.2.2.2.2.2.2.1 (host := "") B.2.2.2.1 (Or.inl w) via eT F (g := mkF m pc Ls.toArray (.ref a :: St)) rfl rfl (hb B.2.1 hd)
theorem own_new {index n : Nat} {C : String} (hp : pc + 3 = pc') (hd : decode M.b pc = .ok (.new index, 3)) (w : (Jvm.Cond.classLink M.y.cls index C).before a0 K.Z = true) (wi : (Jvm.Cond.instantiable C n).before a0 K.Z = true) (wz : (Jvm.Cond.initialized C).before a0 K.Z = true) (hc : Nat.ble (cs + 1) M.R.cells = true) (hs : Nat.ble (sl + n) M.R.slots = true)
    (k : ∀ (a : Addr) (h' : Heap), @Eq Nat a h.size → Ext h h' → Exa K.Z h' a C → (∀ {O nm d : String} {ty : FieldType}, Laid K.Z a0 C O nm d → parseFieldDescriptor d = some ty → Fld K.Z h' a O nm d (defaultValue ty)) → own_WP K M Q pc' Ls (.ref a :: St) (a :: sf) h' (cs + 1) (sl + n)) : own_WP K M Q pc Ls St sf h cs sl := by
  subst hp
  refine own_grow (P := fun h' => Exa K.Z h' h.size C ∧ (∀ {O nm d : String} {ty : FieldType}, Laid K.Z a0 C O nm d → parseFieldDescriptor d = some ty → Fld K.Z h' h.size O nm d (defaultValue ty))) (Nat.le_of_ble_eq_true hc) (Nat.le_of_ble_eq_true hs) (fun h' E P => k _ h' rfl E P.1 P.2) ?_
  intro p e s m args below meth c T locs cs' sl' B X hc' hs' eT
  obtain ⟨T', h', X', e', E, A, D, -, st⟩ := newO X B.1 B.2.2.2.2.2.2.2.1 B.2.2.2.1 w wi wz eT (g := mkF m pc Ls.toArray St) rfl (hb B.2.1 hd) hc' hs'
  exact ⟨T', h', X', e', E, A.lt, ⟨A, D⟩, st⟩
theorem own_putF {index kk : Nat} {R0 O n d C : String} {ty : FieldType} {a : Addr} {v v' old : Value} (hp : pc + 3 = pc') (hd : decode M.b pc = .ok (.putfield index, 3)) (w : (Jvm.Cond.fieldLink M.y.cls index R0 n d).before a0 K.Z = true) (via : Via K.Z R0 O n d)
    (L : (Jvm.Cond.lays C O n d).before a0 K.Z = true ∨ ((Jvm.Cond.laysFinal C O n d).before a0 K.Z = true ∧ M.y.cls = O ∧ M.y.name = "<init>")) (wi : (Jvm.Cond.instantiable C kk).before a0 K.Z = true) (hty : parseFieldDescriptor d = some ty) (hn : narrow ty v = v') (hf : fits ty v' = true) (F : Fld K.Z h a O n d old) (E : Exa K.Z h a C) (ha : a ∈ sf)
    (k : ∀ h', Wr h h' a (RoadKit.slotOf K.Z O n d) v' → own_WP K M Q pc' Ls St sf h' cs sl) : own_WP K M Q pc Ls (v :: .ref a :: St) sf h cs sl := by
  subst hp
  exact own_write ha k fun p e s m args below meth c T locs cs' sl' B X eT => putFN X B.1 B.2.2.2.2.2.2.2.1 B.2.2.2.1 w via eT F E (L.imp id fun q => ⟨q.1, q.2.1, by rw [B.2.2.2.2.1]; exact q.2.2⟩) wi hty hn hf (g := mkF m pc Ls.toArray (v :: .ref a :: St)) rfl rfl (hb B.2.1 hd)
theorem own_initO {index : Nat} {a : Addr} (hp : pc + 3 = pc') (hd : decode M.b pc = .ok (.invokespecial index, 3)) (w1 : (Jvm.Cond.methodLink M.y.cls index Lib.objectInit).before a0 K.Z = true) (w2 : (Jvm.Cond.instanceMethod Lib.objectInit).before a0 K.Z = true) (w3 : (Jvm.Cond.code Lib.objectInit ⟨#[0xb1]⟩ 1 none).before a0 K.Z = true) (hsz : Ls.length = M.mx) (hf : Nat.ble 1 M.R.frames = true) (hl : Nat.ble ((St.map fun v => v.category).sum + 12) M.R.locals = true)
    (k : own_WP K M Q pc' Ls St sf h cs sl) : own_WP K M Q pc Ls (.ref a :: St) sf h cs sl := by
  subst hp
  exact own_move k fun p e s m args below meth c T locs cs' sl' B X eT hE => initO X B.1 B.2.2.2.2.2.2.2.1 B.2.2.2.1 w1 w2 w3 eT (g := mkF m pc Ls.toArray (.ref a :: St)) rfl (by rw [B.2.2.1, ← hsz]; simp) rfl (hb B.2.1 hd) (Nat.le_of_ble_eq_true hf) (W := (St.map fun v => v.category).sum) (by show 2 * 0 + _ ≤ _; omega) (Nat.le_of_ble_eq_true hl)
end Plain
section Arrays
/-- the array at a holds just vs -/
def own_Ary (Z : State) (h : Heap) (a : Addr) (ty : FieldType) (vs : List Value) : Prop := ∃ c : Cell, Arr Z h a c ty ∧ c.slots = vs.toArray ∧ vs.length < 2 ^ 31
variable {K : own_Cx} {M : own_Mi} {Q : own_Q} {pc pc' : Nat} {Ls : List Slot} {St : List Value} {sf : List Addr} {h h' : Heap} {cs sl : Nat} {a0 : Array Value} {Z : State} {a b : Addr} {ty : FieldType} {vs : List Value}
theorem own_Ary.ext (F : own_Ary Z h a ty vs) (E : Ext h h') : own_Ary Z h' a ty vs := by obtain ⟨c, A, r⟩ := F; exact ⟨c, A.ext E, r⟩
theorem own_Ary.lt (F : own_Ary Z h a ty vs) : a < h.size := by obtain ⟨c, A, r⟩ := F; exact A.lt
theorem own_Ary.keep {ws : List Addr} (F : own_Ary Z h a ty vs) (k : Keep h h' ws) (q : a ∉ ws) : own_Ary Z h' a ty vs := by obtain ⟨c, A, r⟩ := F; exact ⟨c, ⟨k.2.1 a c A.1 q, A.2⟩, r⟩
theorem own_Ary.other {i : Nat} {v : Value} (F : own_Ary Z h b ty vs) (W : Wr h h' a i v) (q : b ≠ a) : own_Ary Z h' b ty vs := by obtain ⟨c, A, r⟩ := F; exact ⟨c, A.other W q, r⟩
theorem own_Ary.same {i : Nat} {v : Value} (F : own_Ary Z h a ty vs) (W : Wr h h' a i v) : own_Ary Z h' a ty (vs.set i v) := by
  obtain ⟨c, A, r1, r2⟩ := F
  refine ⟨c.setSlot i v, A.same W, ?_, by simpa using r2⟩
  simp [Cell.setSlot, r1]
end Arrays
theorem own_lenOf {d : String} {ps : List FieldType} {r : Option FieldType} (hd : parseMethodDescriptor d = some ⟨ps, r⟩) {n : Nat} (hl : n = ps.length) : ∀ sig, parseMethodDescriptor d = some sig → n = sig.parameters.length := fun sig q => by cases hd.symm.trans q; exact hl
theorem own_cat {v : Value} (q : v.isRef = true) : v.category = 1 := by rcases ref_cases q with rfl | ⟨_, rfl⟩ <;> rfl
theorem own_nb0 : nar .boolean 0 = 0 := rfl
theorem own_nb1 : nar .boolean 1 = 1 := rfl
theorem tw_0 {a0 : Array Value} {Z : State} (hw : ∀ d ∈ tables_1, d.before a0 Z = true) : (Jvm.Cond.constant "com/example/selgen/selgen/sql/ColumnValuesRowsPerValuePinLaw" (7 : Nat) (1048576 : Int32)).before a0 Z = true := hw _ (List.mem_of_getElem? (i := 0) rfl)
theorem tw_1 {a0 : Array Value} {Z : State} (hw : ∀ d ∈ tables_1, d.before a0 Z = true) : (Jvm.Cond.classLink "com/example/selgen/selgen/sql/ColumnValuesRowsPerValuePinLaw" (8 : Nat) "com/example/selgen/selgen/sql/ColumnValues").before a0 Z = true := hw _ (List.mem_of_getElem? (i := 1) rfl)
theorem tw_2 {a0 : Array Value} {Z : State} (hw : ∀ d ∈ tables_1, d.before a0 Z = true) : (Jvm.Cond.instantiable "com/example/selgen/selgen/sql/ColumnValues" (2 : Nat)).before a0 Z = true := hw _ (List.mem_of_getElem? (i := 2) rfl)
theorem tw_3 {a0 : Array Value} {Z : State} (hw : ∀ d ∈ tables_1, d.before a0 Z = true) : (Jvm.Cond.initialized "com/example/selgen/selgen/sql/ColumnValues").before a0 Z = true := hw _ (List.mem_of_getElem? (i := 3) rfl)
theorem tw_4 {a0 : Array Value} {Z : State} (hw : ∀ d ∈ tables_1, d.before a0 Z = true) : (Jvm.Cond.methodLink "com/example/selgen/selgen/sql/ColumnValuesRowsPerValuePinLaw" (10 : Nat) ({ cls := "com/example/selgen/selgen/sql/ColumnValues", name := "<init>", desc := "(DD)V" } : Jvm.MethodName)).before a0 Z = true := hw _ (List.mem_of_getElem? (i := 4) rfl)
theorem tw_5 {a0 : Array Value} {Z : State} (hw : ∀ d ∈ tables_1, d.before a0 Z = true) : (Jvm.Cond.instanceMethod ({ cls := "com/example/selgen/selgen/sql/ColumnValues", name := "<init>", desc := "(DD)V" } : Jvm.MethodName)).before a0 Z = true := hw _ (List.mem_of_getElem? (i := 5) rfl)
theorem tw_6 {a0 : Array Value} {Z : State} (hw : ∀ d ∈ tables_1, d.before a0 Z = true) : (Jvm.Cond.code ({ cls := "com/example/selgen/selgen/sql/ColumnValues", name := "<init>", desc := "(DD)V" } : Jvm.MethodName) prog_10_method_1_code (5 : Nat) (Option.none : Option Jvm.ClassFile.FieldType)).before a0 Z = true := hw _ (List.mem_of_getElem? (i := 6) rfl)
theorem tw_7 {a0 : Array Value} {Z : State} (hw : ∀ d ∈ tables_1, d.before a0 Z = true) : (Jvm.Cond.methodLink "com/example/selgen/selgen/sql/ColumnValues" (1 : Nat) ({ cls := "java/lang/Object", name := "<init>", desc := "()V" } : Jvm.MethodName)).before a0 Z = true := hw _ (List.mem_of_getElem? (i := 7) rfl)
theorem tw_8 {a0 : Array Value} {Z : State} (hw : ∀ d ∈ tables_1, d.before a0 Z = true) : (Jvm.Cond.instanceMethod ({ cls := "java/lang/Object", name := "<init>", desc := "()V" } : Jvm.MethodName)).before a0 Z = true := hw _ (List.mem_of_getElem? (i := 8) rfl)
theorem tw_9 {a0 : Array Value} {Z : State} (hw : ∀ d ∈ tables_1, d.before a0 Z = true) : (Jvm.Cond.code ({ cls := "java/lang/Object", name := "<init>", desc := "()V" } : Jvm.MethodName) object_method_1_code (1 : Nat) (Option.none : Option Jvm.ClassFile.FieldType)).before a0 Z = true := hw _ (List.mem_of_getElem? (i := 9) rfl)
theorem tw_10 {a0 : Array Value} {Z : State} (hw : ∀ d ∈ tables_1, d.before a0 Z = true) : (Jvm.Cond.fieldLink "com/example/selgen/selgen/sql/ColumnValues" (7 : Nat) "com/example/selgen/selgen/sql/ColumnValues" "rows" "D").before a0 Z = true := hw _ (List.mem_of_getElem? (i := 10) rfl)
theorem tw_11 {a0 : Array Value} {Z : State} (hw : ∀ d ∈ tables_1, d.before a0 Z = true) : (Jvm.Cond.laysFinal "com/example/selgen/selgen/sql/ColumnValues" "com/example/selgen/selgen/sql/ColumnValues" "rows" "D").before a0 Z = true := hw _ (List.mem_of_getElem? (i := 11) rfl)
theorem tw_12 {a0 : Array Value} {Z : State} (hw : ∀ d ∈ tables_1, d.before a0 Z = true) : (Jvm.Cond.fieldLink "com/example/selgen/selgen/sql/ColumnValues" (13 : Nat) "com/example/selgen/selgen/sql/ColumnValues" "distinct" "D").before a0 Z = true := hw _ (List.mem_of_getElem? (i := 12) rfl)
theorem tw_13 {a0 : Array Value} {Z : State} (hw : ∀ d ∈ tables_1, d.before a0 Z = true) : (Jvm.Cond.laysFinal "com/example/selgen/selgen/sql/ColumnValues" "com/example/selgen/selgen/sql/ColumnValues" "distinct" "D").before a0 Z = true := hw _ (List.mem_of_getElem? (i := 13) rfl)
theorem tw_14 {a0 : Array Value} {Z : State} (hw : ∀ d ∈ tables_1, d.before a0 Z = true) : (Jvm.Cond.methodLink "com/example/selgen/selgen/sql/ColumnValuesRowsPerValuePinLaw" (13 : Nat) ({ cls := "com/example/selgen/selgen/sql/ColumnValues", name := "rowsPerValue", desc := "()D" } : Jvm.MethodName)).before a0 Z = true := hw _ (List.mem_of_getElem? (i := 14) rfl)
theorem tw_15 {a0 : Array Value} {Z : State} (hw : ∀ d ∈ tables_1, d.before a0 Z = true) : (Jvm.Cond.declares ({ cls := "com/example/selgen/selgen/sql/ColumnValues", name := "rowsPerValue", desc := "()D" } : Jvm.MethodName)).before a0 Z = true := hw _ (List.mem_of_getElem? (i := 15) rfl)
theorem tw_16 {a0 : Array Value} {Z : State} (hw : ∀ d ∈ tables_1, d.before a0 Z = true) : (Jvm.Cond.instanceMethod ({ cls := "com/example/selgen/selgen/sql/ColumnValues", name := "rowsPerValue", desc := "()D" } : Jvm.MethodName)).before a0 Z = true := hw _ (List.mem_of_getElem? (i := 16) rfl)
theorem tw_17 {a0 : Array Value} {Z : State} (hw : ∀ d ∈ tables_1, d.before a0 Z = true) : (Jvm.Cond.selects "com/example/selgen/selgen/sql/ColumnValues" ({ cls := "com/example/selgen/selgen/sql/ColumnValues", name := "rowsPerValue", desc := "()D" } : Jvm.MethodName) ({ cls := "com/example/selgen/selgen/sql/ColumnValues", name := "rowsPerValue", desc := "()D" } : Jvm.MethodName)).before a0 Z = true := hw _ (List.mem_of_getElem? (i := 17) rfl)
theorem tw_18 {a0 : Array Value} {Z : State} (hw : ∀ d ∈ tables_1, d.before a0 Z = true) : (Jvm.Cond.code ({ cls := "com/example/selgen/selgen/sql/ColumnValues", name := "rowsPerValue", desc := "()D" } : Jvm.MethodName) prog_10_method_3_code (1 : Nat) (Option.some Jvm.ClassFile.FieldType.double)).before a0 Z = true := hw _ (List.mem_of_getElem? (i := 18) rfl)
theorem pd_0 : parseMethodDescriptor "(DD)V" = some ⟨[.double, .double], none⟩ := by decide +kernel
theorem pd_1 : parseMethodDescriptor "()D" = some ⟨[], some .double⟩ := by decide +kernel
theorem own_met_1_0 {K : own_Cx} {M : own_Mi} {Q : own_Q} {sf : List Addr} {h : Heap} {v0 : Value} (hpn : plainFor M.y = true) (hm : M.mx = 1) (c0 : v0.category = 1) (k : own_WP K M Q 0 [.val v0] [] sf h 0 0) : own_Met K M #[v0] sf h Q := own_met hpn (fun m => by rw [hm]; simp [entryFrame, mkF, argsToLocals, c0, List.replicate, Array.replicate]) k
theorem own_met_3_14 {K : own_Cx} {M : own_Mi} {Q : own_Q} {sf : List Addr} {h : Heap} {v0 v1 v2 : Value} (hpn : plainFor M.y = true) (hm : M.mx = 17) (c0 : v0.category = 1) (c1 : v1.category = 1) (c2 : v2.category = 1) (k : own_WP K M Q 0 [.val v0, .val v1, .val v2, .unset, .unset, .unset, .unset, .unset, .unset, .unset, .unset, .unset, .unset, .unset, .unset, .unset, .unset] [] sf h 0 0) : own_Met K M #[v0, v1, v2] sf h Q := own_met hpn (fun m => by rw [hm]; simp [entryFrame, mkF, argsToLocals, c0, c1, c2, List.replicate, Array.replicate]) k
section Dbl
variable {K : own_Cx} {M : own_Mi} {Q : own_Q} {pc pc' : Nat} {Ls Ls' : List Slot} {St : List Value} {sf : List Addr} {h : Heap} {cs sl : Nat} {a0 : Array Value}
theorem own_xdload {i : Nat} {v : UInt64} (hp : pc + 2 = pc') (hd : decode M.b pc = .ok (.dload i, 2)) (hl : Ls[i]? = some (.val (.double v))) (k : own_WP K M Q pc' Ls (.double v :: St) sf h cs sl) : own_WP K M Q pc Ls St sf h cs sl :=
  own_step k fun p e s m args below meth c T locs cs' sl' B X eT t q => XS.dload X.here B.1 rfl (hb B.2.1 hd) (own_get hl) (by subst hp; exact q)
theorem own_xdload_n {i : Fin 4} {v : UInt64} (hp : pc + 1 = pc') (hd : decode M.b pc = .ok (.dload_n i, 1)) (hl : Ls[i.val]? = some (.val (.double v))) (k : own_WP K M Q pc' Ls (.double v :: St) sf h cs sl) : own_WP K M Q pc Ls St sf h cs sl :=
  own_step k fun p e s m args below meth c T locs cs' sl' B X eT t q => XS.dloadN X.here B.1 rfl (hb B.2.1 hd) (own_get hl) (by subst hp; exact q)
theorem own_xlload {i : Nat} {v : Int64} (hp : pc + 2 = pc') (hd : decode M.b pc = .ok (.lload i, 2)) (hl : Ls[i]? = some (.val (.long v))) (k : own_WP K M Q pc' Ls (.long v :: St) sf h cs sl) : own_WP K M Q pc Ls St sf h cs sl :=
  own_step k fun p e s m args below meth c T locs cs' sl' B X eT t q => XT.lload X.here B.1 rfl (hb B.2.1 hd) (own_get hl) (by subst hp; exact q)
theorem own_xdstore {i : Nat} {x : UInt64} (hp : pc + 2 = pc') (hd : decode M.b pc = .ok (.dstore i, 2)) (hl : storeLocals Ls.toArray i (.double x) = some Ls'.toArray) (k : own_WP K M Q pc' Ls' St sf h cs sl) : own_WP K M Q pc Ls (.double x :: St) sf h cs sl :=
  own_step k fun p e s m args below meth c T locs cs' sl' B X eT t q => XS.dstore X.here B.1 rfl (hb B.2.1 hd) rfl hl (by subst hp; exact q)
theorem own_xlstore {i : Nat} {x : Int64} (hp : pc + 2 = pc') (hd : decode M.b pc = .ok (.lstore i, 2)) (hl : storeLocals Ls.toArray i (.long x) = some Ls'.toArray) (k : own_WP K M Q pc' Ls' St sf h cs sl) : own_WP K M Q pc Ls (.long x :: St) sf h cs sl :=
  own_step k fun p e s m args below meth c T locs cs' sl' B X eT t q => XT.lstore X.here B.1 rfl (hb B.2.1 hd) rfl hl (by subst hp; exact q)
theorem own_xdconst (hp : pc + 1 = pc') (hd : decode M.b pc = .ok (.dconst 0, 1)) (k : own_WP K M Q pc' Ls (.double FP.dconst0 :: St) sf h cs sl) : own_WP K M Q pc Ls St sf h cs sl :=
  own_step k fun p e s m args below meth c T locs cs' sl' B X eT t q => XS.dconst0 X.here B.1 rfl (hb B.2.1 hd) rfl (by subst hp; exact q)
theorem own_xi2d {x : Int32} (hp : pc + 1 = pc') (hd : decode M.b pc = .ok (.i2d, 1)) (k : own_WP K M Q pc' Ls (.double (FP.i2d x) :: St) sf h cs sl) : own_WP K M Q pc Ls (.int x :: St) sf h cs sl :=
  own_step k fun p e s m args below meth c T locs cs' sl' B X eT t q => XS.i2dS X.here B.1 rfl (hb B.2.1 hd) rfl rfl (by subst hp; exact q)
theorem own_xl2d {x : Int64} (hp : pc + 1 = pc') (hd : decode M.b pc = .ok (.l2d, 1)) (k : own_WP K M Q pc' Ls (.double (FP.l2d x) :: St) sf h cs sl) : own_WP K M Q pc Ls (.long x :: St) sf h cs sl :=
  own_step k fun p e s m args below meth c T locs cs' sl' B X eT t q => XS.l2dS X.here B.1 rfl (hb B.2.1 hd) rfl rfl (by subst hp; exact q)
theorem own_xdcmp {o : CmpOp} {x y : UInt64} (hp : pc + 1 = pc') (hd : decode M.b pc = .ok (.dcmp o, 1)) (k : own_WP K M Q pc' Ls (.int (cmpValue (FP.dcmp x y) o) :: St) sf h cs sl) : own_WP K M Q pc Ls (.double y :: .double x :: St) sf h cs sl :=
  own_step k fun p e s m args below meth c T locs cs' sl' B X eT t q => XS.dcmpS X.here B.1 rfl (hb B.2.1 hd) rfl rfl (by subst hp; exact q)
theorem own_xddiv {x y : UInt64} (hp : pc + 1 = pc') (hd : decode M.b pc = .ok (.ddiv, 1)) (hn : Fl.NoNaN64 (FP.ddiv x y)) (k : own_WP K M Q pc' Ls (.double (FP.ddiv x y) :: St) sf h cs sl) : own_WP K M Q pc Ls (.double y :: .double x :: St) sf h cs sl :=
  own_step k fun p e s m args below meth c T locs cs' sl' B X eT t q => XS.ddivS X.here B.1 rfl (hb B.2.1 hd) rfl hn rfl (by subst hp; exact q)
theorem own_xi2l {x : Int32} (hp : pc + 1 = pc') (hd : decode M.b pc = .ok (.i2l, 1)) (k : own_WP K M Q pc' Ls (.long x.toInt64 :: St) sf h cs sl) : own_WP K M Q pc Ls (.int x :: St) sf h cs sl :=
  own_step k fun p e s m args below meth c T locs cs' sl' B X eT t q => XT.i2l X.here B.1 rfl (hb B.2.1 hd) rfl (by subst hp; exact q)
theorem own_xlshl {x : Int64} {y : Int32} (hp : pc + 1 = pc') (hd : decode M.b pc = .ok (.lshl, 1)) (k : own_WP K M Q pc' Ls (.long (x <<< (y.toInt64 &&& 63)) :: St) sf h cs sl) : own_WP K M Q pc Ls (.int y :: .long x :: St) sf h cs sl :=
  own_step k fun p e s m args below meth c T locs cs' sl' B X eT t q => XT.lshl X.here B.1 rfl (hb B.2.1 hd) rfl (by subst hp; exact q)
theorem own_xladd {x y : Int64} (hp : pc + 1 = pc') (hd : decode M.b pc = .ok (.ladd, 1)) (k : own_WP K M Q pc' Ls (.long (x + y) :: St) sf h cs sl) : own_WP K M Q pc Ls (.long y :: .long x :: St) sf h cs sl :=
  own_step k fun p e s m args below meth c T locs cs' sl' B X eT t q => XT.ladd X.here B.1 rfl (hb B.2.1 hd) rfl (by subst hp; exact q)
theorem own_xlsub {x y : Int64} (hp : pc + 1 = pc') (hd : decode M.b pc = .ok (.lsub, 1)) (k : own_WP K M Q pc' Ls (.long (x - y) :: St) sf h cs sl) : own_WP K M Q pc Ls (.long y :: .long x :: St) sf h cs sl :=
  own_step k fun p e s m args below meth c T locs cs' sl' B X eT t q => XT.lsub X.here B.1 rfl (hb B.2.1 hd) rfl (by subst hp; exact q)
theorem own_xldiv {x y : Int64} (hp : pc + 1 = pc') (hd : decode M.b pc = .ok (.ldiv, 1)) (hy : y ≠ 0) (k : own_WP K M Q pc' Ls (.long (x / y) :: St) sf h cs sl) : own_WP K M Q pc Ls (.long y :: .long x :: St) sf h cs sl :=
  own_step k fun p e s m args below meth c T locs cs' sl' B X eT t q => XT.ldiv X.here B.1 rfl (hb B.2.1 hd) rfl hy (by subst hp; exact q)
theorem own_xlrem {x y : Int64} (hp : pc + 1 = pc') (hd : decode M.b pc = .ok (.lrem, 1)) (hy : y ≠ 0) (k : own_WP K M Q pc' Ls (.long (x - x / y * y) :: St) sf h cs sl) : own_WP K M Q pc Ls (.long y :: .long x :: St) sf h cs sl :=
  own_step k fun p e s m args below meth c T locs cs' sl' B X eT t q => XT.lrem X.here B.1 rfl (hb B.2.1 hd) rfl hy (by subst hp; exact q)
theorem own_xlcmp {x y : Int64} (hp : pc + 1 = pc') (hd : decode M.b pc = .ok (.lcmp, 1)) (k : own_WP K M Q pc' Ls (.int (XT.cmpL x y) :: St) sf h cs sl) : own_WP K M Q pc Ls (.long y :: .long x :: St) sf h cs sl :=
  own_step k fun p e s m args below meth c T locs cs' sl' B X eT t q => XT.lcmp X.here B.1 rfl (hb B.2.1 hd) rfl (by subst hp; exact q)
theorem own_xlconst {i : Fin 2} {v : Int64} (hp : pc + 1 = pc') (hd : decode M.b pc = .ok (.lconst i, 1)) (hv : Int64.ofNat i = v) (k : own_WP K M Q pc' Ls (.long v :: St) sf h cs sl) : own_WP K M Q pc Ls St sf h cs sl :=
  own_step k fun p e s m args below meth c T locs cs' sl' B X eT t q => XT.lconst X.here B.1 rfl (hb B.2.1 hd) (by subst hp hv; exact q)
theorem own_xdreturn {qv : Value → Heap → List Addr → Prop} {z : UInt64} (hr : M.ret = some .double) (hd : decode M.b pc = .ok (.dreturn, 1)) (hc : Nat.ble cs M.R.cells = true) (hs : Nat.ble sl M.R.slots = true) (q : qv (.double z) h sf) : own_WP K M (own_ret qv) pc Ls (.double z :: St) sf h cs sl :=
  own_leave (v := some (.double z)) (fun n => by rw [hr] at n; cases n) (Nat.le_of_ble_eq_true hc) (Nat.le_of_ble_eq_true hs) ⟨_, rfl, q⟩ fun p e s m args below meth c T locs cs' sl' B X fs hl => retOut X B.1 (t := .double) (by rw [B.2.2.2.2.2.1, hr]) rfl (Or.inr (Or.inr (Or.inl ⟨rfl, rfl, z, rfl⟩))) (hb B.2.1 hd) hl
end Dbl
section Fp
open Jvm.FP Jvm.FP.Core
theorem own_div_val {x y : UInt64} {s t : Bool} {c d : Nat} {q r : Int} (hx : val64 x = .fin s c q) (hy : val64 y = .fin t d r) (hd : d ≠ 0) : val64 (FP.ddiv x y) = roundRatio b64 (s != t) c d (q - r) := by
  have h := val64_ddiv x y
  rw [hx, hy] at h
  refine h.trans ?_
  show (if d = 0 then _ else _) = _
  rw [if_neg hd]
theorem own_low {x : UInt64} {s : Bool} {c : Nat} {q : Int} (hx : val64 x = .fin s c q) : -1074 ≤ q := by
  have h := val64_fits x
  rw [hx] at h
  have h1 := h.2.1
  rw [qmin_b64] at h1
  exact h1
theorem own_hi {x : UInt64} {s : Bool} {c : Nat} {q : Int} (hx : val64 x = .fin s c q) : q ≤ 971 := by
  have h := val64_fits x
  rw [hx] at h
  have h1 := h.2.2.1
  have h2 : b64.qmax = 971 := by decide
  rw [h2] at h1
  exact h1
theorem own_units {s t : Bool} {c d v k : Nat} {q r e0 : Int} (he : e0 = -1074 - (k : Int)) (hk : 971 ≤ k) (hq : -1074 ≤ q) (hr : -1074 ≤ r) (hr2 : r ≤ 971) :
    inUnits c (q - r) e0 * 2 ^ (r + 1074).toNat = zmag b64 (.fin s c q) * one64 * 2 ^ k ∧ v * 2 ^ (b64.qmin - e0).toNat * d * 2 ^ (r + 1074).toNat = v * zmag b64 (.fin t d r) * 2 ^ k := by
  have e1 : ∀ (c : Nat) (q : Int) (s : Bool), zmag b64 (.fin s c q) = c * 2 ^ (q + 1074).toNat := by
    intro c q s
    show c * 2 ^ (q - b64.qmin).toNat = _
    rw [qmin_b64, show q - (-1074) = q + 1074 by omega]
  have e2 : one64 = 2 ^ (-b64.qmin).toNat := pow_qmin64.symm
  rw [e1, e1, e2, qmin_b64]
  unfold inUnits
  constructor
  · rw [Nat.mul_assoc, ← Nat.pow_add, Nat.mul_assoc (c * _), ← Nat.pow_add, Nat.mul_assoc, ← Nat.pow_add]
    exact congrArg (fun z => c * 2 ^ z) (by omega)
  · rw [show ((-1074 : Int) - e0).toNat = k by omega]
    generalize 2 ^ k = A
    generalize 2 ^ (r + 1074).toNat = B
    ac_rfl
/-- a quotient of two doubles against N / 2^20 -/
theorem own_rep {N : Nat} (hN : N < 2 ^ 53) : ∃ V : Datum, Jvm.FP.Core.fits b64 V ∧ V ≠ .nan ∧ zmag b64 V * 2 ^ 20 = N * one64 ∧ zmag b64 V < b64.tails * 2 ^ (b64.exps - 2) := by
  obtain ⟨c', q', h1, h2⟩ := round_exact good_b64 false (c := N) (q := -20) hN (by decide) (by decide)
  have hf := round_fits good_b64 (.fin false N (-20))
  rw [h1] at hf
  refine ⟨_, hf, (fun z => nomatch z), ?_, zmag_lt_top good_b64 hf⟩
  show inUnits c' q' b64.qmin * 2 ^ 20 = _
  rw [h2]
  have e2 : one64 = 2 ^ (-b64.qmin).toNat := pow_qmin64.symm
  unfold inUnits
  rw [e2, qmin_b64, Nat.mul_assoc, ← Nat.pow_add]
  congr 2
theorem own_scale {x v y X N Y o : Nat} (ho : 0 < o) (hx : x * 2 ^ 20 = X * o) (hv : v * 2 ^ 20 = N * o) (hy : y * 2 ^ 20 = Y * o) : (X * 2 ^ 20 ≤ N * Y → x * o ≤ v * y) ∧ (N * Y ≤ X * 2 ^ 20 → v * y ≤ x * o) := by
  have e1 : x * o * 2 ^ 20 * 2 ^ 20 = X * 2 ^ 20 * (o * o) := by
    calc x * o * 2 ^ 20 * 2 ^ 20 = x * 2 ^ 20 * (o * 2 ^ 20) := by ac_rfl
      _ = X * o * (o * 2 ^ 20) := by rw [hx]
      _ = X * 2 ^ 20 * (o * o) := by ac_rfl
  have e2 : v * y * 2 ^ 20 * 2 ^ 20 = N * Y * (o * o) := by
    calc v * y * 2 ^ 20 * 2 ^ 20 = (v * 2 ^ 20) * (y * 2 ^ 20) := by ac_rfl
      _ = (N * o) * (Y * o) := by rw [hv, hy]
      _ = N * Y * (o * o) := by ac_rfl
  constructor
  · intro h
    have := Nat.mul_le_mul_right (o * o) h
    rw [← e1, ← e2] at this
    exact Nat.le_of_mul_le_mul_right (Nat.le_of_mul_le_mul_right this (by decide)) (by decide)
  · intro h
    have := Nat.mul_le_mul_right (o * o) h
    rw [← e1, ← e2] at this
    exact Nat.le_of_mul_le_mul_right (Nat.le_of_mul_le_mul_right this (by decide)) (by decide)
theorem own_div_le {x y : UInt64} {s t : Bool} {c d : Nat} {q r : Int} (hx : val64 x = .fin s c q) (hy : val64 y = .fin t d r) (hd : d ≠ 0) {X Y N : Nat} (eX : zmag b64 (.fin s c q) * 2 ^ 20 = X * one64) (eY : zmag b64 (.fin t d r) * 2 ^ 20 = Y * one64) (hN : N < 2 ^ 53) (h : X * 2 ^ 20 ≤ N * Y) :
    zmag b64 (val64 (FP.ddiv x y)) * 2 ^ 20 ≤ N * one64 ∧ ∃ c' q', val64 (FP.ddiv x y) = .fin (s != t) c' q' := by
  obtain ⟨V, v1, v2, v3, v4⟩ := own_rep hN
  have hq := own_low hx
  have hr := own_low hy
  have hr2 := own_hi hy
  obtain ⟨u1, u2⟩ := own_units (s := s) (t := t) (c := c) (d := d) (v := zmag b64 V) (k := 971) (e0 := -1074 - ((971 : Nat) : Int)) rfl (Nat.le_refl _) hq hr hr2
  have k := (own_scale one64_pos eX v3 eY).1 h
  have z : zmag b64 (roundRatio b64 (s != t) c d (q - r)) ≤ zmag b64 V := by
    refine zmag_roundRatio_le good_b64 (e0 := -1074 - ((971 : Nat) : Int)) (Nat.pos_of_ne_zero hd) v1 v2 (by decide) (by omega) ?_
    refine Nat.le_of_mul_le_mul_right (c := 2 ^ (r + 1074).toNat) ?_ (Nat.two_pow_pos _)
    rw [u1, u2]
    exact Nat.mul_le_mul_right _ k
  rw [own_div_val hx hy hd, ← v3]
  refine ⟨Nat.mul_le_mul_right _ z, ?_⟩
  rcases roundRatio_cases b64 (s != t) c d (q - r) with w | w
  · exact w
  · rw [w] at z
    exact absurd (Nat.lt_of_le_of_lt z v4) (Nat.lt_irrefl _)
theorem own_div_ge {x y : UInt64} {s t : Bool} {c d : Nat} {q r : Int} (hx : val64 x = .fin s c q) (hy : val64 y = .fin t d r) (hd : d ≠ 0) {X Y N : Nat} (eX : zmag b64 (.fin s c q) * 2 ^ 20 = X * one64) (eY : zmag b64 (.fin t d r) * 2 ^ 20 = Y * one64) (hN : N < 2 ^ 53) (h : N * Y ≤ X * 2 ^ 20) :
    N * one64 ≤ zmag b64 (val64 (FP.ddiv x y)) * 2 ^ 20 := by
  obtain ⟨V, v1, v2, v3, v4⟩ := own_rep hN
  have hq := own_low hx
  have hr := own_low hy
  have hr2 := own_hi hy
  obtain ⟨u1, u2⟩ := own_units (s := s) (t := t) (c := c) (d := d) (v := zmag b64 V) (k := 971) (e0 := -1074 - ((971 : Nat) : Int)) rfl (Nat.le_refl _) hq hr hr2
  have k := (own_scale one64_pos eX v3 eY).2 h
  rw [own_div_val hx hy hd, ← v3]
  refine Nat.mul_le_mul_right _ (zmag_roundRatio_ge good_b64 (e0 := -1074 - ((971 : Nat) : Int)) (Nat.pos_of_ne_zero hd) v1 (by decide) (by omega) ?_)
  refine Nat.le_of_mul_le_mul_right (c := 2 ^ (r + 1074).toNat) ?_ (Nat.two_pow_pos _)
  rw [u1, u2]
  exact Nat.mul_le_mul_right _ k
theorem own_natAbs_signed {s : Bool} {c : Nat} {i : Int} (h : signed s c = i) : c = i.natAbs := by rw [← h, natAbs_signed]
theorem own_i2d (n : Int32) : ∃ c q, val64 (FP.i2d n) = .fin (decide (n.toInt < 0)) c q ∧ zmag b64 (.fin (decide (n.toInt < 0)) c q) = n.toInt.natAbs * one64 := by
  obtain ⟨c, q, h⟩ := l2d_shape n.toInt64
  have e : FP.i2d n = FP.l2d n.toInt64 := i2d_w n
  have h1 : val64 (FP.i2d n) = .fin (decide (n.toInt < 0)) c q := by
    rw [e]; rw [Int32.toInt_toInt64] at h; exact h
  refine ⟨c, q, h1, ?_⟩
  have z := DInt_zval (i2d_int n)
  have z' : zval b64 (val64 (FP.i2d n)) = n.toInt * (one64 : Int) := z
  rw [h1] at z'
  have w := own_natAbs_signed z'
  rw [w, Int.natAbs_mul]; rfl
theorem own_D {d p : Int32} {s : Nat} (hs : s ≤ 3) (hp : p.toInt = ((2 ^ s : Nat) : Int)) (hd : d.toInt.natAbs < 2 ^ 20) :
    ∃ c q, val64 (FP.ddiv (FP.i2d d) (FP.i2d p)) = .fin (decide (d.toInt < 0)) c q ∧ zmag b64 (.fin (decide (d.toInt < 0)) c q) * 2 ^ 20 = d.toInt.natAbs * 2 ^ (20 - s) * one64 := by
  obtain ⟨c1, q1, h1, z1⟩ := own_i2d d
  obtain ⟨c2, q2, h2, z2⟩ := own_i2d p
  have hp1 : ¬ p.toInt < 0 := by rw [hp]; exact Int.not_lt.mpr (Int.natCast_nonneg _)
  have hp2 : p.toInt.natAbs = 2 ^ s := by rw [hp]; rfl
  rw [decide_eq_false hp1] at h2 z2
  rw [hp2] at z2
  have hd0 : c2 ≠ 0 := by
    intro z; subst z
    have : zmag b64 (.fin false 0 q2) = 0 := by show inUnits 0 q2 b64.qmin = 0; unfold inUnits; simp
    rw [this] at z2
    have := Nat.mul_pos (Nat.two_pow_pos s) one64_pos
    omega
  have eX : zmag b64 (.fin (decide (d.toInt < 0)) c1 q1) * 2 ^ 20 = (d.toInt.natAbs * 2 ^ 20) * one64 := by rw [z1, Nat.mul_right_comm]
  have eY : zmag b64 (.fin false c2 q2) * 2 ^ 20 = (2 ^ s * 2 ^ 20) * one64 := by rw [z2, Nat.mul_right_comm]
  have hNs : 2 ^ (20 - s) * 2 ^ s = 2 ^ 20 := by rw [← Nat.pow_add]; congr 1; omega
  have hle : 2 ^ (20 - s) ≤ 2 ^ 20 := Nat.pow_le_pow_right (by decide) (by omega)
  have hN : d.toInt.natAbs * 2 ^ (20 - s) < 2 ^ 53 := Nat.lt_of_le_of_lt (Nat.mul_le_mul (Nat.le_of_lt hd) hle) (by decide)
  have eq : d.toInt.natAbs * 2 ^ 20 * 2 ^ 20 = d.toInt.natAbs * 2 ^ (20 - s) * (2 ^ s * 2 ^ 20) := by
    rw [← Nat.mul_assoc, Nat.mul_assoc _ (2 ^ (20 - s)), hNs]
  obtain ⟨k1, c, q, k2⟩ := own_div_le h1 h2 hd0 eX eY hN (Nat.le_of_eq eq)
  have k3 := own_div_ge h1 h2 hd0 eX eY hN (Nat.le_of_eq eq.symm)
  have e : (decide (d.toInt < 0) != false) = decide (d.toInt < 0) := by simp
  rw [e] at k2
  rw [k2] at k1 k3
  exact ⟨c, q, k2, Nat.le_antisymm k1 k3⟩
theorem own_G {r : Int32} {y : UInt64} {n s : Nat} (hs : s ≤ 3) (hr : r.toInt.natAbs < 2 ^ 20) (hn : 0 < n) (hn2 : n < 2 ^ 20) {c : Nat} {q : Int} (hy : val64 y = .fin false c q) (zy : zmag b64 (.fin false c q) * 2 ^ 20 = n * 2 ^ (20 - s) * one64) :
    ∃ c' q', val64 (FP.ddiv (FP.i2d r) y) = .fin (decide (r.toInt < 0)) c' q' ∧
      (r.toInt.natAbs * 2 ^ s % n = 0 → zmag b64 (.fin (decide (r.toInt < 0)) c' q') = (r.toInt.natAbs * 2 ^ s / n) * one64) ∧
      (¬ r.toInt.natAbs * 2 ^ s % n = 0 → (r.toInt.natAbs * 2 ^ s / n) * one64 < zmag b64 (.fin (decide (r.toInt < 0)) c' q') ∧ zmag b64 (.fin (decide (r.toInt < 0)) c' q') < (r.toInt.natAbs * 2 ^ s / n + 1) * one64) := by
  obtain ⟨c1, q1, h1, z1⟩ := own_i2d r
  have eX : zmag b64 (.fin (decide (r.toInt < 0)) c1 q1) * 2 ^ 20 = (r.toInt.natAbs * 2 ^ 20) * one64 := by rw [z1, Nat.mul_right_comm]
  have hd0 : c ≠ 0 := by
    intro z; subst z
    have : zmag b64 (.fin false 0 q) = 0 := by show inUnits 0 q b64.qmin = 0; unfold inUnits; simp
    rw [this] at zy
    have := Nat.mul_pos (Nat.mul_pos hn (Nat.two_pow_pos (20 - s))) one64_pos
    omega
  have hNs : 2 ^ s * 2 ^ (20 - s) = 2 ^ 20 := by rw [← Nat.pow_add]; congr 1; omega
  have h8 : 2 ^ s ≤ 8 := Nat.pow_le_pow_right (n := 2) (by decide) hs
  have hA : r.toInt.natAbs * 2 ^ s ≤ 2 ^ 20 * 8 := Nat.mul_le_mul (Nat.le_of_lt hr) h8
  have up : ∀ N : Nat, r.toInt.natAbs * 2 ^ s * 2 ^ 20 ≤ N * n → r.toInt.natAbs * 2 ^ 20 * 2 ^ 20 ≤ N * (n * 2 ^ (20 - s)) := by
    intro N h
    have := Nat.mul_le_mul_right (2 ^ (20 - s)) h
    calc r.toInt.natAbs * 2 ^ 20 * 2 ^ 20 = r.toInt.natAbs * (2 ^ s * 2 ^ (20 - s)) * 2 ^ 20 := by rw [hNs]
      _ = r.toInt.natAbs * 2 ^ s * 2 ^ 20 * 2 ^ (20 - s) := by ac_rfl
      _ ≤ _ := by rw [← Nat.mul_assoc]; exact this
  have dn : ∀ N : Nat, N * n ≤ r.toInt.natAbs * 2 ^ s * 2 ^ 20 → N * (n * 2 ^ (20 - s)) ≤ r.toInt.natAbs * 2 ^ 20 * 2 ^ 20 := by
    intro N h
    have := Nat.mul_le_mul_right (2 ^ (20 - s)) h
    calc N * (n * 2 ^ (20 - s)) ≤ r.toInt.natAbs * 2 ^ s * 2 ^ 20 * 2 ^ (20 - s) := by rw [← Nat.mul_assoc]; exact this
      _ = r.toInt.natAbs * (2 ^ s * 2 ^ (20 - s)) * 2 ^ 20 := by ac_rfl
      _ = _ := by rw [hNs]
  have hdm := Nat.div_add_mod (r.toInt.natAbs * 2 ^ s) n
  have hml := Nat.mod_lt (r.toInt.natAbs * 2 ^ s) hn
  have hql : r.toInt.natAbs * 2 ^ s / n ≤ 2 ^ 20 * 8 := Nat.le_trans (Nat.div_le_self _ _) hA
  generalize r.toInt.natAbs * 2 ^ s / n = Q at *
  generalize r.toInt.natAbs * 2 ^ s % n = m at *
  generalize r.toInt.natAbs * 2 ^ s = A at *
  have hp := one64_pos
  by_cases h0 : m = 0
  · subst h0
    have eq : A * 2 ^ 20 = Q * 2 ^ 20 * n := by rw [← hdm]; simp only [Nat.add_zero]; ac_rfl
    have hN : Q * 2 ^ 20 < 2 ^ 53 := by omega
    obtain ⟨k1, c', q', k2⟩ := own_div_le h1 hy hd0 eX zy hN (up _ (Nat.le_of_eq eq))
    have k3 := own_div_ge h1 hy hd0 eX zy hN (dn _ (Nat.le_of_eq eq.symm))
    rw [show (decide (r.toInt < 0) != false) = decide (r.toInt < 0) by simp] at k2
    rw [k2] at k1 k3
    refine ⟨c', q', k2, fun _ => ?_, fun z => absurd rfl z⟩
    have k4 := Nat.le_antisymm k1 k3
    rw [Nat.mul_right_comm] at k4
    exact Nat.eq_of_mul_eq_mul_right (by decide) k4
  · have e1 : (Q * 2 ^ 20 + 1) * n = n * Q * 2 ^ 20 + n := by rw [Nat.add_mul, Nat.one_mul, Nat.mul_right_comm, Nat.mul_comm Q n]
    have l1 : (Q * 2 ^ 20 + 1) * n ≤ A * 2 ^ 20 := by rw [e1, ← hdm]; omega
    have e2 : ((Q + 1) * 2 ^ 20 - 1) * n = n * Q * 2 ^ 20 + n * 2 ^ 20 - n := by
      rw [Nat.sub_mul, Nat.one_mul, Nat.mul_right_comm, Nat.add_mul Q 1 n, Nat.one_mul, Nat.add_mul, Nat.mul_comm Q n]
    have l2 : A * 2 ^ 20 ≤ ((Q + 1) * 2 ^ 20 - 1) * n := by rw [e2, ← hdm]; omega
    obtain ⟨k1, c', q', k2⟩ := own_div_le h1 hy hd0 eX zy (N := (Q + 1) * 2 ^ 20 - 1) (by omega) (up _ l2)
    have k3 := own_div_ge h1 hy hd0 eX zy (N := Q * 2 ^ 20 + 1) (by omega) (dn _ l1)
    rw [show (decide (r.toInt < 0) != false) = decide (r.toInt < 0) by simp] at k2
    rw [k2] at k1 k3
    refine ⟨c', q', k2, fun z => absurd z h0, fun _ => ⟨?_, ?_⟩⟩
    · generalize zmag b64 (.fin (decide (r.toInt < 0)) c' q') = z at *
      rw [Nat.add_mul, Nat.one_mul, Nat.mul_right_comm] at k3
      generalize Q * one64 = u at *
      omega
    · generalize zmag b64 (.fin (decide (r.toInt < 0)) c' q') = z at *
      rw [Nat.sub_mul, Nat.one_mul, Nat.mul_right_comm] at k1
      generalize hu : (Q + 1) * one64 = u at *
      have : one64 ≤ u := by rw [← hu]; exact Nat.le_mul_of_pos_left _ (by omega)
      omega
theorem own_l2d {Q : Int64} (h : B53 Q) : val64 (FP.l2d Q) ≠ .nan ∧ zval b64 (val64 (FP.l2d Q)) = Q.toInt * (one64 : Int) := ⟨DInt_ne_nan (l2d_whole (sm h)), DInt_zval (l2d_whole (sm h))⟩
theorem own_posone : (0 : Int) < (one64 : Int) := by have := one64_pos; omega
/-- the law, in plain numbers -/
theorem own_plain {r d p : Int32} {s : Nat} (hs : s ≤ 3) (hp : p.toInt = ((2 ^ s : Nat) : Int)) (hr : r.toInt.natAbs < 2 ^ 20) (hd : 0 < d.toInt) (hd2 : d.toInt < 2 ^ 20) :
    Fl.NoNaN64 (FP.ddiv (FP.i2d r) (FP.ddiv (FP.i2d d) (FP.i2d p))) ∧
    (∀ Q : Int64, (r.toInt * ((2 ^ s : Nat) : Int)).tmod d.toInt = 0 → Q.toInt = (r.toInt * ((2 ^ s : Nat) : Int)).tdiv d.toInt → FP.dcmp (FP.ddiv (FP.i2d r) (FP.ddiv (FP.i2d d) (FP.i2d p))) (FP.l2d Q) = some .eq) ∧
    (∀ Q Q' : Int64, ¬ (r.toInt * ((2 ^ s : Nat) : Int)).tmod d.toInt = 0 → 0 < r.toInt → Q.toInt = (r.toInt * ((2 ^ s : Nat) : Int)).tdiv d.toInt → Q'.toInt = (r.toInt * ((2 ^ s : Nat) : Int)).tdiv d.toInt + 1 →
      FP.dcmp (FP.l2d Q) (FP.ddiv (FP.i2d r) (FP.ddiv (FP.i2d d) (FP.i2d p))) = some .lt ∧ FP.dcmp (FP.ddiv (FP.i2d r) (FP.ddiv (FP.i2d d) (FP.i2d p))) (FP.l2d Q') = some .lt) ∧
    (∀ Q Q' : Int64, ¬ (r.toInt * ((2 ^ s : Nat) : Int)).tmod d.toInt = 0 → r.toInt < 0 → Q.toInt = (r.toInt * ((2 ^ s : Nat) : Int)).tdiv d.toInt → Q'.toInt = (r.toInt * ((2 ^ s : Nat) : Int)).tdiv d.toInt - 1 →
      FP.dcmp (FP.l2d Q') (FP.ddiv (FP.i2d r) (FP.ddiv (FP.i2d d) (FP.i2d p))) = some .lt ∧ FP.dcmp (FP.ddiv (FP.i2d r) (FP.ddiv (FP.i2d d) (FP.i2d p))) (FP.l2d Q) = some .lt) := by
  obtain ⟨n, hn⟩ : ∃ n : Nat, d.toInt = (n : Int) := ⟨d.toInt.toNat, by omega⟩
  have hnd : d.toInt.natAbs = n := by omega
  obtain ⟨cd, qd, v1, z1⟩ := own_D (d := d) hs hp (by omega)
  rw [decide_eq_false (show ¬ d.toInt < 0 by omega)] at v1 z1
  rw [hnd] at z1
  obtain ⟨c, q, v2, g1, g2⟩ := own_G hs hr (by omega) (by omega) v1 z1
  generalize FP.ddiv (FP.i2d r) (FP.ddiv (FP.i2d d) (FP.i2d p)) = G at *
  have hG : val64 G ≠ .nan := by rw [v2]; exact fun z => nomatch z
  have h8 : 2 ^ s ≤ 8 := Nat.pow_le_pow_right (n := 2) (by decide) hs
  have hA : r.toInt.natAbs * 2 ^ s ≤ 2 ^ 20 * 8 := Nat.mul_le_mul (Nat.le_of_lt hr) h8
  have hql : r.toInt.natAbs * 2 ^ s / n ≤ 2 ^ 20 * 8 := Nat.le_trans (Nat.div_le_self _ _) hA
  have hone := own_posone
  refine ⟨Fl.val64_no.mpr hG, ?_⟩
  by_cases hs0 : r.toInt < 0
  · have er : r.toInt = -(r.toInt.natAbs : Int) := by omega
    have e1 : (r.toInt * ((2 ^ s : Nat) : Int)).tdiv d.toInt = -((r.toInt.natAbs * 2 ^ s / n : Nat) : Int) := by
      rw [er, Int.neg_mul, Int.neg_tdiv, hn, ← Int.natCast_mul, Int.ofNat_tdiv, Int.natAbs_neg, Int.natAbs_natCast]
    have e2 : (r.toInt * ((2 ^ s : Nat) : Int)).tmod d.toInt = -((r.toInt.natAbs * 2 ^ s % n : Nat) : Int) := by
      rw [er, Int.neg_mul, Int.neg_tmod, hn, ← Int.natCast_mul, Int.ofNat_tmod, Int.natAbs_neg, Int.natAbs_natCast]
    rw [e1, e2]
    clear e1 e2
    generalize r.toInt.natAbs * 2 ^ s / n = U at *
    generalize r.toInt.natAbs * 2 ^ s % n = W at *
    rw [decide_eq_true hs0] at v2 g1 g2
    have zG : zval b64 (val64 G) = -(zmag b64 (.fin true c q) : Int) := by rw [v2]; rfl
    refine ⟨?_, fun Q Q' _ h => by omega, ?_⟩
    · intro Q hm hQ
      obtain ⟨l1, l2⟩ := own_l2d (Q := Q) ⟨by omega, by omega⟩
      refine dcmp_eq.mpr ⟨hG, l1, ?_⟩
      rw [zG, l2, hQ, g1 (by omega), Int.natCast_mul, Int.neg_mul]
    · intro Q Q' hm _ hQ hQ'
      obtain ⟨l1, l2⟩ := own_l2d (Q := Q) ⟨by omega, by omega⟩
      obtain ⟨l3, l4⟩ := own_l2d (Q := Q') ⟨by omega, by omega⟩
      obtain ⟨b1, b2⟩ := g2 (by omega)
      refine ⟨dcmp_lt.mpr ⟨l3, hG, ?_⟩, dcmp_lt.mpr ⟨hG, l1, ?_⟩⟩
      · rw [zG, l4, hQ', show -(U : Int) - 1 = -((U + 1 : Nat) : Int) by omega, Int.neg_mul, ← Int.natCast_mul]
        omega
      · rw [zG, l2, hQ, Int.neg_mul, ← Int.natCast_mul]
        omega
  · have er : r.toInt = (r.toInt.natAbs : Int) := by omega
    have e1 : (r.toInt * ((2 ^ s : Nat) : Int)).tdiv d.toInt = ((r.toInt.natAbs * 2 ^ s / n : Nat) : Int) := by
      rw [er, hn, ← Int.natCast_mul, Int.ofNat_tdiv, Int.natAbs_natCast]
    have e2 : (r.toInt * ((2 ^ s : Nat) : Int)).tmod d.toInt = ((r.toInt.natAbs * 2 ^ s % n : Nat) : Int) := by
      rw [er, hn, ← Int.natCast_mul, Int.ofNat_tmod, Int.natAbs_natCast]
    rw [e1, e2]
    clear e1 e2
    generalize r.toInt.natAbs * 2 ^ s / n = U at *
    generalize r.toInt.natAbs * 2 ^ s % n = W at *
    rw [decide_eq_false hs0] at v2 g1 g2
    have zG : zval b64 (val64 G) = (zmag b64 (.fin false c q) : Int) := by rw [v2]; rfl
    refine ⟨?_, ?_, fun Q Q' _ h => absurd h hs0⟩
    · intro Q hm hQ
      obtain ⟨l1, l2⟩ := own_l2d (Q := Q) ⟨by omega, by omega⟩
      refine dcmp_eq.mpr ⟨hG, l1, ?_⟩
      rw [zG, l2, hQ, g1 (by omega), Int.natCast_mul]
    · intro Q Q' hm _ hQ hQ'
      obtain ⟨l1, l2⟩ := own_l2d (Q := Q) ⟨by omega, by omega⟩
      obtain ⟨l3, l4⟩ := own_l2d (Q := Q') ⟨by omega, by omega⟩
      obtain ⟨b1, b2⟩ := g2 (by omega)
      refine ⟨dcmp_lt.mpr ⟨l1, hG, ?_⟩, dcmp_lt.mpr ⟨hG, l3, ?_⟩⟩
      · rw [zG, l2, hQ, ← Int.natCast_mul]
        omega
      · rw [zG, l4, hQ', show (U : Int) + 1 = ((U + 1 : Nat) : Int) by omega, ← Int.natCast_mul]
        omega
/-- the sign of distinct -/
theorem own_Dsign {d p : Int32} {s : Nat} (hs : s ≤ 3) (hp : p.toInt = ((2 ^ s : Nat) : Int)) (hd : d.toInt.natAbs < 2 ^ 20) :
    Fl.NoNaN64 (FP.ddiv (FP.i2d d) (FP.i2d p)) ∧ (0 < cmpValue (FP.dcmp (FP.ddiv (FP.i2d d) (FP.i2d p)) FP.dconst0) .l ↔ 0 < d.toInt) := by
  obtain ⟨c, q, v, z⟩ := own_D hs hp hd
  generalize FP.ddiv (FP.i2d d) (FP.i2d p) = D at *
  have hD : val64 D ≠ .nan := by rw [v]; exact fun z => nomatch z
  have v0 : val64 FP.dconst0 = .fin false 0 b64.qmin := val64_dconst0
  have h0 : val64 FP.dconst0 ≠ .nan := by rw [v0]; exact fun z => nomatch z
  have z0 : zval b64 (val64 FP.dconst0) = 0 := by rw [v0]; rfl
  refine ⟨Fl.val64_no.mpr hD, ?_⟩
  have hone := one64_pos
  by_cases h : 0 < d.toInt
  · have hp2 := Nat.mul_pos (Nat.mul_pos (show 0 < d.toInt.natAbs by omega) (Nat.two_pow_pos (20 - s))) hone
    rw [decide_eq_false (show ¬ d.toInt < 0 by omega)] at v z
    have zD : zval b64 (val64 D) = (zmag b64 (.fin false c q) : Int) := by rw [v]; rfl
    have e : FP.dcmp D FP.dconst0 = some .gt := dcmp_gt.mpr ⟨hD, h0, by rw [z0, zD]; omega⟩
    rw [e]
    exact iff_of_true (by decide) h
  · have e : FP.dcmp D FP.dconst0 = some .lt ∨ FP.dcmp D FP.dconst0 = some .eq := by
      refine dcmp_le.mpr ⟨hD, h0, ?_⟩
      rw [z0]
      by_cases hz : d.toInt < 0
      · rw [decide_eq_true hz] at v
        have zD : zval b64 (val64 D) = -(zmag b64 (.fin true c q) : Int) := by rw [v]; rfl
        rw [zD]; omega
      · rw [decide_eq_false hz] at v z
        have zD : zval b64 (val64 D) = (zmag b64 (.fin false c q) : Int) := by rw [v]; rfl
        rw [show d.toInt.natAbs = 0 by omega, Nat.zero_mul, Nat.zero_mul] at z
        rw [zD]; omega
    rcases e with e | e <;> rw [e] <;> exact iff_of_false (by decide) h
end Fp
section Fpn
theorem own_r3 (c : Int32) : (c &&& 3) = 0 ∨ (c &&& 3) = 1 ∨ (c &&& 3) = 2 ∨ (c &&& 3) = 3 := by
  have h : (c &&& 3).toBitVec.toNat ≤ 3 := by
    rw [Int32.toBitVec_and, BitVec.toNat_and]
    exact Nat.and_le_right
  have k : ∀ z : Int32, z.toBitVec.toNat = 0 ∨ z.toBitVec.toNat = 1 ∨ z.toBitVec.toNat = 2 ∨ z.toBitVec.toNat = 3 → z = 0 ∨ z = 1 ∨ z = 2 ∨ z = 3 := by
    intro z hz
    rcases hz with q | q | q | q
    · exact Or.inl (Int32.toBitVec_inj.mp (BitVec.eq_of_toNat_eq q))
    · exact Or.inr (Or.inl (Int32.toBitVec_inj.mp (BitVec.eq_of_toNat_eq q)))
    · exact Or.inr (Or.inr (Or.inl (Int32.toBitVec_inj.mp (BitVec.eq_of_toNat_eq q))))
    · exact Or.inr (Or.inr (Or.inr (Int32.toBitVec_inj.mp (BitVec.eq_of_toNat_eq q))))
  exact k _ (by omega)
theorem own_shl64 (x : Int64) (k : Int64) (n : Nat) (hk : (k.toBitVec.smod 64).toNat = n) (y : Int64) (hy : y.toBitVec = BitVec.twoPow 64 n) : x <<< k = x * y := by
  apply Int64.toBitVec_inj.mp
  show x.toBitVec <<< (k.toBitVec.smod 64) = x.toBitVec * y.toBitVec
  rw [hy, BitVec.shiftLeft_eq', hk, BitVec.shiftLeft_eq_mul_twoPow]
theorem own_rem (a : Int32) : (a % 1048576).toInt.natAbs < 2 ^ 20 := by
  rw [Int32.toInt_mod]
  have h : (1048576 : Int32).toInt = 1048576 := rfl
  rw [h, Int.natAbs_tmod]
  exact Nat.mod_lt _ (by decide)
/-- the shift and its figures -/
theorem own_sh (c : Int32) : ∃ s : Nat, s ≤ 3 ∧ ((1 : Int32) <<< ((c &&& 3) &&& 31)).toInt = ((2 ^ s : Nat) : Int) ∧ ∀ r : Int32, r.toInt.natAbs < 2 ^ 20 → (r.toInt64 <<< ((c &&& 3).toInt64 &&& 63)).toInt = r.toInt * ((2 ^ s : Nat) : Int) := by
  have key : ∀ (k : Int32) (s : Nat), s ≤ 3 → ∀ y : Int64, y.toBitVec = BitVec.twoPow 64 s → ((k.toInt64 &&& 63).toBitVec.smod 64).toNat = s → y.toInt = ((2 ^ s : Nat) : Int) → ∀ r : Int32, r.toInt.natAbs < 2 ^ 20 → (r.toInt64 <<< (k.toInt64 &&& 63)).toInt = r.toInt * ((2 ^ s : Nat) : Int) := by
    intro k s hs y hy hk hv r hr
    rw [own_shl64 _ _ s hk y hy, Int64.toInt_mul, hv, Int32.toInt_toInt64]
    have h8 : 2 ^ s ≤ 8 := Nat.pow_le_pow_right (n := 2) (by decide) hs
    have hm : (r.toInt * ((2 ^ s : Nat) : Int)).natAbs ≤ 2 ^ 20 * 8 := by
      rw [Int.natAbs_mul]; exact Nat.mul_le_mul (Nat.le_of_lt hr) h8
    generalize r.toInt * ((2 ^ s : Nat) : Int) = z at *
    exact Int.bmod_eq_of_le (by omega) (by omega)
  rcases own_r3 c with h | h | h | h <;> rw [h]
  · exact ⟨0, by decide, by decide, key 0 0 (by decide) 1 (by decide) (by decide) (by decide)⟩
  · exact ⟨1, by decide, by decide, key 1 1 (by decide) 2 (by decide) (by decide) (by decide)⟩
  · exact ⟨2, by decide, by decide, key 2 2 (by decide) 4 (by decide) (by decide) (by decide)⟩
  · exact ⟨3, by decide, by decide, key 3 3 (by decide) 8 (by decide) (by decide) (by decide)⟩
theorem own_qm {r d : Int32} {s : Nat} {num : Int64} (hs : s ≤ 3) (hr : r.toInt.natAbs < 2 ^ 20) (hd : 0 < d.toInt) (hn : num.toInt = r.toInt * ((2 ^ s : Nat) : Int)) :
    d.toInt64 ≠ 0 ∧ (num / d.toInt64).toInt = (r.toInt * ((2 ^ s : Nat) : Int)).tdiv d.toInt ∧ (num - num / d.toInt64 * d.toInt64).toInt = (r.toInt * ((2 ^ s : Nat) : Int)).tmod d.toInt ∧
    (num / d.toInt64 + 1).toInt = (r.toInt * ((2 ^ s : Nat) : Int)).tdiv d.toInt + 1 ∧ (num / d.toInt64 - 1).toInt = (r.toInt * ((2 ^ s : Nat) : Int)).tdiv d.toInt - 1 ∧ (0 < num.toInt ↔ 0 < r.toInt) := by
  have h8 : 2 ^ s ≤ 8 := Nat.pow_le_pow_right (n := 2) (by decide) hs
  have hA : (r.toInt * ((2 ^ s : Nat) : Int)).natAbs ≤ 2 ^ 20 * 8 := by
    rw [Int.natAbs_mul]; exact Nat.mul_le_mul (Nat.le_of_lt hr) h8
  have hq : ((r.toInt * ((2 ^ s : Nat) : Int)).tdiv d.toInt).natAbs ≤ 2 ^ 20 * 8 := by
    rw [Int.natAbs_tdiv]; exact Nat.le_trans (Nat.div_le_self _ _) hA
  have ht := Int.tmod_def (r.toInt * ((2 ^ s : Nat) : Int)) d.toInt
  have hm : ((r.toInt * ((2 ^ s : Nat) : Int)).tmod d.toInt).natAbs ≤ 2 ^ 20 * 8 := by
    rw [Int.natAbs_tmod]; exact Nat.le_trans (Nat.mod_le _ _) hA
  have hp : (0 < r.toInt * ((2 ^ s : Nat) : Int) ↔ 0 < r.toInt) := by
    have h2 : (0 : Int) < ((2 ^ s : Nat) : Int) := by have := Nat.two_pow_pos s; omega
    constructor
    · intro h
      refine Int.lt_of_not_ge fun z => ?_
      have := Int.mul_nonpos_of_nonpos_of_nonneg z (Int.le_of_lt h2)
      omega
    · intro h; exact Int.mul_pos h h2
  have hdl : d.toInt64.toInt = d.toInt := Int32.toInt_toInt64 d
  have hqv : (num / d.toInt64).toInt = (r.toInt * ((2 ^ s : Nat) : Int)).tdiv d.toInt := by
    rw [Int64.toInt_div, hdl, hn]
    exact Int.bmod_eq_of_le (by omega) (by omega)
  refine ⟨?_, hqv, ?_, ?_, ?_, by rw [hn]; exact hp⟩
  · intro z
    rw [z] at hdl
    have : (0 : Int64).toInt = 0 := rfl
    omega
  · rw [Int64.toInt_sub, Int64.toInt_mul, hqv, hdl, hn]
    have e : (r.toInt * ((2 ^ s : Nat) : Int)).tdiv d.toInt * d.toInt = d.toInt * (r.toInt * ((2 ^ s : Nat) : Int)).tdiv d.toInt := Int.mul_comm _ _
    rw [e]
    generalize d.toInt * (r.toInt * ((2 ^ s : Nat) : Int)).tdiv d.toInt = u at *
    generalize (r.toInt * ((2 ^ s : Nat) : Int)).tmod d.toInt = m at *
    generalize r.toInt * ((2 ^ s : Nat) : Int) = z at *
    rw [Int.bmod_eq_of_le (n := u) (by omega) (by omega)]
    rw [ht]
    exact Int.bmod_eq_of_le (by omega) (by omega)
  · rw [Int64.toInt_add, hqv]
    have : (1 : Int64).toInt = 1 := rfl
    rw [this]
    exact Int.bmod_eq_of_le (by omega) (by omega)
  · rw [Int64.toInt_sub, hqv]
    have : (1 : Int64).toInt = 1 := rfl
    rw [this]
    exact Int.bmod_eq_of_le (by omega) (by omega)
end Fpn
abbrev own_cv : String := "com/example/selgen/selgen/sql/ColumnValues"
theorem d_cin_0 : decode prog_10_method_1_code 0 = .ok (.aload_n 0, 1) := by decide +kernel
theorem d_cin_1 : decode prog_10_method_1_code 1 = .ok (.invokespecial 1, 3) := by decide +kernel
theorem d_cin_4 : decode prog_10_method_1_code 4 = .ok (.aload_n 0, 1) := by decide +kernel
theorem d_cin_5 : decode prog_10_method_1_code 5 = .ok (.dload_n 1, 1) := by decide +kernel
theorem d_cin_6 : decode prog_10_method_1_code 6 = .ok (.putfield 7, 3) := by decide +kernel
theorem d_cin_9 : decode prog_10_method_1_code 9 = .ok (.aload_n 0, 1) := by decide +kernel
theorem d_cin_10 : decode prog_10_method_1_code 10 = .ok (.dload_n 3, 1) := by decide +kernel
theorem d_cin_11 : decode prog_10_method_1_code 11 = .ok (.putfield 13, 3) := by decide +kernel
theorem d_cin_14 : decode prog_10_method_1_code 14 = .ok (.return_, 1) := by decide +kernel
abbrev M_cin : own_Mi := ((⟨"com/example/selgen/selgen/sql/ColumnValues", "<init>", "(DD)V"⟩ : MethodName), prog_10_method_1_code, 5, (Option.none : Option FieldType), ({ frames := 1, cells := 0, slots := 0, locals := 12 } : Room))
theorem pn_cin : plainFor (own_Mi.y M_cin) = true := plainFor_of_name (by first | (simp [plainName, overriddenIn]; done) | decide +kernel)
set_option maxRecDepth 65536 in
set_option maxHeartbeats 40000000 in
theorem c_cin (K : own_Cx) (a0 : Array Value) (hw : ∀ d ∈ tables_1, d.before a0 K.Z = true) (t : Addr) (R D o1 o2 : UInt64) (h : Heap) (E : Exa K.Z h t own_cv) (F1 : Fld K.Z h t own_cv "rows" "D" (.double o1)) (F2 : Fld K.Z h t own_cv "distinct" "D" (.double o2)) :
    own_Met K M_cin #[.ref t, .double R, .double D] [t] h (own_void fun h' _ => Keep h h' [t] ∧ Exa K.Z h' t own_cv ∧ Fld K.Z h' t own_cv "rows" "D" (.double R) ∧ Fld K.Z h' t own_cv "distinct" "D" (.double D)) := by
  have L1 : Laid K.Z a0 own_cv own_cv "rows" "D" := Or.inr (tw_11 hw)
  have L2 : Laid K.Z a0 own_cv own_cv "distinct" "D" := Or.inr (tw_13 hw)
  have s12 := slot_ne L1 L2 (by decide) (t := .double) (t' := .double) (by decide) (by decide)
  refine own_met (M := M_cin) pn_cin (Ls := [.val (.ref t), .val (.double R), .second, .val (.double D), .second]) (fun m => rfl) ?_
  refine own_aload_n (pc' := 1) rfl d_cin_0 rfl (by first | rfl | assumption) ?_
  refine own_initO (pc' := 4) rfl d_cin_1 (tw_7 hw) (tw_8 hw) (tw_9 hw) rfl rfl rfl ?_
  refine own_aload_n (pc' := 5) rfl d_cin_4 rfl (by first | rfl | assumption) ?_
  refine own_xdload_n (pc' := 6) rfl d_cin_5 rfl ?_
  refine own_putF (pc' := 9) rfl d_cin_6 (tw_10 hw) Via.refl (Or.inr ⟨(tw_11 hw), rfl, rfl⟩) (tw_2 hw) (ty := .double) (by decide) rfl rfl F1 (by assumption) (by simp) ?_
  intro h2 W2
  have F1' := F1.same W2
  have F2' := F2.other W2 (Or.inr (Ne.symm s12))
  have E2 := E.wr W2
  refine own_aload_n (pc' := 10) rfl d_cin_9 rfl (by first | rfl | assumption) ?_
  refine own_xdload_n (pc' := 11) rfl d_cin_10 rfl ?_
  refine own_putF (pc' := 14) rfl d_cin_11 (tw_12 hw) Via.refl (Or.inr ⟨(tw_13 hw), rfl, rfl⟩) (tw_2 hw) (ty := .double) (by decide) rfl rfl F2' (by assumption) (by simp) ?_
  intro h3 W3
  refine own_return rfl d_cin_14 rfl rfl ?_
  exact ⟨(Keep.of_wr W2).wr W3 (Or.inl (List.mem_singleton.mpr rfl)), E2.wr W3, F1'.other W3 (Or.inr s12), F2'.same W3⟩
theorem d_rpv_0 : decode prog_10_method_3_code 0 = .ok (.aload_n 0, 1) := by decide +kernel
theorem d_rpv_1 : decode prog_10_method_3_code 1 = .ok (.getfield 13, 3) := by decide +kernel
theorem d_rpv_4 : decode prog_10_method_3_code 4 = .ok (.dconst 0, 1) := by decide +kernel
theorem d_rpv_5 : decode prog_10_method_3_code 5 = .ok (.dcmp .l, 1) := by decide +kernel
theorem d_rpv_6 : decode prog_10_method_3_code 6 = .ok (.ifCond .le 15, 3) := by decide +kernel
theorem d_rpv_9 : decode prog_10_method_3_code 9 = .ok (.aload_n 0, 1) := by decide +kernel
theorem d_rpv_10 : decode prog_10_method_3_code 10 = .ok (.getfield 7, 3) := by decide +kernel
theorem d_rpv_13 : decode prog_10_method_3_code 13 = .ok (.aload_n 0, 1) := by decide +kernel
theorem d_rpv_14 : decode prog_10_method_3_code 14 = .ok (.getfield 13, 3) := by decide +kernel
theorem d_rpv_17 : decode prog_10_method_3_code 17 = .ok (.ddiv, 1) := by decide +kernel
theorem d_rpv_18 : decode prog_10_method_3_code 18 = .ok (.goto 4, 3) := by decide +kernel
theorem d_rpv_21 : decode prog_10_method_3_code 21 = .ok (.dconst 0, 1) := by decide +kernel
theorem d_rpv_22 : decode prog_10_method_3_code 22 = .ok (.dreturn, 1) := by decide +kernel
abbrev M_rpv : own_Mi := ((⟨"com/example/selgen/selgen/sql/ColumnValues", "rowsPerValue", "()D"⟩ : MethodName), prog_10_method_3_code, 1, (Option.some FieldType.double), ({ frames := 0, cells := 0, slots := 0, locals := 0 } : Room))
theorem pn_rpv : plainFor (own_Mi.y M_rpv) = true := plainFor_of_name (by first | (simp [plainName, overriddenIn]; done) | decide +kernel)
set_option maxRecDepth 65536 in
set_option maxHeartbeats 40000000 in
theorem c_rpv (K : own_Cx) (a0 : Array Value) (hw : ∀ d ∈ tables_1, d.before a0 K.Z = true) (t : Addr) (R D : UInt64) (h : Heap) (F1 : Fld K.Z h t own_cv "rows" "D" (.double R)) (F2 : Fld K.Z h t own_cv "distinct" "D" (.double D)) (hn : 0 < cmpValue (FP.dcmp D FP.dconst0) .l → Fl.NoNaN64 (FP.ddiv R D)) :
    own_Met K M_rpv #[.ref t] [] h (own_ret fun w h' _ => w = .double (if 0 < cmpValue (FP.dcmp D FP.dconst0) .l then FP.ddiv R D else FP.dconst0) ∧ h' = h) := by
  refine own_met_1_0 (M := M_rpv) pn_rpv rfl (by first | rfl | exact own_cat (by assumption)) ?_
  refine own_aload_n (pc' := 1) rfl d_rpv_0 rfl (by first | rfl | assumption) ?_
  refine own_getF (pc' := 4) rfl d_rpv_1 (tw_12 hw) Via.refl F2 ?_
  refine own_xdconst (pc' := 5) rfl d_rpv_4 ?_
  refine own_xdcmp (pc' := 6) rfl d_rpv_5 ?_
  refine own_ifle (pcT := 21) (pcF := 9) d_rpv_6 (by decide) (by decide) rfl (fun q => ?_) (fun q => ?_)
  · skip
    refine own_xdconst (pc' := 22) rfl d_rpv_21 ?_
    refine own_xdreturn rfl d_rpv_22 rfl rfl ?_
    rw [if_neg q]
    exact ⟨rfl, rfl⟩
  · skip
    refine own_aload_n (pc' := 10) rfl d_rpv_9 rfl (by first | rfl | assumption) ?_
    refine own_getF (pc' := 13) rfl d_rpv_10 (tw_10 hw) Via.refl F1 ?_
    refine own_aload_n (pc' := 14) rfl d_rpv_13 rfl (by first | rfl | assumption) ?_
    refine own_getF (pc' := 17) rfl d_rpv_14 (tw_12 hw) Via.refl F2 ?_
    refine own_xddiv (pc' := 18) rfl d_rpv_17 (hn q) ?_
    refine own_goto (pc' := 22) d_rpv_18 (by decide) (by decide) ?_
    refine own_xdreturn rfl d_rpv_22 rfl rfl ?_
    rw [if_pos q]
    exact ⟨rfl, rfl⟩
theorem own_cmp0 {m : Int64} : (XT.cmpL m 0 = 0 ↔ m.toInt = 0) ∧ (0 < XT.cmpL m 0 ↔ 0 < m.toInt) := by
  have e : (0 : Int64).toInt = 0 := rfl
  unfold XT.cmpL
  by_cases h : 0 < m
  · have h' := Int64.lt_iff_toInt_lt.mp h
    rw [e] at h'
    rw [if_pos h]
    exact ⟨iff_of_false (by decide) (by omega), iff_of_true (by decide) h'⟩
  · have h' : ¬ 0 < m.toInt := fun z => h (Int64.lt_iff_toInt_lt.mpr (by rw [e]; exact z))
    rw [if_neg h]
    by_cases h2 : m = 0
    · rw [if_pos h2]
      exact ⟨iff_of_true rfl (by rw [h2]; rfl), iff_of_false (by decide) h'⟩
    · have h3 : ¬ m.toInt = 0 := fun z => h2 (Int64.toInt_inj.mp z)
      rw [if_neg h2]
      exact ⟨iff_of_false (by decide) h3, iff_of_false (by decide) h'⟩
abbrev M_law : own_Mi := (x, code, maxLocals, ret, room_1)
theorem pn_law : plainFor (own_Mi.y M_law) = true := plainFor_of_name (by first | (simp [plainName, overriddenIn]; done) | decide +kernel)
set_option maxRecDepth 65536 in
set_option maxHeartbeats 40000000 in
theorem c_law (K : own_Cx) (a0 : Array Value) (hw : ∀ d ∈ tables_1, d.before a0 K.Z = true) (p0 p1 p2 : Int32) (h : Heap) :
    own_Met K M_law #[.int p0, .int p1, .int p2] [] h (own_ret fun w h' _ => w = .int 1) := by
  refine own_met_3_14 (M := M_law) pn_law rfl (by first | rfl | exact own_cat (by assumption)) (by first | rfl | exact own_cat (by assumption)) (by first | rfl | exact own_cat (by assumption)) ?_
  obtain ⟨s, hs, hp, hsh⟩ := own_sh p2
  have hr := own_rem p0
  have hd := own_rem p1
  obtain ⟨nD, sD⟩ := own_Dsign (d := p1 % 1048576) hs hp hd
  have hnum := hsh _ hr
  refine own_iload_n (pc' := 1) rfl at_0 rfl ?_
  refine own_ldcI (pc' := 3) rfl at_1 (tw_0 hw) ?_
  refine own_irem (pc' := 4) rfl at_3 (by decide) ?_
  refine own_istore_n3 (pc' := 5) rfl at_4 (by first | exact One.u | exact One.val rfl | assumption | exact One.val (by assumption)) ?_
  refine own_iload_n (pc' := 6) rfl at_5 rfl ?_
  refine own_ldcI (pc' := 8) rfl at_6 (tw_0 hw) ?_
  refine own_irem (pc' := 9) rfl at_8 (by decide) ?_
  refine own_istore_4 (pc' := 11) rfl at_9 (by first | exact One.u | exact One.val rfl | assumption | exact One.val (by assumption)) ?_
  refine own_iload_n (pc' := 12) rfl at_11 rfl ?_
  refine own_iconst (v := (3 : Int32)) (pc' := 13) rfl at_12 rfl ?_
  refine own_iand (pc' := 14) rfl at_13 ?_
  refine own_istore_5 (pc' := 16) rfl at_14 (by first | exact One.u | exact One.val rfl | assumption | exact One.val (by assumption)) ?_
  refine own_iload (pc' := 18) rfl at_16 rfl ?_
  refine own_xi2d (pc' := 19) rfl at_18 ?_
  refine own_iconst (v := (1 : Int32)) (pc' := 20) rfl at_19 rfl ?_
  refine own_iload (pc' := 22) rfl at_20 rfl ?_
  refine own_ishl (pc' := 23) rfl at_22 ?_
  refine own_xi2d (pc' := 24) rfl at_23 ?_
  refine own_xddiv (pc' := 25) rfl at_24 nD ?_
  generalize eR : p0 % 1048576 = r at *
  generalize eD : p1 % 1048576 = d at *
  generalize eP : (1 : Int32) <<< (p2 &&& 3 &&& 31) = pw at *
  refine own_xdstore (pc' := 27) rfl at_25 (Ls' := [.val (.int p0), .val (.int p1), .val (.int p2), .val (.int r), .val (.int d), .val (.int (p2 &&& 3)), .val (.double (FP.ddiv (FP.i2d d) (FP.i2d pw))), .second, .unset, .unset, .unset, .unset, .unset, .unset, .unset, .unset, .unset]) rfl ?_
  refine own_new (pc' := 30) rfl at_27 (tw_1 hw) (tw_2 hw) (tw_3 hw) rfl rfl ?_
  intro t h1 et E1 X1 D1
  refine own_dup (pc' := 31) rfl at_30 (by first | rfl | assumption) ?_
  refine own_iload_n (pc' := 32) rfl at_31 rfl ?_
  refine own_xi2d (pc' := 33) rfl at_32 ?_
  refine own_xdload (pc' := 35) rfl at_33 rfl ?_
  refine own_special2n (M' := M_cin) at_35 (pc' := 38) rfl rfl rfl (tw_4 hw) (tw_5 hw) (tw_3 hw) (tw_6 hw) (by decide) rfl (own_lenOf pd_0 rfl) rfl rfl rfl rfl (c_cin K a0 hw t _ _ _ _ h1 X1 (D1 (Or.inr (tw_11 hw)) (ty := .double) (by decide)) (D1 (Or.inr (tw_13 hw)) (ty := .double) (by decide))) (by simp) ?_
  rintro h2 xs2 ⟨k2, X2, F1, F2⟩
  refine own_astore_8 (pc' := 40) rfl at_38 (by first | exact One.u | exact One.val rfl | assumption | exact One.val (by assumption)) (by first | rfl | assumption) ?_
  refine own_aload (pc' := 42) rfl at_40 rfl (by first | rfl | assumption) ?_
  have pl := own_plain (r := r) (d := d) (p := pw) hs hp hr
  refine own_virtual0v (M' := M_rpv) at_42 (pc' := 45) rfl (tw_14 hw) (tw_15 hw) (tw_17 hw) (tw_16 hw) (tw_3 hw) (tw_18 hw) (by decide) rfl (own_lenOf pd_1 rfl) rfl rfl rfl rfl X2 (c_rpv K a0 hw t _ _ h2 F1 F2 (fun q => (pl (sD.mp q) (by have := sD.mp q; omega)).1)) (by simp) ?_
  rintro w h3 xs3 ⟨rfl, rfl⟩
  by_cases hpos : 0 < d.toInt
  · obtain ⟨-, c1, c2, c3⟩ := pl hpos (by omega)
    obtain ⟨q1, q2, q3, q4, q5, q6⟩ := own_qm hs hr hpos hnum
    rw [if_pos (sD.mpr hpos)]
    generalize FP.ddiv (FP.i2d r) (FP.ddiv (FP.i2d d) (FP.i2d pw)) = G at *
    refine own_xdstore (pc' := 47) rfl at_45 (Ls' := [.val (.int p0), .val (.int p1), .val (.int p2), .val (.int r), .val (.int d), .val (.int (p2 &&& 3)), .val (.double (FP.ddiv (FP.i2d d) (FP.i2d pw))), .second, .val (.ref t), .val (.double G), .second, .unset, .unset, .unset, .unset, .unset, .unset]) rfl ?_
    refine own_iload (pc' := 49) rfl at_47 rfl ?_
    refine own_ifgt (pcT := 65) (pcF := 52) at_49 (by decide) (by decide) rfl (fun z => ?_) (fun z => ?_)
    · skip
      refine own_iload_n (pc' := 66) rfl at_65 rfl ?_
      refine own_xi2l (pc' := 67) rfl at_66 ?_
      refine own_iload (pc' := 69) rfl at_67 rfl ?_
      refine own_xlshl (pc' := 70) rfl at_69 ?_
      generalize r.toInt64 <<< ((p2 &&& 3).toInt64 &&& 63) = num at *
      refine own_xlstore (pc' := 72) rfl at_70 (Ls' := [.val (.int p0), .val (.int p1), .val (.int p2), .val (.int r), .val (.int d), .val (.int (p2 &&& 3)), .val (.double (FP.ddiv (FP.i2d d) (FP.i2d pw))), .second, .val (.ref t), .val (.double G), .second, .val (.long num), .second, .unset, .unset, .unset, .unset]) rfl ?_
      refine own_xlload (pc' := 74) rfl at_72 rfl ?_
      refine own_iload (pc' := 76) rfl at_74 rfl ?_
      refine own_xi2l (pc' := 77) rfl at_76 ?_
      refine own_xldiv (pc' := 78) rfl at_77 q1 ?_
      generalize eQ : num / d.toInt64 = Q at *
      refine own_xlstore (pc' := 80) rfl at_78 (Ls' := [.val (.int p0), .val (.int p1), .val (.int p2), .val (.int r), .val (.int d), .val (.int (p2 &&& 3)), .val (.double (FP.ddiv (FP.i2d d) (FP.i2d pw))), .second, .val (.ref t), .val (.double G), .second, .val (.long num), .second, .val (.long Q), .second, .unset, .unset]) rfl ?_
      refine own_xlload (pc' := 82) rfl at_80 rfl ?_
      refine own_iload (pc' := 84) rfl at_82 rfl ?_
      refine own_xi2l (pc' := 85) rfl at_84 ?_
      refine own_xlrem (pc' := 86) rfl at_85 q1 ?_
      rw [eQ]
      refine own_xlstore (pc' := 88) rfl at_86 (Ls' := [.val (.int p0), .val (.int p1), .val (.int p2), .val (.int r), .val (.int d), .val (.int (p2 &&& 3)), .val (.double (FP.ddiv (FP.i2d d) (FP.i2d pw))), .second, .val (.ref t), .val (.double G), .second, .val (.long num), .second, .val (.long Q), .second, .val (.long (num - Q * d.toInt64)), .second]) rfl ?_
      refine own_xlload (pc' := 90) rfl at_88 rfl ?_
      refine own_xlconst (pc' := 91) rfl at_90 (v := 0) rfl ?_
      refine own_xlcmp (pc' := 92) rfl at_91 ?_
      refine own_ifne (pcT := 110) (pcF := 95) at_92 (by decide) (by decide) rfl (fun z3 => ?_) (fun z3 => ?_)
      · have hm : ¬ (r.toInt * ((2 ^ s : Nat) : Int)).tmod d.toInt = 0 := fun hz => z3 (own_cmp0.1.mpr (by rw [q3]; exact hz))
        refine own_xlload (pc' := 112) rfl at_110 rfl ?_
        refine own_xlconst (pc' := 113) rfl at_112 (v := 0) rfl ?_
        refine own_xlcmp (pc' := 114) rfl at_113 ?_
        refine own_ifle (pcT := 143) (pcF := 117) at_114 (by decide) (by decide) rfl (fun z4 => ?_) (fun z4 => ?_)
        · have hneg : r.toInt < 0 := by
            have a1 : ¬ 0 < r.toInt := fun hz => z4 (own_cmp0.2.mpr (q6.mpr hz))
            have a2 : r.toInt ≠ 0 := fun hz => hm (by rw [hz, Int.zero_mul, Int.zero_tmod])
            omega
          obtain ⟨d1, d2⟩ := c3 _ _ hm hneg q2 q5
          refine own_xlload (pc' := 145) rfl at_143 rfl ?_
          refine own_xlconst (pc' := 146) rfl at_145 (v := 1) rfl ?_
          refine own_xlsub (pc' := 147) rfl at_146 ?_
          refine own_xl2d (pc' := 148) rfl at_147 ?_
          refine own_xdload (pc' := 150) rfl at_148 rfl ?_
          refine own_xdcmp (pc' := 151) rfl at_150 ?_
          refine own_ifge (pcT := 167) (pcF := 154) at_151 (by decide) (by decide) rfl (fun z5 => ?_) (fun z5 => ?_)
          · exact absurd (by rw [d1]; decide) z5
          refine own_xdload (pc' := 156) rfl at_154 rfl ?_
          refine own_xlload (pc' := 158) rfl at_156 rfl ?_
          refine own_xl2d (pc' := 159) rfl at_158 ?_
          refine own_xdcmp (pc' := 160) rfl at_159 ?_
          refine own_ifge (pcT := 167) (pcF := 163) at_160 (by decide) (by decide) rfl (fun z6 => ?_) (fun z6 => ?_)
          · exact absurd (by rw [d2]; decide) z6
          refine own_iconst (v := (1 : Int32)) (pc' := 164) rfl at_163 rfl ?_
          refine own_goto (pc' := 168) at_164 (by decide) (by decide) ?_
          refine own_ireturnN (t := .boolean) rfl (by simp) (by first | exact own_nb0 | exact own_nb1 | rfl) at_168 rfl rfl ?_
          rfl
        · have hposr : 0 < r.toInt := q6.mp (own_cmp0.2.mp z4)
          obtain ⟨d1, d2⟩ := c2 _ _ hm hposr q2 q4
          refine own_xlload (pc' := 119) rfl at_117 rfl ?_
          refine own_xl2d (pc' := 120) rfl at_119 ?_
          refine own_xdload (pc' := 122) rfl at_120 rfl ?_
          refine own_xdcmp (pc' := 123) rfl at_122 ?_
          refine own_ifge (pcT := 141) (pcF := 126) at_123 (by decide) (by decide) rfl (fun z5 => ?_) (fun z5 => ?_)
          · exact absurd (by rw [d1]; decide) z5
          refine own_xdload (pc' := 128) rfl at_126 rfl ?_
          refine own_xlload (pc' := 130) rfl at_128 rfl ?_
          refine own_xlconst (pc' := 131) rfl at_130 (v := 1) rfl ?_
          refine own_xladd (pc' := 132) rfl at_131 ?_
          refine own_xl2d (pc' := 133) rfl at_132 ?_
          refine own_xdcmp (pc' := 134) rfl at_133 ?_
          refine own_ifge (pcT := 141) (pcF := 137) at_134 (by decide) (by decide) rfl (fun z6 => ?_) (fun z6 => ?_)
          · exact absurd (by rw [d2]; decide) z6
          refine own_iconst (v := (1 : Int32)) (pc' := 138) rfl at_137 rfl ?_
          refine own_goto (pc' := 142) at_138 (by decide) (by decide) ?_
          refine own_ireturnN (t := .boolean) rfl (by simp) (by first | exact own_nb0 | exact own_nb1 | rfl) at_142 rfl rfl ?_
          rfl
      · have e := c1 _ (by rw [← q3]; exact own_cmp0.1.mp z3) q2
        refine own_xdload (pc' := 97) rfl at_95 rfl ?_
        refine own_xlload (pc' := 99) rfl at_97 rfl ?_
        refine own_xl2d (pc' := 100) rfl at_99 ?_
        refine own_xdcmp (pc' := 101) rfl at_100 ?_
        refine own_ifne (pcT := 108) (pcF := 104) at_101 (by decide) (by decide) rfl (fun z7 => ?_) (fun z7 => ?_)
        · exact absurd (by rw [e]; rfl) z7
        refine own_iconst (v := (1 : Int32)) (pc' := 105) rfl at_104 rfl ?_
        refine own_goto (pc' := 109) at_105 (by decide) (by decide) ?_
        refine own_ireturnN (t := .boolean) rfl (by simp) (by first | exact own_nb0 | exact own_nb1 | rfl) at_109 rfl rfl ?_
        rfl
    · exact absurd (Int32.lt_iff_toInt_lt.mpr (show (0 : Int32).toInt < d.toInt from hpos)) z
  · rw [if_neg (fun q => hpos (sD.mp q))]
    refine own_xdstore (pc' := 47) rfl at_45 (Ls' := [.val (.int p0), .val (.int p1), .val (.int p2), .val (.int r), .val (.int d), .val (.int (p2 &&& 3)), .val (.double (FP.ddiv (FP.i2d d) (FP.i2d pw))), .second, .val (.ref t), .val (.double FP.dconst0), .second, .unset, .unset, .unset, .unset, .unset, .unset]) rfl ?_
    refine own_iload (pc' := 49) rfl at_47 rfl ?_
    refine own_ifgt (pcT := 65) (pcF := 52) at_49 (by decide) (by decide) rfl (fun z => ?_) (fun z => ?_)
    · exact absurd (Int32.lt_iff_toInt_lt.mp z) hpos
    refine own_xdload (pc' := 54) rfl at_52 rfl ?_
    refine own_xdconst (pc' := 55) rfl at_54 ?_
    refine own_xdcmp (pc' := 56) rfl at_55 ?_
    refine own_ifne (pcT := 63) (pcF := 59) at_56 (by decide) (by decide) rfl (fun z2 => ?_) (fun z2 => ?_)
    · exact absurd (by decide +kernel) z2
    refine own_iconst (v := (1 : Int32)) (pc' := 60) rfl at_59 rfl ?_
    refine own_goto (pc' := 64) at_60 (by decide) (by decide) ?_
    refine own_ireturnN (t := .boolean) rfl (by simp) (by first | exact own_nb0 | exact own_nb1 | rfl) at_64 rfl rfl ?_
    rfl
set_option maxRecDepth 65536 in
set_option maxHeartbeats 40000000 in
theorem comes_1 {Post : Tables → Env → Array Value → State → Outcome → State → Prop} (hpost : ∀ tb e args s v u, (limb_1_1.after args s (.returned v) u = true ∧ limb_1_2.after args s (.returned v) u = true ∧ True) → FrameEnd s (.returned v) u (Jvm.fieldLocs frame_1_writes args s ++ Jvm.arrayLocs frame_1_arrays args s ++ Jvm.staticLocs frame_1_statics s) 16 128 → Post tb e args s (.returned v) u) :
    ArmFor flags0 classFile x code maxLocals ret World_1 tables_1 room_1 Calls_1 rest_1 Pre_1 Post := by
  intro l hfl _ _ p e ha hc hk s m args below hf hA hF happ hP
  obtain ⟨hcalls, hrest, hpre⟩ := hP
  obtain ⟨-, -, -, hnamed, -, -, -, hat⟩ := (Spec.applies_iff hf).mp happ
  obtain ⟨hg, hn⟩ := and_e (Cond.before_iff.mp (show (Jvm.Cond.and given_1 narrow_1).before args s = true from hpre))
  obtain ⟨gc, gv⟩ := and_e hg
  obtain ⟨g0, gv⟩ := and_e gv
  obtain ⟨g1, gv⟩ := and_e gv
  obtain ⟨w0, w1, w2, rfl⟩ : ∃ w0 w1 w2 : Value, args = #[w0, w1, w2] := by
    have hs : args.size = 3 := by simpa [Cond.value, given_1] using gc
    obtain ⟨L⟩ := args
    match L, hs with
    | [w0, w1, w2], _ => exact ⟨w0, w1, w2, rfl⟩
  have hw := fun d (hd : d ∈ tables_1) => atoms_spec (ws := Jvm.Cond.code x code maxLocals ret :: tables_1) hat d (List.mem_cons_of_mem _ hd)
  have hfit : Fit s := fun {y c} hc i hi => by
    obtain ⟨ha, rfl⟩ := Array.getElem?_eq_some_iff.mp hc
    have q := List.all_eq_true.mp ((Array.all_eq_true_iff_forall_mem.mp hF) _ (Array.getElem_mem ha)) i (List.mem_range.mpr hi)
    simpa [Array.getElem?_eq_getElem hi] using q
  obtain ⟨p0, ev0⟩ := is_v g0
  obtain rfl : w0 = (.int p0) := Option.some.inj ev0
  obtain ⟨p1, ev1⟩ := is_v g1
  obtain rfl : w1 = (.int p1) := Option.some.inj ev1
  obtain ⟨p2, ev2⟩ := is_v gv
  obtain rfl : w2 = (.int p2) := Option.some.inj ev2
  have main := c_law (l, s, [], true) _ hw p0 p1 p2 s.heap
  have hEW : EW s #[.int p0, .int p1, .int p2] [] := EW.nil
  have hCH : CHv s [] s.vm s.heap := fun p hp => nomatch hp
  obtain ⟨n, o, h1, h2, h3, v, L, xs, rfl, ⟨w, e0, hq⟩, N, hC, hS, hE, hR, hwm⟩ := main tables_1 p e ha hc hk s m _ below hf ((Spec.applies_iff_loose hf).mp happ).1 ⟨rfl, State.Warmed39.refl s, rfl, ⟨_, hEW⟩, hCH, (fun x hx => nomatch hx), own_ext_refl _⟩ trivial
  subst e0
  subst hq
  refine ⟨n, _, h1, h2, h3, hpost _ _ _ _ _ _ ⟨Cond.after_iff.mpr rfl, Cond.after_iff.mpr (eq_i res_at (Term.int_eval (1)) rfl), trivial⟩ ⟨⟨_, rfl⟩, hwm rfl, (hR.2.2.2.sift fun y hy => Or.inr (N y hy)).mono (by decide) (by decide)⟩⟩
theorem main_1_1 : Claimed_1_1 := comes_1 fun _ _ _ _ _ _ h hF => ⟨h.1, hF⟩
theorem main_1_2 : Claimed_1_2 := comes_1 fun _ _ _ _ _ _ h hF => ⟨h.2.1, hF⟩
end Jvm.Pilot.@@N@@
namespace Jvm.Pilot.@@N@@
open Jvm Jvm.ClassFile Sem Op Lib Jvm.Free Jvm.Stand Jvm.Pilot.@@N@@.Jvm.D
/-! MADE BY PROGRAM (witnessworld.py) out of the Statement's table words and the real class files: 9 classes; the members and pool entries that the words name. The judged class is class 1, her method 1. -/
namespace start1
open Jvm.ClassFile
def u (s : String) : CpInfo := .utf8 (stringToUtf16 s)
/-- a pool by its gaps: so many unusable entries, then the entry; so many at the end -/
def gap : Nat → List CpInfo → List CpInfo
  | 0, r => r
  | n + 1, r => .unusable :: gap n r
def poolList (es : List (Nat × CpInfo)) (last : Nat) : List CpInfo := es.foldr (fun e r => gap e.1 (e.2 :: r)) (gap last [])
def pool (es : List (Nat × CpInfo)) (last : Nat) : Array CpInfo := ⟨poolList es last⟩
def fileOf (pool : Array CpInfo) (this : Nat) (attrs : Array Attribute := #[]) (ms : Array MethodInfo := #[]) (fl : Nat := 33) (sup : Nat := 0) (ifs : Array Nat := #[]) (fds : Array FieldInfo := #[]) : ClassFile where
  minorVersion := 0
  majorVersion := 65
  constantPool := pool
  accessFlags := fl
  thisClass := this
  superClass := sup
  interfaces := ifs
  fields := fds
  methods := ms
  attributes := attrs
def plain (name : String) (sup : Option ClassId) : Class where
  name := name
  kind := .ordinary
  loader := none
  accessFlags := 33
  super := sup
  interfaces := #[]
  cf := none
  fields := #[]
  methods := #[]
  instanceTypes := #[]
  staticTypes := #[]
  resolved := #[]
  callSites := []
  init := .initialized
  statics := none
  mirror := none

def pool0 : Array CpInfo := pool [(5, u "<init>"), (0, u "()V"), (1, .class_ 10), (1, u "java/lang/Object")] 113

def k0c0 : Code := { maxStack := 0, maxLocals := 1, code := object_method_1_code, exceptionTable := #[], attributes := #[] }
def k0m0 : Method := { name := "<init>", desc := "()V", sig := { parameters := [], returnType := none }, accessFlags := 1, code := some k0c0 }
/-- java/lang/Object -/
def k0 : Class := { plain "java/lang/Object" none with
  accessFlags := 33
  interfaces := #[]
  cf := some (fileOf pool0 8 #[] #[{ accessFlags := 1, nameIndex := 5, descriptorIndex := 6, attributes := #[] }] 33 0 #[] #[])
  fields := #[]
  methods := #[k0m0]
  instanceTypes := #[]
  staticTypes := #[]
  resolved := Array.replicate 124 none
  statics := none }

def pool1 : Array CpInfo := pool [(2, .class_ 4), (1, u "java/lang/Object"), (0, u "<init>"), (0, u "()V"), (0, .integer 1048576), (0, .class_ 9), (0, u "com/example/selgen/selgen/sql/ColumnValues"), (0, .methodref 8 11), (0, .nameAndType 5 12), (0, u "(DD)V"), (0, .methodref 8 14), (0, .nameAndType 15 16), (0, u "rowsPerValue"), (0, u "()D"), (0, .class_ 18), (0, u "com/example/selgen/selgen/sql/ColumnValuesRowsPerValuePinLaw"), (2, u "law"), (0, u "(III)Z")] 3

def k1m0 : Method := { name := "<init>", desc := "()V", sig := { parameters := [], returnType := none }, accessFlags := 1, code := none }
def k1c1 : Code := { maxStack := 6, maxLocals := 17, code := code, exceptionTable := #[], attributes := #[] }
def k1m1 : Method := { name := "law", desc := "(III)Z", sig := { parameters := [.int, .int, .int], returnType := some .boolean }, accessFlags := 9, code := some k1c1 }
/-- com/example/selgen/selgen/sql/ColumnValuesRowsPerValuePinLaw -/
def k1 : Class := { plain "com/example/selgen/selgen/sql/ColumnValuesRowsPerValuePinLaw" (some 0) with
  accessFlags := 49
  interfaces := #[]
  cf := some (fileOf pool1 17 #[] #[{ accessFlags := 1, nameIndex := 5, descriptorIndex := 6, attributes := #[] }, { accessFlags := 9, nameIndex := 21, descriptorIndex := 22, attributes := #[] }] 49 2 #[] #[])
  fields := #[]
  methods := #[k1m0, k1m1]
  instanceTypes := #[]
  staticTypes := #[]
  resolved := Array.replicate 26 none
  statics := none }

def pool2 : Array CpInfo := pool [(1, .methodref 2 3), (0, .class_ 4), (0, .nameAndType 5 6), (0, u "java/lang/Object"), (0, u "<init>"), (0, u "()V"), (0, .fieldref 8 9), (0, .class_ 10), (0, .nameAndType 11 12), (0, u "com/example/selgen/selgen/sql/ColumnValues"), (0, u "rows"), (0, u "D"), (0, .fieldref 8 14), (0, .nameAndType 15 12), (0, u "distinct"), (0, u "(DD)V"), (2, u "()D"), (0, u "rowsPerValue")] 3

def k2c0 : Code := { maxStack := 3, maxLocals := 5, code := prog_10_method_1_code, exceptionTable := #[], attributes := #[] }
def k2m0 : Method := { name := "<init>", desc := "(DD)V", sig := { parameters := [.double, .double], returnType := none }, accessFlags := 0, code := some k2c0 }
def k2c1 : Code := { maxStack := 4, maxLocals := 1, code := prog_10_method_3_code, exceptionTable := #[], attributes := #[] }
def k2m1 : Method := { name := "rowsPerValue", desc := "()D", sig := { parameters := [], returnType := some .double }, accessFlags := 0, code := some k2c1 }
/-- com/example/selgen/selgen/sql/ColumnValues -/
def k2 : Class := { plain "com/example/selgen/selgen/sql/ColumnValues" (some 0) with
  accessFlags := 48
  interfaces := #[]
  cf := some (fileOf pool2 8 #[] #[{ accessFlags := 0, nameIndex := 5, descriptorIndex := 16, attributes := #[] }, { accessFlags := 0, nameIndex := 20, descriptorIndex := 19, attributes := #[] }] 48 2 #[] #[{ accessFlags := 18, nameIndex := 11, descriptorIndex := 12, attributes := #[] }, { accessFlags := 18, nameIndex := 15, descriptorIndex := 12, attributes := #[] }])
  fields := #[{ name := "rows", type := .double, accessFlags := 18, slot := 0, constantValue := 0 }, { name := "distinct", type := .double, accessFlags := 18, slot := 1, constantValue := 0 }]
  methods := #[k2m0, k2m1]
  instanceTypes := #[.double, .double]
  staticTypes := #[]
  resolved := Array.replicate 24 none
  statics := none }

def pool3 : Array CpInfo := pool [(1, u "java/lang/Cloneable"), (0, .class_ 1), (0, u "java/lang/Object"), (0, .class_ 3)] 3

/-- java/lang/Cloneable -/
def k3 : Class := { plain "java/lang/Cloneable" (some 0) with
  accessFlags := 1537
  interfaces := #[]
  cf := some (fileOf pool3 2 #[] #[] 1537 4 #[] #[])
  fields := #[]
  methods := #[]
  instanceTypes := #[]
  staticTypes := #[]
  resolved := Array.replicate 8 none
  statics := none }

def pool4 : Array CpInfo := pool [(1, u "java/io/Serializable"), (0, .class_ 1), (0, u "java/lang/Object"), (0, .class_ 3)] 3

/-- java/io/Serializable -/
def k4 : Class := { plain "java/io/Serializable" (some 0) with
  accessFlags := 1537
  interfaces := #[]
  cf := some (fileOf pool4 2 #[] #[] 1537 4 #[] #[])
  fields := #[]
  methods := #[]
  instanceTypes := #[]
  staticTypes := #[]
  resolved := Array.replicate 8 none
  statics := none }

/-- the primitive byte -/
def k5 : Class := { plain "byte" none with kind := .primitive 'B', accessFlags := 0x411 }
/-- [B -/
def k6 : Class := { plain "[B" (some 0) with kind := .array 5 .byte, interfaces := #[3, 4], accessFlags := 1041 }

/-- the primitive int -/
def k7 : Class := { plain "int" none with kind := .primitive 'I', accessFlags := 0x411 }
/-- [I -/
def k8 : Class := { plain "[I" (some 0) with kind := .array 7 .int, interfaces := #[3, 4], accessFlags := 1041 }

def heap : Heap := #[]
def classes : Array Class := #[k0, k1, k2, k3, k4, k5, k6, k7, k8]
def interned : List (Array UInt16 × Addr) := []
def slotsUsed : Nat := 0
def theMethod : MethodId := ⟨1, 1⟩
def args0 : Array Value := #[.int 5, .int 6, .int 7]
def aboutOver (below : List Frame) : State where
  vm := { classes := classes, interned := interned.toArray }
  heap := heap
  slotsUsed := slotsUsed
  threads := #[{ frames := .invoking theMethod args0 :: below }]
def below0 : List Frame := [.native { method := ⟨0, 0⟩, args := #[] }]
def about1 : State := aboutOver below0
def p0 : Program := .bare "" "" ""
def e0 : Env := launch0.env 0 0 0
theorem w_frames : about1.frames = Frame.invoking theMethod args0 :: below0 := rfl
set_option maxRecDepth 65536 in
theorem w_args : argsFit about1.vm theMethod args0 = true := by decide +kernel
set_option maxRecDepth 65536 in
theorem w_heap : heapFits about1 = true := by decide +kernel
set_option maxRecDepth 65536 in
theorem w_runnable : about1.curStatus? = some .runnable := by decide +kernel
set_option maxRecDepth 65536 in
theorem w_alone : about1.alone = true := by decide +kernel
set_option maxRecDepth 65536 in
theorem w_named : about1.methodNamed? x = some theMethod := by decide +kernel
set_option maxRecDepth 65536 in
theorem w_hears : about1.hears theMethod below0 = true := by decide +kernel
set_option maxRecDepth 65536 in
theorem w_ripe : about1.ripe theMethod args0 below0 = true := by decide +kernel
theorem w_running : about1.status = .running := rfl
set_option maxRecDepth 65536 in
theorem w_room : about1.hasRoom e0.platform room_1 = true :=
  launch0.hasRoom_least _ room_1 (by decide +kernel) (by decide +kernel) (by decide +kernel) (by decide +kernel) (by decide +kernel) (by decide +kernel)
theorem allAtoms_all (ts : List Jvm.Cond) (a : Array Jvm.Value) (st : Jvm.State) : (allAtoms ts).before a st = ts.all (fun c => c.before a st) := by
  induction ts with
  | nil => rfl
  | cons c t ih =>
    show (Jvm.Cond.and c (allAtoms t)).before a st = _
    rw [Jvm.Cond.before_and, ih, List.all_cons]
def words1 : List Jvm.Cond := Jvm.Cond.code x code maxLocals ret :: tables_1
/-- a 'code' word, met by the world's own term for the bytes: nothing is compared byte by byte -/
theorem code_word {y : MethodName} {bytes : ByteArray} {mx : Nat} {rt : Option FieldType} {a : Array Value} {s : State} {m : MethodId} {meth : Method} {c : Code} (h1 : s.methodNamed? y = some m) (h2 : s.vm.method? m = some meth) (h3 : meth.code = some c) (h4 : c.code = bytes)
    (h5 : (c.maxLocals == mx && c.exceptionTable.isEmpty && decide (c.maxStack ≤ mostOperands) && decide (meth.sig.returnType = rt) && !meth.locks && decide (parseMethodDescriptor y.desc = some meth.sig)) = true) : (Jvm.Cond.code y bytes mx rt).before a s = true := by
  simp only [Bool.and_eq_true, beq_iff_eq, Bool.not_eq_true', decide_eq_true_eq] at h5
  obtain ⟨⟨⟨⟨⟨g1, g2⟩, g3⟩, g4⟩, g5⟩, g6⟩ := h5
  simp [Cond.before, Cond.holds, Cond.value, h1, h2, h3, h4, g1, g2, g3, g4, g5, g6]
def isCode : Jvm.Cond → Bool
  | .code _ _ _ _ => true
  | _ => false
theorem all_split {L : List Jvm.Cond} {P : Jvm.Cond → Bool} (h1 : L.all (fun c => isCode c || P c) = true) (h2 : ∀ c ∈ L.filter isCode, P c = true) : L.all P = true := by
  refine List.all_eq_true.mpr fun c hc => ?_
  have h := List.all_eq_true.mp h1 c hc
  rcases Bool.eq_false_or_eq_true (isCode c) with hi | hi
  · exact h2 c (List.mem_filter.mpr ⟨hc, hi⟩)
  · simpa [hi] using h
set_option maxRecDepth 65536 in
theorem w_c0 : (Jvm.Cond.code x code maxLocals ret).before args0 about1 = true := code_word (m := ⟨1, 1⟩) (meth := k1m1) (c := k1c1) (by decide +kernel) rfl rfl rfl (by decide +kernel)
set_option maxRecDepth 65536 in
theorem w_c1 : (Jvm.Cond.code ({ cls := "com/example/selgen/selgen/sql/ColumnValues", name := "<init>", desc := "(DD)V" } : Jvm.MethodName) prog_10_method_1_code (5 : Nat) (Option.none : Option Jvm.ClassFile.FieldType)).before args0 about1 = true := code_word (m := ⟨2, 0⟩) (meth := k2m0) (c := k2c0) (by decide +kernel) rfl rfl rfl (by decide +kernel)
set_option maxRecDepth 65536 in
theorem w_c2 : (Jvm.Cond.code ({ cls := "java/lang/Object", name := "<init>", desc := "()V" } : Jvm.MethodName) object_method_1_code (1 : Nat) (Option.none : Option Jvm.ClassFile.FieldType)).before args0 about1 = true := code_word (m := ⟨0, 0⟩) (meth := k0m0) (c := k0c0) (by decide +kernel) rfl rfl rfl (by decide +kernel)
set_option maxRecDepth 65536 in
theorem w_c3 : (Jvm.Cond.code ({ cls := "com/example/selgen/selgen/sql/ColumnValues", name := "rowsPerValue", desc := "()D" } : Jvm.MethodName) prog_10_method_3_code (1 : Nat) (Option.some Jvm.ClassFile.FieldType.double)).before args0 about1 = true := code_word (m := ⟨2, 1⟩) (meth := k2m1) (c := k2c1) (by decide +kernel) rfl rfl rfl (by decide +kernel)
def codes1 : List Jvm.Cond := [Jvm.Cond.code x code maxLocals ret, Jvm.Cond.code ({ cls := "com/example/selgen/selgen/sql/ColumnValues", name := "<init>", desc := "(DD)V" } : Jvm.MethodName) prog_10_method_1_code (5 : Nat) (Option.none : Option Jvm.ClassFile.FieldType), Jvm.Cond.code ({ cls := "java/lang/Object", name := "<init>", desc := "()V" } : Jvm.MethodName) object_method_1_code (1 : Nat) (Option.none : Option Jvm.ClassFile.FieldType), Jvm.Cond.code ({ cls := "com/example/selgen/selgen/sql/ColumnValues", name := "rowsPerValue", desc := "()D" } : Jvm.MethodName) prog_10_method_3_code (1 : Nat) (Option.some Jvm.ClassFile.FieldType.double)]
set_option maxRecDepth 65536 in
theorem codes_eq : words1.filter isCode = codes1 := rfl
theorem w_codes : ∀ c ∈ words1.filter isCode, c.before args0 about1 = true := by
  rw [codes_eq]
  intro c hc
  simp only [codes1, List.mem_cons, List.not_mem_nil, or_false] at hc
  rcases hc with rfl | rfl | rfl | rfl
  · exact w_c0
  · exact w_c1
  · exact w_c2
  · exact w_c3
set_option maxRecDepth 65536 in
theorem w_t1 : words1.all (fun c => isCode c || c.before args0 about1) = true := by decide +kernel
theorem w_tables : (allAtoms (Jvm.Cond.code x code maxLocals ret :: tables_1)).before args0 about1 = true := by
  rw [allAtoms_all]
  show words1.all (fun c => c.before args0 about1) = true
  refine all_split ?_ w_codes
  rw [w_t1]
set_option maxRecDepth 65536 in
theorem w_case : (Jvm.Cond.and given_1 narrow_1).before args0 about1 = true := by decide +kernel
theorem w_applies : (headSpec (Jvm.Cond.code x code maxLocals ret :: tables_1) room_1).applies x e0.platform about1 = true :=
  (Spec.applies_iff w_frames).mpr ⟨w_running, w_runnable, w_alone, w_named, w_hears, w_ripe, w_room, w_tables⟩
theorem atStart : AtStart classFile x code maxLocals ret World_1 tables_1 room_1 Calls_1 rest_1 Pre_1 launch0 p0 e0 about1 theMethod args0 below0 :=
  ⟨lists_1, trivial, launch0.admits_env _ _ _, launch0.least_env, fairChoices_fair.cas, fairChoices_fair.clock, w_frames, w_args, w_heap, w_applies, trivial, trivial, w_case⟩
end start1
theorem witness_1 : WitnessClaimed_1 := ⟨start1.p0, start1.e0, start1.about1, start1.theMethod, start1.args0, start1.below0, start1.atStart⟩
end Jvm.Pilot.@@N@@
