import JvmDerived
import JvmDerived.Pilot.@@N@@Statement
import JvmDerived.Pilot.@@N@@Code
set_option linter.unusedVariables false
set_option linter.unusedSimpArgs false
namespace Jvm.Pilot.@@N@@
open Jvm Jvm.ClassFile Sem Op Lib Jvm.Free Jvm.Stand Jvm.LawKit Jvm.RoadKit Bundle Jvm.Pilot.@@N@@.Jvm.D
/-! THE LAYER: what a body does from a point on, as one sentence ('own_WP'); a contract is 'own_Met'. K: the launch, the start's state, the string constants that are held, 'nothing is interned'. M: the method, its bytes, its locals, what it returns, its room. -/
abbrev own_Cx : Type := Launch × State × List (String × Nat) × Bool
abbrev own_Cx.l (K : own_Cx) : Launch := K.1
abbrev own_Cx.Z (K : own_Cx) : State := K.2.1
abbrev own_Cx.E (K : own_Cx) : List (String × Nat) := K.2.2.1
abbrev own_Cx.nw (K : own_Cx) : Bool := K.2.2.2
abbrev own_Cx.n (K : own_Cx) : Nat := K.Z.heap.size
abbrev own_Mi : Type := MethodName × ByteArray × Nat × Option FieldType × Room
abbrev own_Mi.y (M : own_Mi) : MethodName := M.1
abbrev own_Mi.b (M : own_Mi) : ByteArray := M.2.1
abbrev own_Mi.mx (M : own_Mi) : Nat := M.2.2.1
abbrev own_Mi.ret (M : own_Mi) : Option FieldType := M.2.2.2.1
abbrev own_Mi.R (M : own_Mi) : Room := M.2.2.2.2
abbrev own_Q : Type := Option Value → Heap → List Addr → Prop
def own_ret (q : Value → Heap → List Addr → Prop) : own_Q := fun v h xs => ∃ w, v = some w ∧ q w h xs
def own_void (q : Heap → List Addr → Prop) : own_Q := fun v h xs => v = none ∧ q h xs
def own_Bdy (K : own_Cx) (M : own_Mi) (p : Program) (s : State) (m : MethodId) (meth : Method) (c : Code) : Prop :=
  p.tables.exec = Jvm.exec ∧ c.code = M.b ∧ c.maxLocals = M.mx ∧ s.vm.findClass M.y.cls = some m.cls ∧ meth.name = M.y.name ∧ meth.sig.returnType = M.ret ∧ meth.locks = false ∧ K.Z.Warmed39 s.vm ∧ ∃ a0, EW K.Z a0 K.E
def own_Sf (K : own_Cx) (vm : Vm) (h : Heap) (xs : List Addr) : Prop := ∀ x ∈ xs, K.n ≤ x ∧ x < h.size ∧ Safe K.Z K.E vm h x
def own_Inv (K : own_Cx) (s : State) (vm0 : Vm) (k0 : Nat) (h : Heap) (sf : List Addr) : Prop :=
  s.Since vm0 k0 ∧ k0 ≤ h.size ∧ (K.nw = true → s.WarmedH vm0) ∧ CHr K.Z K.E s.vm s.heap vm0 h ∧ own_Sf K vm0 h sf ∧ Ext K.Z.heap h
def own_End (K : own_Cx) (R : Room) (Q : own_Q) (s : State) (o : Outcome) (t : State) : Prop :=
  ∃ v L xs, o = .returned v ∧ Q v t.heap xs ∧ Fr K.n L ∧ CHr K.Z K.E s.vm s.heap t.vm t.heap ∧ own_Sf K t.vm t.heap xs ∧ Ext K.Z.heap t.heap ∧ ReturnedEndW s o t L R.cells R.slots ∧ (K.nw = true → s.WarmedH t.vm)
def own_Fin (K : own_Cx) (R : Room) (Q : own_Q) (p : Program) (e : Env) (below : List Frame) (s F : State) : Prop :=
  ∃ s₂ o, Steps p.tables e below F s₂ ∧ s₂.status = .running ∧ Ended s₂ below o ∧ own_End K R Q s o s₂
def own_WP (K : own_Cx) (M : own_Mi) (Q : own_Q) (pc : Nat) (Ls : List Slot) (St : List Value) (sf : List Addr) (h : Heap) (cs sl : Nat) : Prop :=
  ∀ (p : Program) (e : Env) (s : State) (vm0 : Vm) (k0 : Nat) (m : MethodId) (args : Array Value) (below : List Frame) (meth : Method) (c : Code) (T : State) (locs : List Loc) (cs' sl' : Nat),
    own_Bdy K M p (s.setVm vm0) m meth c → Stand p K.l e M.R (s.setVm vm0) m args below meth c T locs cs' sl' → cs' ≤ cs → sl' ≤ sl → T.heap = h → Fr K.n locs → own_Inv K s vm0 k0 h sf →
    own_Fin K M.R Q p e below s (T.setTop (mkF m pc Ls.toArray St))
def own_Met (K : own_Cx) (M : own_Mi) (as' : Array Value) (sf : List Addr) (h : Heap) (Q : own_Q) : Prop :=
  ∀ ws : List Jvm.Cond, MetFree K.l M.y (head1 (Jvm.Cond.code M.y M.b M.mx M.ret :: ws) M.R) (fun a U => a = as' ∧ K.Z.Warmed39 U.vm ∧ U.heap = h ∧ (∃ a0, EW K.Z a0 K.E) ∧ CHv K.Z K.E U.vm h ∧ own_Sf K U.vm h sf ∧ Ext K.Z.heap h) (fun _ _ _ _ _ => True) (fun _ U o U' => own_End K M.R Q U o U')
section Core
variable {K : own_Cx} {M : own_Mi} {Q : own_Q} {pc pc' : Nat} {Ls Ls' : List Slot} {St St' : List Value} {sf : List Addr} {h : Heap} {cs sl : Nat} {a0 : Array Value}
theorem own_ext_trans {h h' h2 : Heap} (E : Ext h h') (E' : Ext h' h2) : Ext h h2 := ⟨Nat.le_trans E.1 E'.1, fun x c q => E'.2 x c (E.2 x c q)⟩
theorem own_ext_refl (h : Heap) : Ext h h := ⟨Nat.le_refl _, fun _ _ q => q⟩
theorem own_met (hpn : plainFor M.y = true) {as' : Array Value} (ef : ∀ m : MethodId, entryFrame m as' M.mx = mkF m 0 Ls.toArray []) (k : own_WP K M Q 0 Ls [] sf h 0 0) : own_Met K M as' sf h Q := by
  intro ws
  refine MetFree.of_bodySF hpn hisR ?_
  intro p e s m args below meth c s₁ Bd hml0 hP hK
  obtain ⟨rfl, hZ, hh, hEW, hC, hsf, hE⟩ := hP
  have hown : s.vm.findClass M.y.cls = some m.cls := findClass_of_methodNamed Bd.named
  have hnm := (name_of_methodNamed Bd.named Bd.method).1
  have X0 : Stand p K.l e M.R s m args below meth c s₁ [] 0 0 := Stand.of_body Bd
  have e0 : s₁.heap = h := by rw [← hh, Bd.state]; rfl
  have hI : own_Inv K s s.vm 0 h sf := ⟨(State.WarmedH.refl s).since _, Nat.zero_le _, fun _ => State.WarmedH.refl s, by rw [← hh]; exact CHr.refl (by rw [hh]; exact hC), hsf, hE⟩
  obtain ⟨s₂, o, h1, h2, h3, h4⟩ := k p e s s.vm 0 m args below meth c s₁ [] 0 0 ⟨Bd.exec, Bd.bytes, hml0, hown, hnm, Bd.returns, BodyLoose.notSynchronized Bd, hZ, hEW⟩ X0 (Nat.le_refl _) (Nat.le_refl _) e0 (Fr.nil _) hI
  refine ⟨s₂, o, ?_, h2, h3, h4⟩
  rw [ef m]
  exact h1
theorem own_step (k : own_WP K M Q pc' Ls' St' sf h cs sl)
    (st : ∀ (p : Program) (e : Env) (s : State) (m : MethodId) (args : Array Value) (below : List Frame) (meth : Method) (c : Code) (T : State) (locs : List Loc) (cs' sl' : Nat), own_Bdy K M p s m meth c → Stand p K.l e M.R s m args below meth c T locs cs' sl' → T.heap = h →
      ∀ t, Steps p.tables e below (T.setTop (mkF m pc' Ls'.toArray St')) t → Steps p.tables e below (T.setTop (mkF m pc Ls.toArray St)) t) : own_WP K M Q pc Ls St sf h cs sl := by
  intro p e s vm0 k0 m args below meth c T locs cs' sl' B X hc hs eT N I
  obtain ⟨s₂, o, h1, r⟩ := k p e s vm0 k0 m args below meth c T locs cs' sl' B X hc hs eT N I
  exact ⟨s₂, o, st p e _ m args below meth c T locs cs' sl' B X eT _ h1, r⟩
theorem own_move (k : own_WP K M Q pc' Ls' St' sf h cs sl)
    (st : ∀ (p : Program) (e : Env) (s : State) (m : MethodId) (args : Array Value) (below : List Frame) (meth : Method) (c : Code) (T : State) (locs : List Loc) (cs' sl' : Nat), own_Bdy K M p s m meth c → Stand p K.l e M.R s m args below meth c T locs cs' sl' → T.heap = h → Ext K.Z.heap h →
      ∃ T', Stand p K.l e M.R s m args below meth c T' locs cs' sl' ∧ T'.heap = h ∧ ∀ t, Steps p.tables e below (T'.setTop (mkF m pc' Ls'.toArray St')) t → Steps p.tables e below (T.setTop (mkF m pc Ls.toArray St)) t) : own_WP K M Q pc Ls St sf h cs sl := by
  intro p e s vm0 k0 m args below meth c T locs cs' sl' B X hc hs eT N I
  obtain ⟨T', X', e', st'⟩ := st p e _ m args below meth c T locs cs' sl' B X eT I.2.2.2.2.2
  obtain ⟨s₂, o, h1, r⟩ := k p e s vm0 k0 m args below meth c T' locs cs' sl' B X' hc hs e' N I
  exact ⟨s₂, o, st' _ h1, r⟩
theorem own_Sf.new {vm : Vm} {h' : Heap} (E : Ext h h') (hH : CHv K.Z K.E vm h) (hE : Ext K.Z.heap h) (hlt : h.size < h'.size) (S : own_Sf K vm h sf) : own_Sf K vm h' (h.size :: sf) := by
  intro x hx
  rcases List.mem_cons.mp hx with rfl | hx
  · exact ⟨hE.1, hlt, Safe.ext E hH (Safe.new (Nat.le_refl _))⟩
  · obtain ⟨q1, q2, q3⟩ := S x hx
    exact ⟨q1, Nat.lt_of_lt_of_le q2 E.1, Safe.ext E hH q3⟩
theorem own_grow {dc ds : Nat} {P : Heap → Prop} (hc : cs + dc ≤ M.R.cells) (hs : sl + ds ≤ M.R.slots)
    (k : ∀ h', Ext h h' → P h' → own_WP K M Q pc' Ls' St' (h.size :: sf) h' (cs + dc) (sl + ds))
    (st : ∀ (p : Program) (e : Env) (s : State) (m : MethodId) (args : Array Value) (below : List Frame) (meth : Method) (c : Code) (T : State) (locs : List Loc) (cs' sl' : Nat), own_Bdy K M p s m meth c → Stand p K.l e M.R s m args below meth c T locs cs' sl' → cs' + dc ≤ M.R.cells → sl' + ds ≤ M.R.slots → T.heap = h →
      ∃ T' h', Stand p K.l e M.R s m args below meth c T' locs (cs' + dc) (sl' + ds) ∧ T'.heap = h' ∧ Ext h h' ∧ h.size < h'.size ∧ P h' ∧ ∀ t, Steps p.tables e below (T'.setTop (mkF m pc' Ls'.toArray St')) t → Steps p.tables e below (T.setTop (mkF m pc Ls.toArray St)) t) : own_WP K M Q pc Ls St sf h cs sl := by
  intro p e s vm0 k0 m args below meth c T locs cs' sl' B X hc' hs' eT N I
  obtain ⟨T', h', X', e', E, hlt, hP, st'⟩ := st p e _ m args below meth c T locs cs' sl' B X (by omega) (by omega) eT
  obtain ⟨i1, i2, i3, i4, i5, i6⟩ := I
  obtain ⟨s₂, o, h1, r⟩ := k h' E hP p e s vm0 k0 m args below meth c T' locs (cs' + dc) (sl' + ds) B X' (by omega) (by omega) e' N ⟨i1, Nat.le_trans i2 E.1, i3, i4.trans (CHr.ext E i4.1), own_Sf.new E i4.1 i6 hlt i5, own_ext_trans i6 E⟩
  exact ⟨s₂, o, st' _ h1, r⟩
theorem own_Sf.wr {vm : Vm} {h' : Heap} {a : Addr} {i : Nat} {v : Value} (W : Wr h h' a i v) (hH : CHv K.Z K.E vm h) (ha : a ∈ sf) (S : own_Sf K vm h sf) : own_Sf K vm h' sf := by
  intro x hx
  obtain ⟨q1, q2, q3⟩ := S x hx
  exact ⟨q1, by rw [W.size]; exact q2, Safe.wr W (S a ha).2.2 hH q3⟩
theorem own_ext_wr {h h' : Heap} {Z : State} {a : Addr} {i : Nat} {v : Value} (W : Wr h h' a i v) (ha : Z.heap.size ≤ a) (E : Ext Z.heap h) : Ext Z.heap h' := by
  have K := Keep.of_wr W
  exact ⟨by rw [W.size]; exact E.1, fun x c q => K.2.1 x c (E.2 x c q) (by
    intro hm
    have h1 : x < Z.heap.size := (Array.getElem?_eq_some_iff.mp q).1
    have h2 := List.mem_singleton.mp hm
    subst h2
    exact Nat.lt_irrefl _ (Nat.lt_of_lt_of_le h1 ha))⟩
theorem own_write {a : Addr} {i : Nat} {v : Value} (ha : a ∈ sf) (k : ∀ h', Wr h h' a i v → own_WP K M Q pc' Ls' St' sf h' cs sl)
    (st : ∀ (p : Program) (e : Env) (s : State) (m : MethodId) (args : Array Value) (below : List Frame) (meth : Method) (c : Code) (T : State) (locs : List Loc) (cs' sl' : Nat), own_Bdy K M p s m meth c → Stand p K.l e M.R s m args below meth c T locs cs' sl' → T.heap = h →
      ∃ T' h', Stand p K.l e M.R s m args below meth c T' (locs ++ [⟨a, i⟩]) cs' sl' ∧ T'.heap = h' ∧ Wr h h' a i v ∧ ∀ t, Steps p.tables e below (T'.setTop (mkF m pc' Ls'.toArray St')) t → Steps p.tables e below (T.setTop (mkF m pc Ls.toArray St)) t) : own_WP K M Q pc Ls St sf h cs sl := by
  intro p e s vm0 k0 m args below meth c T locs cs' sl' B X hc' hs' eT N I
  obtain ⟨T', h', X', e', W, st'⟩ := st p e _ m args below meth c T locs cs' sl' B X eT
  obtain ⟨i1, i2, i3, i4, i5, i6⟩ := I
  have hn := (i5 a ha).1
  obtain ⟨s₂, o, h1, r⟩ := k h' W p e s vm0 k0 m args below meth c T' _ cs' sl' B X' hc' hs' e' (Fr.snoc X' N hn) ⟨i1, by rw [W.size]; exact i2, i3, i4.trans (CHr.wr W (i5 a ha).2.2 i4.1), own_Sf.wr W i4.1 ha i5, own_ext_wr W hn i6⟩
  exact ⟨s₂, o, st' _ h1, r⟩
/-- fewer writable places, more room spent: a weaker sentence -/
theorem own_weak {sf' : List Addr} {cs1 sl1 : Nat} (k : own_WP K M Q pc Ls St sf' h cs1 sl1) (hsf : ∀ x ∈ sf', x ∈ sf) (hc : cs ≤ cs1) (hs : sl ≤ sl1) : own_WP K M Q pc Ls St sf h cs sl :=
  fun p e s vm0 k0 m args below meth c T locs cs' sl' B X hc' hs' eT N I => k p e s vm0 k0 m args below meth c T locs cs' sl' B X (Nat.le_trans hc' hc) (Nat.le_trans hs' hs) eT N ⟨I.1, I.2.1, I.2.2.1, I.2.2.2.1, fun x hx => I.2.2.2.2.1 x (hsf x hx), I.2.2.2.2.2⟩
/-- the end -/
theorem own_leave {v : Option Value} (hv : M.ret = none → v = none) (hc : cs ≤ M.R.cells) (hs : sl ≤ M.R.slots) (q : Q v h sf)
    (st : ∀ (p : Program) (e : Env) (s : State) (m : MethodId) (args : Array Value) (below : List Frame) (meth : Method) (c : Code) (T : State) (locs : List Loc) (cs' sl' : Nat), own_Bdy K M p s m meth c → Stand p K.l e M.R s m args below meth c T locs cs' sl' →
      ∀ fs, (∀ (f : JFrame) (acts : List Action), f.method = m → f.locked = none → f.entered = [] → (doReturn e (T.setTop f) acts v).1 = T.setFrames fs) → Steps p.tables e below (T.setTop (mkF m pc Ls.toArray St)) (T.setFrames fs)) : own_WP K M Q pc Ls St sf h cs sl := by
  intro p e s vm0 k0 m args below meth c T locs cs' sl' B X hc' hs' eT N I
  obtain ⟨i1, i2, i3, i4, i5, i6⟩ := I
  have hlk : meth.locks = false := B.2.2.2.2.2.2.1
  have hr : meth.sig.returnType = M.ret := B.2.2.2.2.2.1
  obtain ⟨a1, hEW⟩ := B.2.2.2.2.2.2.2.2
  obtain ⟨fs, h1, h2, h3, h4⟩ := X.leaveW i1 (by rw [eT]; exact i2) (v := v) (by rw [hr]; exact hv) hlk
  have A : CHr K.Z K.E vm0 h T.vm h := CHv.at X B.2.2.2.2.2.2.2.1 hEW i4.1
  refine ⟨_, _, st p e _ m args below meth c T locs cs' sl' B X fs h1, h2, h3, v, locs, sf, rfl, ?_, N, ?_, ?_, ?_, ?_, ?_⟩
  · show Q v T.heap sf; rw [eT]; exact q
  · show CHr K.Z K.E s.vm s.heap T.vm T.heap; rw [eT]; exact i4.trans A
  · show own_Sf K T.vm T.heap sf
    rw [eT]
    exact fun x hx => ⟨(i5 x hx).1, (i5 x hx).2.1, A.safe (i5 x hx).2.1 (i5 x hx).2.2⟩
  · show Ext K.Z.heap T.heap; rw [eT]; exact i6
  · obtain ⟨r1, r2, r3, r4⟩ := h4
    exact ⟨r1, r2, r3, r4.mono (by omega) (by omega)⟩
  · exact fun q => State.WarmedH.trans (t := s.setVm vm0) (i3 q) X.warmed
end Core
section Calls
variable {K : own_Cx} {M M' : own_Mi} {Q Q' : own_Q} {pc pc' : Nat} {Ls : List Slot} {St rest : List Value} {sf sf' : List Addr} {h : Heap} {cs sl : Nat} {a0 : Array Value}
theorem own_back {R : Room} {p : Program} {e : Env} {s : State} {vm0 : Vm} {k0 : Nat} {below : List Frame} {args as' : Array Value} {len W : Nat} (hM : own_Met K M' as' sf' h Q') (hsf : ∀ x ∈ sf', x ∈ sf) (hZ : K.Z.Warmed39 vm0) (hEW : ∃ a0, EW K.Z a0 K.E) (I : own_Inv K s vm0 k0 h sf)
    (wc : (Jvm.Cond.code M'.y M'.b M'.mx M'.ret).before a0 K.Z = true) (wz : (Jvm.Cond.initialized M'.y.cls).before a0 K.Z = true) (hf : M'.R.frames + 1 ≤ R.frames) (hl : W + (M'.mx + 11) + M'.R.locals ≤ R.locals) :
    BackS K.l R p e below (s.setVm vm0) args M'.y len W (fun A a => a = as' ∧ A.U.heap = h ∧ A.cells + M'.R.cells ≤ R.cells ∧ A.slots + M'.R.slots ≤ R.slots)
      (fun A _ v B => ∃ L xs, Q' v B.U.heap xs ∧ Fr K.n L ∧ B.locs = A.locs ++ L ∧ B.cells = A.cells + M'.R.cells ∧ B.slots = A.slots + M'.R.slots ∧ CHr K.Z K.E vm0 h B.U.vm B.U.heap ∧ own_Sf K B.U.vm B.U.heap xs ∧ Ext K.Z.heap B.U.heap ∧ (K.nw = true → (s.setVm vm0).WarmedH B.U.vm)) := by
  obtain ⟨a1, hE⟩ := hEW
  have H := I.2.2.2.1.1
  exact BackS.of_freeW (bytes := M'.b) (maxL := M'.mx) (ret := M'.ret) (E := fun _ first o t L k n => k = M'.R.cells ∧ n = M'.R.slots ∧ ∃ v xs, o = .returned v ∧ Q' v t.heap xs ∧ Fr K.n L ∧ CHr K.Z K.E first.vm first.heap t.vm t.heap ∧ own_Sf K t.vm t.heap xs ∧ Ext K.Z.heap t.heap ∧ (K.nw = true → first.WarmedH t.vm)) (hM []) hf hl
    (fun m meth c A a Y hp => have hU : K.Z.Warmed39 A.U.vm := wtrans (s := s.setVm vm0) hZ Y.warmed
      ⟨by show (Jvm.Cond.and _ .tt).before a A.U = true; rw [Cond.before_and, mv hU wc]; rfl, mv hU wc, mv hU wz, hp.2.2.1, hp.2.2.2⟩)
    (fun m meth c A a g mk Y hp => ⟨hp.1, wtrans (s := s.setVm vm0) hZ Y.warmed, hp.2.1, ⟨a1, hE⟩, (CHv.at Y hZ hE H).1, fun x hx => have q := I.2.2.2.2.1 x (hsf x hx); ⟨q.1, q.2.1, (CHv.at Y hZ hE H).safe q.2.1 q.2.2⟩, I.2.2.2.2.2⟩)
    (fun _ _ _ _ _ _ _ _ _ => trivial)
    (fun _ _ _ _ ⟨v, L, xs, h1, h2, h3, h4, h5, h6, h7, h8⟩ => ⟨L, _, _, h7, rfl, rfl, v, xs, h1, h2, h3, h4, h5, h6, h8⟩)
    (fun m meth c A a g mk v t L k n Y hp _ _ ⟨e1, e2, v', xs, e3, e4, e5, e6, e7, e8, e9⟩ => by
      cases e3; subst e1 e2
      refine ⟨L, xs, e4, e5, rfl, rfl, rfl, (CHv.at Y hZ hE H).trans ?_, e7, e8, fun q => ?_⟩
      · rw [← hp.2.1]; exact e6
      · exact State.WarmedH.trans Y.warmed (e9 q))
theorem own_called {p : Program} {e : Env} {s : State} {vm0 : Vm} {k0 : Nat} {m : MethodId} {args : Array Value} {below : List Frame} {meth : Method} {c : Code} {T : State} {locs : List Loc} {cs' sl' : Nat} {v : Option Value} {B : Pt}
    (k : ∀ v h' xs, Q' v h' xs → own_WP K M Q pc' Ls (v.toList ++ rest) (xs ++ sf) h' (cs + M'.R.cells) (sl + M'.R.slots)) (Bd : own_Bdy K M p (s.setVm vm0) m meth c) (hc : cs' ≤ cs) (hs : sl' ≤ sl) (eT : T.heap = h) (N : Fr K.n locs) (I : own_Inv K s vm0 k0 h sf)
    (X' : Stand p K.l e M.R ((s.setVm vm0).setVm B.U.vm) m args below meth c B.U B.locs B.cells B.slots) (hS : (s.setVm vm0).Since B.U.vm B.U.heap.size) (hg : T.heap.size ≤ B.U.heap.size)
    (P : ∃ L xs, Q' v B.U.heap xs ∧ Fr K.n L ∧ B.locs = locs ++ L ∧ B.cells = cs' + M'.R.cells ∧ B.slots = sl' + M'.R.slots ∧ CHr K.Z K.E vm0 h B.U.vm B.U.heap ∧ own_Sf K B.U.vm B.U.heap xs ∧ Ext K.Z.heap B.U.heap ∧ (K.nw = true → (s.setVm vm0).WarmedH B.U.vm))
    {F : State} (st : Steps p.tables e below F (B.U.setTop (mkF m pc' Ls.toArray (v.toList ++ rest)))) : own_Fin K M.R Q p e below s F := by
  obtain ⟨U, l1, c1, s1⟩ := B
  obtain ⟨L, xs, q, NL, eL, ec, es, C, S, E, w⟩ := P
  dsimp only [Pt.U, Pt.locs, Pt.cells, Pt.slots] at X' hS hg q eL ec es C S E w st
  subst eL ec es
  obtain ⟨i1, i2, i3, i4, i5, i6⟩ := I
  obtain ⟨b1, b2, b3, b4, b5, b6, b7, b8, b9⟩ := Bd
  obtain ⟨X2, S2, Z2, O2⟩ := rebS (Z := K.Z) (own := M.y.cls) i1 (n1 := T.heap.size) (by rw [eT]; exact i2) X' hS hg b8 b4
  obtain ⟨s₂, o, h1, r⟩ := k v U.heap xs q p e s U.vm U.heap.size m args below meth c U (locs ++ L) _ _ ⟨b1, b2, b3, O2, b5, b6, b7, Z2, b9⟩ X2 (Nat.add_le_add_right hc _) (Nat.add_le_add_right hs _) rfl (N.app NL)
    ⟨S2, Nat.le_refl _, fun q => State.WarmedH.trans (t := s.setVm vm0) (i3 q) (w q), i4.trans C, fun x hx => by
      rcases List.mem_append.mp hx with hx | hx
      · exact S x hx
      · exact ⟨(i5 x hx).1, Nat.lt_of_lt_of_le (i5 x hx).2.1 C.2.1, C.safe (i5 x hx).2.1 (i5 x hx).2.2⟩, E⟩
  exact ⟨s₂, o, st.trans h1, r⟩
theorem own_static {index : Nat} {argsL : List Value} (hd : decode M.b pc = .ok (.invokestatic index, 3)) (hp : pc + 3 = pc') (w1 : (Jvm.Cond.methodLink M.y.cls index M'.y).before a0 K.Z = true) (w2 : (Jvm.Cond.static M'.y).before a0 K.Z = true) (w3 : (Jvm.Cond.initialized M'.y.cls).before a0 K.Z = true) (w4 : (Jvm.Cond.code M'.y M'.b M'.mx M'.ret).before a0 K.Z = true)
    (hy : M'.y.cls ≠ "java/lang/invoke/MethodHandle" ∧ M'.y.cls ≠ "java/lang/invoke/VarHandle") (hsz : Ls.length = M.mx) (hlen : ∀ sig, parseMethodDescriptor M'.y.desc = some sig → argsL.length = sig.parameters.length) (hst : St = argsL.reverse ++ rest)
    (hf : Nat.ble (M'.R.frames + 1) M.R.frames = true) (hl : Nat.ble ((rest.map fun v => v.category).sum + (M'.mx + 11) + M'.R.locals) M.R.locals = true) (hc : Nat.ble (cs + M'.R.cells) M.R.cells = true) (hs : Nat.ble (sl + M'.R.slots) M.R.slots = true)
    (hM : own_Met K M' argsL.toArray sf' h Q') (hsf : ∀ x ∈ sf', x ∈ sf) (k : ∀ v h' xs, Q' v h' xs → own_WP K M Q pc' Ls (v.toList ++ rest) (xs ++ sf) h' (cs + M'.R.cells) (sl + M'.R.slots)) : own_WP K M Q pc Ls St sf h cs sl := by
  subst hst hp
  intro p e s vm0 k0 m args below meth c T locs cs' sl' B X hc' hs' eT N I
  have q1 := Nat.le_of_ble_eq_true hf
  have q2 := Nat.le_of_ble_eq_true hl
  have q3 := Nat.le_of_ble_eq_true hc
  have q4 := Nat.le_of_ble_eq_true hs
  obtain ⟨v, vm₁, B', -, X', hS, hg, P, st⟩ := callSS X B.1 (y := M'.y) (bytes := M'.b) (maxL := M'.mx) (ret := M'.ret) B.2.2.2.1 (mv B.2.2.2.2.2.2.2.1 w1) (mv B.2.2.2.2.2.2.2.1 w2) (mv B.2.2.2.2.2.2.2.1 w3) (mv B.2.2.2.2.2.2.2.1 w4) hy
    (own_back (W := (rest.map fun v => v.category).sum) hM hsf B.2.2.2.2.2.2.2.1 B.2.2.2.2.2.2.2.2 I w4 w3 q1 q2) (g := mkF m pc Ls.toArray (argsL.reverse ++ rest)) rfl (by rw [B.2.2.1, ← hsz]; simp) (argsL := argsL) (rest := rest) hlen rfl (by show 2 * 0 + _ ≤ _; omega) (hb B.2.1 hd)
    (fun vm₁ _ => ⟨rfl, eT, by show cs' + _ ≤ _; omega, by show sl' + _ ≤ _; omega⟩)
  exact own_called k B hc' hs' eT N I X' hS hg P st
theorem own_special {index : Nat} {a : Addr} {argsL : List Value} (hd : decode M.b pc = .ok (.invokespecial index, 3)) (hp : pc + 3 = pc') (hn : M'.y.name = "<init>") (hrt : M'.ret = none) (w1 : (Jvm.Cond.methodLink M.y.cls index M'.y).before a0 K.Z = true) (w2 : (Jvm.Cond.instanceMethod M'.y).before a0 K.Z = true) (w3 : (Jvm.Cond.initialized M'.y.cls).before a0 K.Z = true) (w4 : (Jvm.Cond.code M'.y M'.b M'.mx M'.ret).before a0 K.Z = true)
    (hy : M'.y.cls ≠ "java/lang/invoke/MethodHandle" ∧ M'.y.cls ≠ "java/lang/invoke/VarHandle") (hsz : Ls.length = M.mx) (hlen : ∀ sig, parseMethodDescriptor M'.y.desc = some sig → argsL.length = sig.parameters.length) (hst : St = argsL.reverse ++ .ref a :: rest)
    (hf : Nat.ble (M'.R.frames + 1) M.R.frames = true) (hl : Nat.ble ((rest.map fun v => v.category).sum + (M'.mx + 11) + M'.R.locals) M.R.locals = true) (hc : Nat.ble (cs + M'.R.cells) M.R.cells = true) (hs : Nat.ble (sl + M'.R.slots) M.R.slots = true)
    (hM : own_Met K M' (.ref a :: argsL).toArray sf' h Q') (hsf : ∀ x ∈ sf', x ∈ sf) (k : ∀ v h' xs, Q' v h' xs → own_WP K M Q pc' Ls (v.toList ++ rest) (xs ++ sf) h' (cs + M'.R.cells) (sl + M'.R.slots)) : own_WP K M Q pc Ls St sf h cs sl := by
  subst hst hp
  intro p e s vm0 k0 m args below meth c T locs cs' sl' B X hc' hs' eT N I
  have q1 := Nat.le_of_ble_eq_true hf
  have q2 := Nat.le_of_ble_eq_true hl
  have q3 := Nat.le_of_ble_eq_true hc
  have q4 := Nat.le_of_ble_eq_true hs
  have w4' : (Jvm.Cond.code M'.y M'.b M'.mx none).before a0 K.Z = true := by rw [← hrt]; exact w4
  obtain ⟨v, vm₁, B', -, X', hS, hg, P, st⟩ := X.specialBackS B.1 (y := M'.y) hn B.2.2.2.1 (mv B.2.2.2.2.2.2.2.1 w1) (mv B.2.2.2.2.2.2.2.1 w2) (bytes := M'.b) (maxL := M'.mx) (mv B.2.2.2.2.2.2.2.1 w4') hy
    (own_back (W := (rest.map fun v => v.category).sum) hM hsf B.2.2.2.2.2.2.2.1 B.2.2.2.2.2.2.2.2 I w4 w3 q1 q2) (g := mkF m pc Ls.toArray (argsL.reverse ++ .ref a :: rest)) rfl (by rw [B.2.2.1, ← hsz]; simp) (Steps.refl _) (a := a) (argsL := argsL) (rest := rest) hlen rfl (by show 2 * 0 + _ ≤ _; omega) (hb B.2.1 hd)
    (fun vm₁ _ => ⟨rfl, eT, by show cs' + _ ≤ _; omega, by show sl' + _ ≤ _; omega⟩)
  exact own_called k B hc' hs' eT N I X' hS hg P st
theorem own_virtual {index : Nat} {a : Addr} {C : String} {argsL : List Value} (hd : decode M.b pc = .ok (.invokevirtual index, 3)) (hp : pc + 3 = pc') (w1 : (Jvm.Cond.methodLink M.y.cls index M'.y).before a0 K.Z = true) (w2 : (Jvm.Cond.declares M'.y).before a0 K.Z = true) (w5 : (Jvm.Cond.selects C M'.y M'.y).before a0 K.Z = true) (w6 : (Jvm.Cond.instanceMethod M'.y).before a0 K.Z = true) (w3 : (Jvm.Cond.initialized M'.y.cls).before a0 K.Z = true) (w4 : (Jvm.Cond.code M'.y M'.b M'.mx M'.ret).before a0 K.Z = true)
    (hy : M'.y.cls ≠ "java/lang/invoke/MethodHandle" ∧ M'.y.cls ≠ "java/lang/invoke/VarHandle") (hsz : Ls.length = M.mx) (hlen : ∀ sig, parseMethodDescriptor M'.y.desc = some sig → argsL.length = sig.parameters.length) (hst : St = argsL.reverse ++ .ref a :: rest)
    (hf : Nat.ble (M'.R.frames + 1) M.R.frames = true) (hl : Nat.ble ((rest.map fun v => v.category).sum + (M'.mx + 11) + M'.R.locals) M.R.locals = true) (hc : Nat.ble (cs + M'.R.cells) M.R.cells = true) (hs : Nat.ble (sl + M'.R.slots) M.R.slots = true)
    (E : Exa K.Z h a C) (hM : own_Met K M' (.ref a :: argsL).toArray sf' h Q') (hsf : ∀ x ∈ sf', x ∈ sf) (k : ∀ v h' xs, Q' v h' xs → own_WP K M Q pc' Ls (v.toList ++ rest) (xs ++ sf) h' (cs + M'.R.cells) (sl + M'.R.slots)) : own_WP K M Q pc Ls St sf h cs sl := by
  subst hst hp
  intro p e s vm0 k0 m args below meth c T locs cs' sl' B X hc' hs' eT N I
  have q1 := Nat.le_of_ble_eq_true hf
  have q2 := Nat.le_of_ble_eq_true hl
  have q3 := Nat.le_of_ble_eq_true hc
  have q4 := Nat.le_of_ble_eq_true hs
  obtain ⟨cB, kB, r1, r2, r3⟩ := isOf (T := T) B.2.2.2.2.2.2.2.1 eT E
  obtain ⟨v, vm₁, B', -, X', hS, hg, P, st⟩ := X.virtualBackS B.1 (y := M'.y) (z := M'.y) B.2.2.2.1 (mv B.2.2.2.2.2.2.2.1 w1) (mv B.2.2.2.2.2.2.2.1 w2) (notFace_of_selects (args := #[]) (mv B.2.2.2.2.2.2.2.1 w5)) (mv B.2.2.2.2.2.2.2.1 w5) (mv B.2.2.2.2.2.2.2.1 w6) hy
    (own_back (W := (rest.map fun v => v.category).sum) hM hsf B.2.2.2.2.2.2.2.1 B.2.2.2.2.2.2.2.2 I w4 w3 q1 q2) r1 r3 (g := mkF m pc Ls.toArray (argsL.reverse ++ .ref a :: rest)) rfl (by rw [B.2.2.1, ← hsz]; simp) (Steps.refl _) (argsL := argsL) (rest := rest) hlen rfl (by show 2 * 0 + _ ≤ _; omega) (hb B.2.1 hd)
    (fun vm₁ _ => ⟨rfl, eT, by show cs' + _ ≤ _; omega, by show sl' + _ ≤ _; omega⟩)
  exact own_called k B hc' hs' eT N I X' hS hg P st
theorem own_static1v {index : Nat} {v0 : Value} {q' : Value → Heap → List Addr → Prop} (hd : decode M.b pc = .ok (.invokestatic index, 3)) (hp : pc + 3 = pc') (w1 : (Jvm.Cond.methodLink M.y.cls index M'.y).before a0 K.Z = true) (w2 : (Jvm.Cond.static M'.y).before a0 K.Z = true) (w3 : (Jvm.Cond.initialized M'.y.cls).before a0 K.Z = true) (w4 : (Jvm.Cond.code M'.y M'.b M'.mx M'.ret).before a0 K.Z = true) (hy : M'.y.cls ≠ "java/lang/invoke/MethodHandle" ∧ M'.y.cls ≠ "java/lang/invoke/VarHandle") (hsz : Ls.length = M.mx) (hlen : ∀ sig, parseMethodDescriptor M'.y.desc = some sig → 1 = sig.parameters.length)
    (hf : Nat.ble (M'.R.frames + 1) M.R.frames = true) (hl : Nat.ble ((rest.map fun v => v.category).sum + (M'.mx + 11) + M'.R.locals) M.R.locals = true) (hc : Nat.ble (cs + M'.R.cells) M.R.cells = true) (hs : Nat.ble (sl + M'.R.slots) M.R.slots = true) (hM : own_Met K M' #[v0] sf' h (own_ret q')) (hsf : ∀ x ∈ sf', x ∈ sf) (k : ∀ w h' xs, q' w h' xs → own_WP K M Q pc' Ls (w :: rest) (xs ++ sf) h' (cs + M'.R.cells) (sl + M'.R.slots)) :
    own_WP K M Q pc Ls (v0 :: rest) sf h cs sl := own_static (argsL := [v0]) hd hp w1 w2 w3 w4 hy hsz hlen rfl hf hl hc hs hM hsf (fun v h' xs ⟨w, e, q⟩ => by subst e; exact k w h' xs q)
theorem own_static2v {index : Nat} {v0 v1 : Value} {q' : Value → Heap → List Addr → Prop} (hd : decode M.b pc = .ok (.invokestatic index, 3)) (hp : pc + 3 = pc') (w1 : (Jvm.Cond.methodLink M.y.cls index M'.y).before a0 K.Z = true) (w2 : (Jvm.Cond.static M'.y).before a0 K.Z = true) (w3 : (Jvm.Cond.initialized M'.y.cls).before a0 K.Z = true) (w4 : (Jvm.Cond.code M'.y M'.b M'.mx M'.ret).before a0 K.Z = true) (hy : M'.y.cls ≠ "java/lang/invoke/MethodHandle" ∧ M'.y.cls ≠ "java/lang/invoke/VarHandle") (hsz : Ls.length = M.mx) (hlen : ∀ sig, parseMethodDescriptor M'.y.desc = some sig → 2 = sig.parameters.length)
    (hf : Nat.ble (M'.R.frames + 1) M.R.frames = true) (hl : Nat.ble ((rest.map fun v => v.category).sum + (M'.mx + 11) + M'.R.locals) M.R.locals = true) (hc : Nat.ble (cs + M'.R.cells) M.R.cells = true) (hs : Nat.ble (sl + M'.R.slots) M.R.slots = true) (hM : own_Met K M' #[v0, v1] sf' h (own_ret q')) (hsf : ∀ x ∈ sf', x ∈ sf) (k : ∀ w h' xs, q' w h' xs → own_WP K M Q pc' Ls (w :: rest) (xs ++ sf) h' (cs + M'.R.cells) (sl + M'.R.slots)) :
    own_WP K M Q pc Ls (v1 :: v0 :: rest) sf h cs sl := own_static (argsL := [v0, v1]) hd hp w1 w2 w3 w4 hy hsz hlen rfl hf hl hc hs hM hsf (fun v h' xs ⟨w, e, q⟩ => by subst e; exact k w h' xs q)
theorem own_static2n {index : Nat} {v0 v1 : Value} {q' : Heap → List Addr → Prop} (hd : decode M.b pc = .ok (.invokestatic index, 3)) (hp : pc + 3 = pc') (w1 : (Jvm.Cond.methodLink M.y.cls index M'.y).before a0 K.Z = true) (w2 : (Jvm.Cond.static M'.y).before a0 K.Z = true) (w3 : (Jvm.Cond.initialized M'.y.cls).before a0 K.Z = true) (w4 : (Jvm.Cond.code M'.y M'.b M'.mx M'.ret).before a0 K.Z = true) (hy : M'.y.cls ≠ "java/lang/invoke/MethodHandle" ∧ M'.y.cls ≠ "java/lang/invoke/VarHandle") (hsz : Ls.length = M.mx) (hlen : ∀ sig, parseMethodDescriptor M'.y.desc = some sig → 2 = sig.parameters.length)
    (hf : Nat.ble (M'.R.frames + 1) M.R.frames = true) (hl : Nat.ble ((rest.map fun v => v.category).sum + (M'.mx + 11) + M'.R.locals) M.R.locals = true) (hc : Nat.ble (cs + M'.R.cells) M.R.cells = true) (hs : Nat.ble (sl + M'.R.slots) M.R.slots = true) (hM : own_Met K M' #[v0, v1] sf' h (own_void q')) (hsf : ∀ x ∈ sf', x ∈ sf) (k : ∀ h' xs, q' h' xs → own_WP K M Q pc' Ls rest (xs ++ sf) h' (cs + M'.R.cells) (sl + M'.R.slots)) :
    own_WP K M Q pc Ls (v1 :: v0 :: rest) sf h cs sl := own_static (argsL := [v0, v1]) hd hp w1 w2 w3 w4 hy hsz hlen rfl hf hl hc hs hM hsf (fun v h' xs ⟨e, q⟩ => by subst e; exact k h' xs q)
theorem own_static3v {index : Nat} {v0 v1 v2 : Value} {q' : Value → Heap → List Addr → Prop} (hd : decode M.b pc = .ok (.invokestatic index, 3)) (hp : pc + 3 = pc') (w1 : (Jvm.Cond.methodLink M.y.cls index M'.y).before a0 K.Z = true) (w2 : (Jvm.Cond.static M'.y).before a0 K.Z = true) (w3 : (Jvm.Cond.initialized M'.y.cls).before a0 K.Z = true) (w4 : (Jvm.Cond.code M'.y M'.b M'.mx M'.ret).before a0 K.Z = true) (hy : M'.y.cls ≠ "java/lang/invoke/MethodHandle" ∧ M'.y.cls ≠ "java/lang/invoke/VarHandle") (hsz : Ls.length = M.mx) (hlen : ∀ sig, parseMethodDescriptor M'.y.desc = some sig → 3 = sig.parameters.length)
    (hf : Nat.ble (M'.R.frames + 1) M.R.frames = true) (hl : Nat.ble ((rest.map fun v => v.category).sum + (M'.mx + 11) + M'.R.locals) M.R.locals = true) (hc : Nat.ble (cs + M'.R.cells) M.R.cells = true) (hs : Nat.ble (sl + M'.R.slots) M.R.slots = true) (hM : own_Met K M' #[v0, v1, v2] sf' h (own_ret q')) (hsf : ∀ x ∈ sf', x ∈ sf) (k : ∀ w h' xs, q' w h' xs → own_WP K M Q pc' Ls (w :: rest) (xs ++ sf) h' (cs + M'.R.cells) (sl + M'.R.slots)) :
    own_WP K M Q pc Ls (v2 :: v1 :: v0 :: rest) sf h cs sl := own_static (argsL := [v0, v1, v2]) hd hp w1 w2 w3 w4 hy hsz hlen rfl hf hl hc hs hM hsf (fun v h' xs ⟨w, e, q⟩ => by subst e; exact k w h' xs q)
theorem own_static3n {index : Nat} {v0 v1 v2 : Value} {q' : Heap → List Addr → Prop} (hd : decode M.b pc = .ok (.invokestatic index, 3)) (hp : pc + 3 = pc') (w1 : (Jvm.Cond.methodLink M.y.cls index M'.y).before a0 K.Z = true) (w2 : (Jvm.Cond.static M'.y).before a0 K.Z = true) (w3 : (Jvm.Cond.initialized M'.y.cls).before a0 K.Z = true) (w4 : (Jvm.Cond.code M'.y M'.b M'.mx M'.ret).before a0 K.Z = true) (hy : M'.y.cls ≠ "java/lang/invoke/MethodHandle" ∧ M'.y.cls ≠ "java/lang/invoke/VarHandle") (hsz : Ls.length = M.mx) (hlen : ∀ sig, parseMethodDescriptor M'.y.desc = some sig → 3 = sig.parameters.length)
    (hf : Nat.ble (M'.R.frames + 1) M.R.frames = true) (hl : Nat.ble ((rest.map fun v => v.category).sum + (M'.mx + 11) + M'.R.locals) M.R.locals = true) (hc : Nat.ble (cs + M'.R.cells) M.R.cells = true) (hs : Nat.ble (sl + M'.R.slots) M.R.slots = true) (hM : own_Met K M' #[v0, v1, v2] sf' h (own_void q')) (hsf : ∀ x ∈ sf', x ∈ sf) (k : ∀ h' xs, q' h' xs → own_WP K M Q pc' Ls rest (xs ++ sf) h' (cs + M'.R.cells) (sl + M'.R.slots)) :
    own_WP K M Q pc Ls (v2 :: v1 :: v0 :: rest) sf h cs sl := own_static (argsL := [v0, v1, v2]) hd hp w1 w2 w3 w4 hy hsz hlen rfl hf hl hc hs hM hsf (fun v h' xs ⟨e, q⟩ => by subst e; exact k h' xs q)
theorem own_static4v {index : Nat} {v0 v1 v2 v3 : Value} {q' : Value → Heap → List Addr → Prop} (hd : decode M.b pc = .ok (.invokestatic index, 3)) (hp : pc + 3 = pc') (w1 : (Jvm.Cond.methodLink M.y.cls index M'.y).before a0 K.Z = true) (w2 : (Jvm.Cond.static M'.y).before a0 K.Z = true) (w3 : (Jvm.Cond.initialized M'.y.cls).before a0 K.Z = true) (w4 : (Jvm.Cond.code M'.y M'.b M'.mx M'.ret).before a0 K.Z = true) (hy : M'.y.cls ≠ "java/lang/invoke/MethodHandle" ∧ M'.y.cls ≠ "java/lang/invoke/VarHandle") (hsz : Ls.length = M.mx) (hlen : ∀ sig, parseMethodDescriptor M'.y.desc = some sig → 4 = sig.parameters.length)
    (hf : Nat.ble (M'.R.frames + 1) M.R.frames = true) (hl : Nat.ble ((rest.map fun v => v.category).sum + (M'.mx + 11) + M'.R.locals) M.R.locals = true) (hc : Nat.ble (cs + M'.R.cells) M.R.cells = true) (hs : Nat.ble (sl + M'.R.slots) M.R.slots = true) (hM : own_Met K M' #[v0, v1, v2, v3] sf' h (own_ret q')) (hsf : ∀ x ∈ sf', x ∈ sf) (k : ∀ w h' xs, q' w h' xs → own_WP K M Q pc' Ls (w :: rest) (xs ++ sf) h' (cs + M'.R.cells) (sl + M'.R.slots)) :
    own_WP K M Q pc Ls (v3 :: v2 :: v1 :: v0 :: rest) sf h cs sl := own_static (argsL := [v0, v1, v2, v3]) hd hp w1 w2 w3 w4 hy hsz hlen rfl hf hl hc hs hM hsf (fun v h' xs ⟨w, e, q⟩ => by subst e; exact k w h' xs q)
theorem own_static5v {index : Nat} {v0 v1 v2 v3 v4 : Value} {q' : Value → Heap → List Addr → Prop} (hd : decode M.b pc = .ok (.invokestatic index, 3)) (hp : pc + 3 = pc') (w1 : (Jvm.Cond.methodLink M.y.cls index M'.y).before a0 K.Z = true) (w2 : (Jvm.Cond.static M'.y).before a0 K.Z = true) (w3 : (Jvm.Cond.initialized M'.y.cls).before a0 K.Z = true) (w4 : (Jvm.Cond.code M'.y M'.b M'.mx M'.ret).before a0 K.Z = true) (hy : M'.y.cls ≠ "java/lang/invoke/MethodHandle" ∧ M'.y.cls ≠ "java/lang/invoke/VarHandle") (hsz : Ls.length = M.mx) (hlen : ∀ sig, parseMethodDescriptor M'.y.desc = some sig → 5 = sig.parameters.length)
    (hf : Nat.ble (M'.R.frames + 1) M.R.frames = true) (hl : Nat.ble ((rest.map fun v => v.category).sum + (M'.mx + 11) + M'.R.locals) M.R.locals = true) (hc : Nat.ble (cs + M'.R.cells) M.R.cells = true) (hs : Nat.ble (sl + M'.R.slots) M.R.slots = true) (hM : own_Met K M' #[v0, v1, v2, v3, v4] sf' h (own_ret q')) (hsf : ∀ x ∈ sf', x ∈ sf) (k : ∀ w h' xs, q' w h' xs → own_WP K M Q pc' Ls (w :: rest) (xs ++ sf) h' (cs + M'.R.cells) (sl + M'.R.slots)) :
    own_WP K M Q pc Ls (v4 :: v3 :: v2 :: v1 :: v0 :: rest) sf h cs sl := own_static (argsL := [v0, v1, v2, v3, v4]) hd hp w1 w2 w3 w4 hy hsz hlen rfl hf hl hc hs hM hsf (fun v h' xs ⟨w, e, q⟩ => by subst e; exact k w h' xs q)
theorem own_static5n {index : Nat} {v0 v1 v2 v3 v4 : Value} {q' : Heap → List Addr → Prop} (hd : decode M.b pc = .ok (.invokestatic index, 3)) (hp : pc + 3 = pc') (w1 : (Jvm.Cond.methodLink M.y.cls index M'.y).before a0 K.Z = true) (w2 : (Jvm.Cond.static M'.y).before a0 K.Z = true) (w3 : (Jvm.Cond.initialized M'.y.cls).before a0 K.Z = true) (w4 : (Jvm.Cond.code M'.y M'.b M'.mx M'.ret).before a0 K.Z = true) (hy : M'.y.cls ≠ "java/lang/invoke/MethodHandle" ∧ M'.y.cls ≠ "java/lang/invoke/VarHandle") (hsz : Ls.length = M.mx) (hlen : ∀ sig, parseMethodDescriptor M'.y.desc = some sig → 5 = sig.parameters.length)
    (hf : Nat.ble (M'.R.frames + 1) M.R.frames = true) (hl : Nat.ble ((rest.map fun v => v.category).sum + (M'.mx + 11) + M'.R.locals) M.R.locals = true) (hc : Nat.ble (cs + M'.R.cells) M.R.cells = true) (hs : Nat.ble (sl + M'.R.slots) M.R.slots = true) (hM : own_Met K M' #[v0, v1, v2, v3, v4] sf' h (own_void q')) (hsf : ∀ x ∈ sf', x ∈ sf) (k : ∀ h' xs, q' h' xs → own_WP K M Q pc' Ls rest (xs ++ sf) h' (cs + M'.R.cells) (sl + M'.R.slots)) :
    own_WP K M Q pc Ls (v4 :: v3 :: v2 :: v1 :: v0 :: rest) sf h cs sl := own_static (argsL := [v0, v1, v2, v3, v4]) hd hp w1 w2 w3 w4 hy hsz hlen rfl hf hl hc hs hM hsf (fun v h' xs ⟨e, q⟩ => by subst e; exact k h' xs q)
theorem own_special0n {index : Nat} {a : Addr} {q' : Heap → List Addr → Prop} (hd : decode M.b pc = .ok (.invokespecial index, 3)) (hp : pc + 3 = pc') (hn : M'.y.name = "<init>") (hrt : M'.ret = none) (w1 : (Jvm.Cond.methodLink M.y.cls index M'.y).before a0 K.Z = true) (w2 : (Jvm.Cond.instanceMethod M'.y).before a0 K.Z = true) (w3 : (Jvm.Cond.initialized M'.y.cls).before a0 K.Z = true) (w4 : (Jvm.Cond.code M'.y M'.b M'.mx M'.ret).before a0 K.Z = true) (hy : M'.y.cls ≠ "java/lang/invoke/MethodHandle" ∧ M'.y.cls ≠ "java/lang/invoke/VarHandle") (hsz : Ls.length = M.mx) (hlen : ∀ sig, parseMethodDescriptor M'.y.desc = some sig → 0 = sig.parameters.length)
    (hf : Nat.ble (M'.R.frames + 1) M.R.frames = true) (hl : Nat.ble ((rest.map fun v => v.category).sum + (M'.mx + 11) + M'.R.locals) M.R.locals = true) (hc : Nat.ble (cs + M'.R.cells) M.R.cells = true) (hs : Nat.ble (sl + M'.R.slots) M.R.slots = true) (hM : own_Met K M' #[.ref a] sf' h (own_void q')) (hsf : ∀ x ∈ sf', x ∈ sf) (k : ∀ h' xs, q' h' xs → own_WP K M Q pc' Ls rest (xs ++ sf) h' (cs + M'.R.cells) (sl + M'.R.slots)) :
    own_WP K M Q pc Ls (.ref a :: rest) sf h cs sl := own_special (argsL := []) hd hp hn hrt w1 w2 w3 w4 hy hsz hlen rfl hf hl hc hs hM hsf (fun v h' xs ⟨e, q⟩ => by subst e; exact k h' xs q)
theorem own_special1n {index : Nat} {a : Addr} {v0 : Value} {q' : Heap → List Addr → Prop} (hd : decode M.b pc = .ok (.invokespecial index, 3)) (hp : pc + 3 = pc') (hn : M'.y.name = "<init>") (hrt : M'.ret = none) (w1 : (Jvm.Cond.methodLink M.y.cls index M'.y).before a0 K.Z = true) (w2 : (Jvm.Cond.instanceMethod M'.y).before a0 K.Z = true) (w3 : (Jvm.Cond.initialized M'.y.cls).before a0 K.Z = true) (w4 : (Jvm.Cond.code M'.y M'.b M'.mx M'.ret).before a0 K.Z = true) (hy : M'.y.cls ≠ "java/lang/invoke/MethodHandle" ∧ M'.y.cls ≠ "java/lang/invoke/VarHandle") (hsz : Ls.length = M.mx) (hlen : ∀ sig, parseMethodDescriptor M'.y.desc = some sig → 1 = sig.parameters.length)
    (hf : Nat.ble (M'.R.frames + 1) M.R.frames = true) (hl : Nat.ble ((rest.map fun v => v.category).sum + (M'.mx + 11) + M'.R.locals) M.R.locals = true) (hc : Nat.ble (cs + M'.R.cells) M.R.cells = true) (hs : Nat.ble (sl + M'.R.slots) M.R.slots = true) (hM : own_Met K M' #[.ref a, v0] sf' h (own_void q')) (hsf : ∀ x ∈ sf', x ∈ sf) (k : ∀ h' xs, q' h' xs → own_WP K M Q pc' Ls rest (xs ++ sf) h' (cs + M'.R.cells) (sl + M'.R.slots)) :
    own_WP K M Q pc Ls (v0 :: .ref a :: rest) sf h cs sl := own_special (argsL := [v0]) hd hp hn hrt w1 w2 w3 w4 hy hsz hlen rfl hf hl hc hs hM hsf (fun v h' xs ⟨e, q⟩ => by subst e; exact k h' xs q)
theorem own_special2n {index : Nat} {a : Addr} {v0 v1 : Value} {q' : Heap → List Addr → Prop} (hd : decode M.b pc = .ok (.invokespecial index, 3)) (hp : pc + 3 = pc') (hn : M'.y.name = "<init>") (hrt : M'.ret = none) (w1 : (Jvm.Cond.methodLink M.y.cls index M'.y).before a0 K.Z = true) (w2 : (Jvm.Cond.instanceMethod M'.y).before a0 K.Z = true) (w3 : (Jvm.Cond.initialized M'.y.cls).before a0 K.Z = true) (w4 : (Jvm.Cond.code M'.y M'.b M'.mx M'.ret).before a0 K.Z = true) (hy : M'.y.cls ≠ "java/lang/invoke/MethodHandle" ∧ M'.y.cls ≠ "java/lang/invoke/VarHandle") (hsz : Ls.length = M.mx) (hlen : ∀ sig, parseMethodDescriptor M'.y.desc = some sig → 2 = sig.parameters.length)
    (hf : Nat.ble (M'.R.frames + 1) M.R.frames = true) (hl : Nat.ble ((rest.map fun v => v.category).sum + (M'.mx + 11) + M'.R.locals) M.R.locals = true) (hc : Nat.ble (cs + M'.R.cells) M.R.cells = true) (hs : Nat.ble (sl + M'.R.slots) M.R.slots = true) (hM : own_Met K M' #[.ref a, v0, v1] sf' h (own_void q')) (hsf : ∀ x ∈ sf', x ∈ sf) (k : ∀ h' xs, q' h' xs → own_WP K M Q pc' Ls rest (xs ++ sf) h' (cs + M'.R.cells) (sl + M'.R.slots)) :
    own_WP K M Q pc Ls (v1 :: v0 :: .ref a :: rest) sf h cs sl := own_special (argsL := [v0, v1]) hd hp hn hrt w1 w2 w3 w4 hy hsz hlen rfl hf hl hc hs hM hsf (fun v h' xs ⟨e, q⟩ => by subst e; exact k h' xs q)
theorem own_special3n {index : Nat} {a : Addr} {v0 v1 v2 : Value} {q' : Heap → List Addr → Prop} (hd : decode M.b pc = .ok (.invokespecial index, 3)) (hp : pc + 3 = pc') (hn : M'.y.name = "<init>") (hrt : M'.ret = none) (w1 : (Jvm.Cond.methodLink M.y.cls index M'.y).before a0 K.Z = true) (w2 : (Jvm.Cond.instanceMethod M'.y).before a0 K.Z = true) (w3 : (Jvm.Cond.initialized M'.y.cls).before a0 K.Z = true) (w4 : (Jvm.Cond.code M'.y M'.b M'.mx M'.ret).before a0 K.Z = true) (hy : M'.y.cls ≠ "java/lang/invoke/MethodHandle" ∧ M'.y.cls ≠ "java/lang/invoke/VarHandle") (hsz : Ls.length = M.mx) (hlen : ∀ sig, parseMethodDescriptor M'.y.desc = some sig → 3 = sig.parameters.length)
    (hf : Nat.ble (M'.R.frames + 1) M.R.frames = true) (hl : Nat.ble ((rest.map fun v => v.category).sum + (M'.mx + 11) + M'.R.locals) M.R.locals = true) (hc : Nat.ble (cs + M'.R.cells) M.R.cells = true) (hs : Nat.ble (sl + M'.R.slots) M.R.slots = true) (hM : own_Met K M' #[.ref a, v0, v1, v2] sf' h (own_void q')) (hsf : ∀ x ∈ sf', x ∈ sf) (k : ∀ h' xs, q' h' xs → own_WP K M Q pc' Ls rest (xs ++ sf) h' (cs + M'.R.cells) (sl + M'.R.slots)) :
    own_WP K M Q pc Ls (v2 :: v1 :: v0 :: .ref a :: rest) sf h cs sl := own_special (argsL := [v0, v1, v2]) hd hp hn hrt w1 w2 w3 w4 hy hsz hlen rfl hf hl hc hs hM hsf (fun v h' xs ⟨e, q⟩ => by subst e; exact k h' xs q)
theorem own_special4n {index : Nat} {a : Addr} {v0 v1 v2 v3 : Value} {q' : Heap → List Addr → Prop} (hd : decode M.b pc = .ok (.invokespecial index, 3)) (hp : pc + 3 = pc') (hn : M'.y.name = "<init>") (hrt : M'.ret = none) (w1 : (Jvm.Cond.methodLink M.y.cls index M'.y).before a0 K.Z = true) (w2 : (Jvm.Cond.instanceMethod M'.y).before a0 K.Z = true) (w3 : (Jvm.Cond.initialized M'.y.cls).before a0 K.Z = true) (w4 : (Jvm.Cond.code M'.y M'.b M'.mx M'.ret).before a0 K.Z = true) (hy : M'.y.cls ≠ "java/lang/invoke/MethodHandle" ∧ M'.y.cls ≠ "java/lang/invoke/VarHandle") (hsz : Ls.length = M.mx) (hlen : ∀ sig, parseMethodDescriptor M'.y.desc = some sig → 4 = sig.parameters.length)
    (hf : Nat.ble (M'.R.frames + 1) M.R.frames = true) (hl : Nat.ble ((rest.map fun v => v.category).sum + (M'.mx + 11) + M'.R.locals) M.R.locals = true) (hc : Nat.ble (cs + M'.R.cells) M.R.cells = true) (hs : Nat.ble (sl + M'.R.slots) M.R.slots = true) (hM : own_Met K M' #[.ref a, v0, v1, v2, v3] sf' h (own_void q')) (hsf : ∀ x ∈ sf', x ∈ sf) (k : ∀ h' xs, q' h' xs → own_WP K M Q pc' Ls rest (xs ++ sf) h' (cs + M'.R.cells) (sl + M'.R.slots)) :
    own_WP K M Q pc Ls (v3 :: v2 :: v1 :: v0 :: .ref a :: rest) sf h cs sl := own_special (argsL := [v0, v1, v2, v3]) hd hp hn hrt w1 w2 w3 w4 hy hsz hlen rfl hf hl hc hs hM hsf (fun v h' xs ⟨e, q⟩ => by subst e; exact k h' xs q)
theorem own_virtual0v {index : Nat} {a : Addr} {C : String} {q' : Value → Heap → List Addr → Prop} (hd : decode M.b pc = .ok (.invokevirtual index, 3)) (hp : pc + 3 = pc') (w1 : (Jvm.Cond.methodLink M.y.cls index M'.y).before a0 K.Z = true) (w2 : (Jvm.Cond.declares M'.y).before a0 K.Z = true) (w5 : (Jvm.Cond.selects C M'.y M'.y).before a0 K.Z = true) (w6 : (Jvm.Cond.instanceMethod M'.y).before a0 K.Z = true) (w3 : (Jvm.Cond.initialized M'.y.cls).before a0 K.Z = true) (w4 : (Jvm.Cond.code M'.y M'.b M'.mx M'.ret).before a0 K.Z = true) (hy : M'.y.cls ≠ "java/lang/invoke/MethodHandle" ∧ M'.y.cls ≠ "java/lang/invoke/VarHandle") (hsz : Ls.length = M.mx) (hlen : ∀ sig, parseMethodDescriptor M'.y.desc = some sig → 0 = sig.parameters.length)
    (hf : Nat.ble (M'.R.frames + 1) M.R.frames = true) (hl : Nat.ble ((rest.map fun v => v.category).sum + (M'.mx + 11) + M'.R.locals) M.R.locals = true) (hc : Nat.ble (cs + M'.R.cells) M.R.cells = true) (hs : Nat.ble (sl + M'.R.slots) M.R.slots = true) (E : Exa K.Z h a C) (hM : own_Met K M' #[.ref a] sf' h (own_ret q')) (hsf : ∀ x ∈ sf', x ∈ sf) (k : ∀ w h' xs, q' w h' xs → own_WP K M Q pc' Ls (w :: rest) (xs ++ sf) h' (cs + M'.R.cells) (sl + M'.R.slots)) :
    own_WP K M Q pc Ls (.ref a :: rest) sf h cs sl := own_virtual (argsL := []) hd hp w1 w2 w5 w6 w3 w4 hy hsz hlen rfl hf hl hc hs E hM hsf (fun v h' xs ⟨w, e, q⟩ => by subst e; exact k w h' xs q)
theorem own_virtual0n {index : Nat} {a : Addr} {C : String} {q' : Heap → List Addr → Prop} (hd : decode M.b pc = .ok (.invokevirtual index, 3)) (hp : pc + 3 = pc') (w1 : (Jvm.Cond.methodLink M.y.cls index M'.y).before a0 K.Z = true) (w2 : (Jvm.Cond.declares M'.y).before a0 K.Z = true) (w5 : (Jvm.Cond.selects C M'.y M'.y).before a0 K.Z = true) (w6 : (Jvm.Cond.instanceMethod M'.y).before a0 K.Z = true) (w3 : (Jvm.Cond.initialized M'.y.cls).before a0 K.Z = true) (w4 : (Jvm.Cond.code M'.y M'.b M'.mx M'.ret).before a0 K.Z = true) (hy : M'.y.cls ≠ "java/lang/invoke/MethodHandle" ∧ M'.y.cls ≠ "java/lang/invoke/VarHandle") (hsz : Ls.length = M.mx) (hlen : ∀ sig, parseMethodDescriptor M'.y.desc = some sig → 0 = sig.parameters.length)
    (hf : Nat.ble (M'.R.frames + 1) M.R.frames = true) (hl : Nat.ble ((rest.map fun v => v.category).sum + (M'.mx + 11) + M'.R.locals) M.R.locals = true) (hc : Nat.ble (cs + M'.R.cells) M.R.cells = true) (hs : Nat.ble (sl + M'.R.slots) M.R.slots = true) (E : Exa K.Z h a C) (hM : own_Met K M' #[.ref a] sf' h (own_void q')) (hsf : ∀ x ∈ sf', x ∈ sf) (k : ∀ h' xs, q' h' xs → own_WP K M Q pc' Ls rest (xs ++ sf) h' (cs + M'.R.cells) (sl + M'.R.slots)) :
    own_WP K M Q pc Ls (.ref a :: rest) sf h cs sl := own_virtual (argsL := []) hd hp w1 w2 w5 w6 w3 w4 hy hsz hlen rfl hf hl hc hs E hM hsf (fun v h' xs ⟨e, q⟩ => by subst e; exact k h' xs q)
theorem own_virtual1v {index : Nat} {a : Addr} {C : String} {v0 : Value} {q' : Value → Heap → List Addr → Prop} (hd : decode M.b pc = .ok (.invokevirtual index, 3)) (hp : pc + 3 = pc') (w1 : (Jvm.Cond.methodLink M.y.cls index M'.y).before a0 K.Z = true) (w2 : (Jvm.Cond.declares M'.y).before a0 K.Z = true) (w5 : (Jvm.Cond.selects C M'.y M'.y).before a0 K.Z = true) (w6 : (Jvm.Cond.instanceMethod M'.y).before a0 K.Z = true) (w3 : (Jvm.Cond.initialized M'.y.cls).before a0 K.Z = true) (w4 : (Jvm.Cond.code M'.y M'.b M'.mx M'.ret).before a0 K.Z = true) (hy : M'.y.cls ≠ "java/lang/invoke/MethodHandle" ∧ M'.y.cls ≠ "java/lang/invoke/VarHandle") (hsz : Ls.length = M.mx) (hlen : ∀ sig, parseMethodDescriptor M'.y.desc = some sig → 1 = sig.parameters.length)
    (hf : Nat.ble (M'.R.frames + 1) M.R.frames = true) (hl : Nat.ble ((rest.map fun v => v.category).sum + (M'.mx + 11) + M'.R.locals) M.R.locals = true) (hc : Nat.ble (cs + M'.R.cells) M.R.cells = true) (hs : Nat.ble (sl + M'.R.slots) M.R.slots = true) (E : Exa K.Z h a C) (hM : own_Met K M' #[.ref a, v0] sf' h (own_ret q')) (hsf : ∀ x ∈ sf', x ∈ sf) (k : ∀ w h' xs, q' w h' xs → own_WP K M Q pc' Ls (w :: rest) (xs ++ sf) h' (cs + M'.R.cells) (sl + M'.R.slots)) :
    own_WP K M Q pc Ls (v0 :: .ref a :: rest) sf h cs sl := own_virtual (argsL := [v0]) hd hp w1 w2 w5 w6 w3 w4 hy hsz hlen rfl hf hl hc hs E hM hsf (fun v h' xs ⟨w, e, q⟩ => by subst e; exact k w h' xs q)
theorem own_virtual1n {index : Nat} {a : Addr} {C : String} {v0 : Value} {q' : Heap → List Addr → Prop} (hd : decode M.b pc = .ok (.invokevirtual index, 3)) (hp : pc + 3 = pc') (w1 : (Jvm.Cond.methodLink M.y.cls index M'.y).before a0 K.Z = true) (w2 : (Jvm.Cond.declares M'.y).before a0 K.Z = true) (w5 : (Jvm.Cond.selects C M'.y M'.y).before a0 K.Z = true) (w6 : (Jvm.Cond.instanceMethod M'.y).before a0 K.Z = true) (w3 : (Jvm.Cond.initialized M'.y.cls).before a0 K.Z = true) (w4 : (Jvm.Cond.code M'.y M'.b M'.mx M'.ret).before a0 K.Z = true) (hy : M'.y.cls ≠ "java/lang/invoke/MethodHandle" ∧ M'.y.cls ≠ "java/lang/invoke/VarHandle") (hsz : Ls.length = M.mx) (hlen : ∀ sig, parseMethodDescriptor M'.y.desc = some sig → 1 = sig.parameters.length)
    (hf : Nat.ble (M'.R.frames + 1) M.R.frames = true) (hl : Nat.ble ((rest.map fun v => v.category).sum + (M'.mx + 11) + M'.R.locals) M.R.locals = true) (hc : Nat.ble (cs + M'.R.cells) M.R.cells = true) (hs : Nat.ble (sl + M'.R.slots) M.R.slots = true) (E : Exa K.Z h a C) (hM : own_Met K M' #[.ref a, v0] sf' h (own_void q')) (hsf : ∀ x ∈ sf', x ∈ sf) (k : ∀ h' xs, q' h' xs → own_WP K M Q pc' Ls rest (xs ++ sf) h' (cs + M'.R.cells) (sl + M'.R.slots)) :
    own_WP K M Q pc Ls (v0 :: .ref a :: rest) sf h cs sl := own_virtual (argsL := [v0]) hd hp w1 w2 w5 w6 w3 w4 hy hsz hlen rfl hf hl hc hs E hM hsf (fun v h' xs ⟨e, q⟩ => by subst e; exact k h' xs q)
end Calls
section Plain
variable {K : own_Cx} {M : own_Mi} {Q : own_Q} {pc pc' : Nat} {Ls : List Slot} {St : List Value} {sf : List Addr} {h : Heap} {cs sl : Nat} {a0 : Array Value}
theorem own_get {α : Type} {L : List α} {k : Nat} {v : α} (q : L[k]? = some v) : L.toArray[k]? = some v := by simpa using q
theorem own_aload_n {i : Fin 4} {v : Value} (hp : pc + 1 = pc') (hd : decode M.b pc = .ok (.aload_n i, 1)) (hl : Ls[i.val]? = some (.val v)) (hv : v.isRef = true) (k : own_WP K M Q pc' Ls (v :: St) sf h cs sl) : own_WP K M Q pc Ls St sf h cs sl :=
  own_step k fun p e s m args below meth c T locs cs' sl' B X eT t q => XS.aloadN X.here B.1 rfl (hb B.2.1 hd) (own_get hl) hv (by subst hp; exact q)
theorem own_aload {i : Nat} {v : Value} (hp : pc + 2 = pc') (hd : decode M.b pc = .ok (.aload i, 2)) (hl : Ls[i]? = some (.val v)) (hv : v.isRef = true) (k : own_WP K M Q pc' Ls (v :: St) sf h cs sl) : own_WP K M Q pc Ls St sf h cs sl :=
  own_step k fun p e s m args below meth c T locs cs' sl' B X eT t q => XS.aload X.here B.1 rfl (hb B.2.1 hd) (own_get hl) hv (by subst hp; exact q)
theorem own_iload_n {i : Fin 4} {v : Int32} (hp : pc + 1 = pc') (hd : decode M.b pc = .ok (.iload_n i, 1)) (hl : Ls[i.val]? = some (.val (.int v))) (k : own_WP K M Q pc' Ls (.int v :: St) sf h cs sl) : own_WP K M Q pc Ls St sf h cs sl :=
  own_step k fun p e s m args below meth c T locs cs' sl' B X eT t q => XS.iloadN X.here B.1 rfl (hb B.2.1 hd) (own_get hl) (by subst hp; exact q)
theorem own_iload {i : Nat} {v : Int32} (hp : pc + 2 = pc') (hd : decode M.b pc = .ok (.iload i, 2)) (hl : Ls[i]? = some (.val (.int v))) (k : own_WP K M Q pc' Ls (.int v :: St) sf h cs sl) : own_WP K M Q pc Ls St sf h cs sl :=
  own_step k fun p e s m args below meth c T locs cs' sl' B X eT t q => XS.iload X.here B.1 rfl (hb B.2.1 hd) (own_get hl) (by subst hp; exact q)
theorem own_iconst {i : Int} {v : Int32} (hp : pc + 1 = pc') (hd : decode M.b pc = .ok (.iconst i, 1)) (hv : Int32.ofInt i = v) (k : own_WP K M Q pc' Ls (.int v :: St) sf h cs sl) : own_WP K M Q pc Ls St sf h cs sl :=
  own_step k fun p e s m args below meth c T locs cs' sl' B X eT t q => XS.iconst X.here B.1 rfl (hb B.2.1 hd) (by subst hp hv; exact q)
theorem own_bipush {i : Int} {v : Int32} (hp : pc + 2 = pc') (hd : decode M.b pc = .ok (.bipush i, 2)) (hv : (Int8.ofInt i).toInt32 = v) (k : own_WP K M Q pc' Ls (.int v :: St) sf h cs sl) : own_WP K M Q pc Ls St sf h cs sl :=
  own_step k fun p e s m args below meth c T locs cs' sl' B X eT t q => XS.bipush X.here B.1 rfl (hb B.2.1 hd) (by subst hp hv; exact q)
theorem own_sipush {i : Int} {v : Int32} (hp : pc + 3 = pc') (hd : decode M.b pc = .ok (.sipush i, 3)) (hv : (Int16.ofInt i).toInt32 = v) (k : own_WP K M Q pc' Ls (.int v :: St) sf h cs sl) : own_WP K M Q pc Ls St sf h cs sl :=
  own_step k fun p e s m args below meth c T locs cs' sl' B X eT t q => XS.sipush X.here B.1 rfl (hb B.2.1 hd) (by subst hp hv; exact q)
theorem own_aconst_null (hp : pc + 1 = pc') (hd : decode M.b pc = .ok (.aconst_null, 1)) (k : own_WP K M Q pc' Ls (.null :: St) sf h cs sl) : own_WP K M Q pc Ls St sf h cs sl :=
  own_step k fun p e s m args below meth c T locs cs' sl' B X eT t q => XS.aconstNull X.here B.1 rfl (hb B.2.1 hd) (by subst hp; exact q)
theorem own_iadd {x y : Int32} (hp : pc + 1 = pc') (hd : decode M.b pc = .ok (.iadd, 1)) (k : own_WP K M Q pc' Ls (.int (x + y) :: St) sf h cs sl) : own_WP K M Q pc Ls (.int y :: .int x :: St) sf h cs sl :=
  own_step k fun p e s m args below meth c T locs cs' sl' B X eT t q => XS.iadd X.here B.1 rfl (hb B.2.1 hd) rfl (by subst hp; exact q)
theorem own_isub {x y : Int32} (hp : pc + 1 = pc') (hd : decode M.b pc = .ok (.isub, 1)) (k : own_WP K M Q pc' Ls (.int (x - y) :: St) sf h cs sl) : own_WP K M Q pc Ls (.int y :: .int x :: St) sf h cs sl :=
  own_step k fun p e s m args below meth c T locs cs' sl' B X eT t q => XS.isub X.here B.1 rfl (hb B.2.1 hd) rfl (by subst hp; exact q)
theorem own_iand {x y : Int32} (hp : pc + 1 = pc') (hd : decode M.b pc = .ok (.iand, 1)) (k : own_WP K M Q pc' Ls (.int (x &&& y) :: St) sf h cs sl) : own_WP K M Q pc Ls (.int y :: .int x :: St) sf h cs sl :=
  own_step k fun p e s m args below meth c T locs cs' sl' B X eT t q => XS.iand X.here B.1 rfl (hb B.2.1 hd) rfl (by subst hp; exact q)
theorem own_ixor {x y : Int32} (hp : pc + 1 = pc') (hd : decode M.b pc = .ok (.ixor, 1)) (k : own_WP K M Q pc' Ls (.int (x ^^^ y) :: St) sf h cs sl) : own_WP K M Q pc Ls (.int y :: .int x :: St) sf h cs sl :=
  own_step k fun p e s m args below meth c T locs cs' sl' B X eT t q => XS.ixor X.here B.1 rfl (hb B.2.1 hd) rfl (by subst hp; exact q)
theorem own_ior {x y : Int32} (hp : pc + 1 = pc') (hd : decode M.b pc = .ok (.ior, 1)) (k : own_WP K M Q pc' Ls (.int (x ||| y) :: St) sf h cs sl) : own_WP K M Q pc Ls (.int y :: .int x :: St) sf h cs sl :=
  own_step k fun p e s m args below meth c T locs cs' sl' B X eT t q => XS.ior X.here B.1 rfl (hb B.2.1 hd) rfl (by subst hp; exact q)
theorem own_ishl {x y : Int32} (hp : pc + 1 = pc') (hd : decode M.b pc = .ok (.ishl, 1)) (k : own_WP K M Q pc' Ls (.int (x <<< (y &&& 31)) :: St) sf h cs sl) : own_WP K M Q pc Ls (.int y :: .int x :: St) sf h cs sl :=
  own_step k fun p e s m args below meth c T locs cs' sl' B X eT t q => XS.ishl X.here B.1 rfl (hb B.2.1 hd) rfl (by subst hp; exact q)
theorem own_ishr {x y : Int32} (hp : pc + 1 = pc') (hd : decode M.b pc = .ok (.ishr, 1)) (k : own_WP K M Q pc' Ls (.int (x >>> (y &&& 31)) :: St) sf h cs sl) : own_WP K M Q pc Ls (.int y :: .int x :: St) sf h cs sl :=
  own_step k fun p e s m args below meth c T locs cs' sl' B X eT t q => XS.ishr X.here B.1 rfl (hb B.2.1 hd) rfl (by subst hp; exact q)
theorem own_iushr {x y : Int32} (hp : pc + 1 = pc') (hd : decode M.b pc = .ok (.iushr, 1)) (k : own_WP K M Q pc' Ls (.int (XT.ushr x y) :: St) sf h cs sl) : own_WP K M Q pc Ls (.int y :: .int x :: St) sf h cs sl :=
  own_step k fun p e s m args below meth c T locs cs' sl' B X eT t q => XT.iushr X.here B.1 rfl (hb B.2.1 hd) rfl (by subst hp; exact q)
theorem own_i2b {x : Int32} (hp : pc + 1 = pc') (hd : decode M.b pc = .ok (.i2b, 1)) (k : own_WP K M Q pc' Ls (.int (x.toInt8.toInt32) :: St) sf h cs sl) : own_WP K M Q pc Ls (.int x :: St) sf h cs sl :=
  own_step k fun p e s m args below meth c T locs cs' sl' B X eT t q => XS.i2b X.here B.1 rfl (hb B.2.1 hd) rfl (by subst hp; exact q)
theorem own_i2c {x : Int32} (hp : pc + 1 = pc') (hd : decode M.b pc = .ok (.i2c, 1)) (k : own_WP K M Q pc' Ls (.int (x.toUInt32.toUInt16.toUInt32.toInt32) :: St) sf h cs sl) : own_WP K M Q pc Ls (.int x :: St) sf h cs sl :=
  own_step k fun p e s m args below meth c T locs cs' sl' B X eT t q => XS.i2c X.here B.1 rfl (hb B.2.1 hd) rfl (by subst hp; exact q)
theorem own_dup {x : Value} (hp : pc + 1 = pc') (hd : decode M.b pc = .ok (.dup, 1)) (hc : x.category = 1) (k : own_WP K M Q pc' Ls (x :: x :: St) sf h cs sl) : own_WP K M Q pc Ls (x :: St) sf h cs sl :=
  own_step k fun p e s m args below meth c T locs cs' sl' B X eT t q => XS.dup X.here B.1 rfl (hb B.2.1 hd) rfl hc (by subst hp; exact q)
theorem own_pop {x : Value} (hp : pc + 1 = pc') (hd : decode M.b pc = .ok (.pop, 1)) (hc : x.category = 1) (k : own_WP K M Q pc' Ls St sf h cs sl) : own_WP K M Q pc Ls (x :: St) sf h cs sl :=
  own_step k fun p e s m args below meth c T locs cs' sl' B X eT t q => XS.pop X.here B.1 rfl (hb B.2.1 hd) rfl hc (by subst hp; exact q)
theorem own_dup_x1 {x y : Value} (hp : pc + 1 = pc') (hd : decode M.b pc = .ok (.dup_x1, 1)) (hc : x.category = 1) (hc' : y.category = 1) (k : own_WP K M Q pc' Ls (x :: y :: x :: St) sf h cs sl) : own_WP K M Q pc Ls (x :: y :: St) sf h cs sl :=
  own_step k fun p e s m args below meth c T locs cs' sl' B X eT t q => XS.dupX1 X.here B.1 rfl (hb B.2.1 hd) rfl hc hc' (by subst hp; exact q)
theorem own_store {Ls : List Slot} {i : Nat} {v : Value} {o : Slot} (ho : One o) (hv : v.category = 1) (hold : Ls[i]? = some o) : storeLocals Ls.toArray i v = some (Ls.set i (.val v)).toArray := by
  rw [XS.store1 (own_get hold) ho hv]; simp
theorem own_istore_n1 {u0 o : Slot} {r : List Slot} {x : Int32} (hp : pc + 1 = pc') (hd : decode M.b pc = .ok (.istore_n 1, 1)) (ho : One o) (k : own_WP K M Q pc' (u0 :: .val (.int x) :: r) St sf h cs sl) : own_WP K M Q pc (u0 :: o :: r) (.int x :: St) sf h cs sl :=
  own_step k fun p e s m args below meth c T locs cs' sl' B X eT t q => XS.istoreN X.here B.1 rfl (hb B.2.1 hd) rfl (own_store (Ls := u0 :: o :: r) (i := 1) ho rfl rfl) (by subst hp; exact q)
theorem own_astore_n1 {u0 o : Slot} {r : List Slot} {x : Value} (hp : pc + 1 = pc') (hd : decode M.b pc = .ok (.astore_n 1, 1)) (ho : One o) (hv : x.isRef = true) (k : own_WP K M Q pc' (u0 :: .val x :: r) St sf h cs sl) : own_WP K M Q pc (u0 :: o :: r) (x :: St) sf h cs sl :=
  own_step k fun p e s m args below meth c T locs cs' sl' B X eT t q => XS.astoreN X.here B.1 rfl (hb B.2.1 hd) rfl hv (own_store (Ls := u0 :: o :: r) (i := 1) ho (by rcases ref_cases hv with rfl | ⟨_, rfl⟩ <;> rfl) rfl) (by subst hp; exact q)
theorem own_iinc_1 {u0 : Slot} {r : List Slot} {x : Int32} {cst : Int} {z : Int32} (hp : pc + 3 = pc') (hd : decode M.b pc = .ok (.iinc 1 cst, 3)) (hz : Int32.ofInt cst = z) (k : own_WP K M Q pc' (u0 :: .val (.int (x + z)) :: r) St sf h cs sl) : own_WP K M Q pc (u0 :: .val (.int x) :: r) St sf h cs sl :=
  own_step k fun p e s m args below meth c T locs cs' sl' B X eT t q => XS.iinc X.here B.1 rfl (hb B.2.1 hd) (x := x) (own_get (L := u0 :: .val (.int x) :: r) (k := 1) rfl) (own_store (Ls := u0 :: .val (.int x) :: r) (i := 1) (One.val rfl) rfl rfl) (by subst hp hz; exact q)
theorem own_istore_n2 {u0 u1 o : Slot} {r : List Slot} {x : Int32} (hp : pc + 1 = pc') (hd : decode M.b pc = .ok (.istore_n 2, 1)) (ho : One o) (k : own_WP K M Q pc' (u0 :: u1 :: .val (.int x) :: r) St sf h cs sl) : own_WP K M Q pc (u0 :: u1 :: o :: r) (.int x :: St) sf h cs sl :=
  own_step k fun p e s m args below meth c T locs cs' sl' B X eT t q => XS.istoreN X.here B.1 rfl (hb B.2.1 hd) rfl (own_store (Ls := u0 :: u1 :: o :: r) (i := 2) ho rfl rfl) (by subst hp; exact q)
theorem own_astore_n2 {u0 u1 o : Slot} {r : List Slot} {x : Value} (hp : pc + 1 = pc') (hd : decode M.b pc = .ok (.astore_n 2, 1)) (ho : One o) (hv : x.isRef = true) (k : own_WP K M Q pc' (u0 :: u1 :: .val x :: r) St sf h cs sl) : own_WP K M Q pc (u0 :: u1 :: o :: r) (x :: St) sf h cs sl :=
  own_step k fun p e s m args below meth c T locs cs' sl' B X eT t q => XS.astoreN X.here B.1 rfl (hb B.2.1 hd) rfl hv (own_store (Ls := u0 :: u1 :: o :: r) (i := 2) ho (by rcases ref_cases hv with rfl | ⟨_, rfl⟩ <;> rfl) rfl) (by subst hp; exact q)
theorem own_iinc_2 {u0 u1 : Slot} {r : List Slot} {x : Int32} {cst : Int} {z : Int32} (hp : pc + 3 = pc') (hd : decode M.b pc = .ok (.iinc 2 cst, 3)) (hz : Int32.ofInt cst = z) (k : own_WP K M Q pc' (u0 :: u1 :: .val (.int (x + z)) :: r) St sf h cs sl) : own_WP K M Q pc (u0 :: u1 :: .val (.int x) :: r) St sf h cs sl :=
  own_step k fun p e s m args below meth c T locs cs' sl' B X eT t q => XS.iinc X.here B.1 rfl (hb B.2.1 hd) (x := x) (own_get (L := u0 :: u1 :: .val (.int x) :: r) (k := 2) rfl) (own_store (Ls := u0 :: u1 :: .val (.int x) :: r) (i := 2) (One.val rfl) rfl rfl) (by subst hp hz; exact q)
theorem own_istore_n3 {u0 u1 u2 o : Slot} {r : List Slot} {x : Int32} (hp : pc + 1 = pc') (hd : decode M.b pc = .ok (.istore_n 3, 1)) (ho : One o) (k : own_WP K M Q pc' (u0 :: u1 :: u2 :: .val (.int x) :: r) St sf h cs sl) : own_WP K M Q pc (u0 :: u1 :: u2 :: o :: r) (.int x :: St) sf h cs sl :=
  own_step k fun p e s m args below meth c T locs cs' sl' B X eT t q => XS.istoreN X.here B.1 rfl (hb B.2.1 hd) rfl (own_store (Ls := u0 :: u1 :: u2 :: o :: r) (i := 3) ho rfl rfl) (by subst hp; exact q)
theorem own_astore_n3 {u0 u1 u2 o : Slot} {r : List Slot} {x : Value} (hp : pc + 1 = pc') (hd : decode M.b pc = .ok (.astore_n 3, 1)) (ho : One o) (hv : x.isRef = true) (k : own_WP K M Q pc' (u0 :: u1 :: u2 :: .val x :: r) St sf h cs sl) : own_WP K M Q pc (u0 :: u1 :: u2 :: o :: r) (x :: St) sf h cs sl :=
  own_step k fun p e s m args below meth c T locs cs' sl' B X eT t q => XS.astoreN X.here B.1 rfl (hb B.2.1 hd) rfl hv (own_store (Ls := u0 :: u1 :: u2 :: o :: r) (i := 3) ho (by rcases ref_cases hv with rfl | ⟨_, rfl⟩ <;> rfl) rfl) (by subst hp; exact q)
theorem own_iinc_3 {u0 u1 u2 : Slot} {r : List Slot} {x : Int32} {cst : Int} {z : Int32} (hp : pc + 3 = pc') (hd : decode M.b pc = .ok (.iinc 3 cst, 3)) (hz : Int32.ofInt cst = z) (k : own_WP K M Q pc' (u0 :: u1 :: u2 :: .val (.int (x + z)) :: r) St sf h cs sl) : own_WP K M Q pc (u0 :: u1 :: u2 :: .val (.int x) :: r) St sf h cs sl :=
  own_step k fun p e s m args below meth c T locs cs' sl' B X eT t q => XS.iinc X.here B.1 rfl (hb B.2.1 hd) (x := x) (own_get (L := u0 :: u1 :: u2 :: .val (.int x) :: r) (k := 3) rfl) (own_store (Ls := u0 :: u1 :: u2 :: .val (.int x) :: r) (i := 3) (One.val rfl) rfl rfl) (by subst hp hz; exact q)
theorem own_istore_4 {u0 u1 u2 u3 o : Slot} {r : List Slot} {x : Int32} (hp : pc + 2 = pc') (hd : decode M.b pc = .ok (.istore 4, 2)) (ho : One o) (k : own_WP K M Q pc' (u0 :: u1 :: u2 :: u3 :: .val (.int x) :: r) St sf h cs sl) : own_WP K M Q pc (u0 :: u1 :: u2 :: u3 :: o :: r) (.int x :: St) sf h cs sl :=
  own_step k fun p e s m args below meth c T locs cs' sl' B X eT t q => XS.istore X.here B.1 rfl (hb B.2.1 hd) rfl (own_store (Ls := u0 :: u1 :: u2 :: u3 :: o :: r) (i := 4) ho rfl rfl) (by subst hp; exact q)
theorem own_astore_4 {u0 u1 u2 u3 o : Slot} {r : List Slot} {x : Value} (hp : pc + 2 = pc') (hd : decode M.b pc = .ok (.astore 4, 2)) (ho : One o) (hv : x.isRef = true) (k : own_WP K M Q pc' (u0 :: u1 :: u2 :: u3 :: .val x :: r) St sf h cs sl) : own_WP K M Q pc (u0 :: u1 :: u2 :: u3 :: o :: r) (x :: St) sf h cs sl :=
  own_step k fun p e s m args below meth c T locs cs' sl' B X eT t q => XS.astore X.here B.1 rfl (hb B.2.1 hd) rfl hv (own_store (Ls := u0 :: u1 :: u2 :: u3 :: o :: r) (i := 4) ho (by rcases ref_cases hv with rfl | ⟨_, rfl⟩ <;> rfl) rfl) (by subst hp; exact q)
theorem own_iinc_4 {u0 u1 u2 u3 : Slot} {r : List Slot} {x : Int32} {cst : Int} {z : Int32} (hp : pc + 3 = pc') (hd : decode M.b pc = .ok (.iinc 4 cst, 3)) (hz : Int32.ofInt cst = z) (k : own_WP K M Q pc' (u0 :: u1 :: u2 :: u3 :: .val (.int (x + z)) :: r) St sf h cs sl) : own_WP K M Q pc (u0 :: u1 :: u2 :: u3 :: .val (.int x) :: r) St sf h cs sl :=
  own_step k fun p e s m args below meth c T locs cs' sl' B X eT t q => XS.iinc X.here B.1 rfl (hb B.2.1 hd) (x := x) (own_get (L := u0 :: u1 :: u2 :: u3 :: .val (.int x) :: r) (k := 4) rfl) (own_store (Ls := u0 :: u1 :: u2 :: u3 :: .val (.int x) :: r) (i := 4) (One.val rfl) rfl rfl) (by subst hp hz; exact q)
theorem own_istore_5 {u0 u1 u2 u3 u4 o : Slot} {r : List Slot} {x : Int32} (hp : pc + 2 = pc') (hd : decode M.b pc = .ok (.istore 5, 2)) (ho : One o) (k : own_WP K M Q pc' (u0 :: u1 :: u2 :: u3 :: u4 :: .val (.int x) :: r) St sf h cs sl) : own_WP K M Q pc (u0 :: u1 :: u2 :: u3 :: u4 :: o :: r) (.int x :: St) sf h cs sl :=
  own_step k fun p e s m args below meth c T locs cs' sl' B X eT t q => XS.istore X.here B.1 rfl (hb B.2.1 hd) rfl (own_store (Ls := u0 :: u1 :: u2 :: u3 :: u4 :: o :: r) (i := 5) ho rfl rfl) (by subst hp; exact q)
theorem own_astore_5 {u0 u1 u2 u3 u4 o : Slot} {r : List Slot} {x : Value} (hp : pc + 2 = pc') (hd : decode M.b pc = .ok (.astore 5, 2)) (ho : One o) (hv : x.isRef = true) (k : own_WP K M Q pc' (u0 :: u1 :: u2 :: u3 :: u4 :: .val x :: r) St sf h cs sl) : own_WP K M Q pc (u0 :: u1 :: u2 :: u3 :: u4 :: o :: r) (x :: St) sf h cs sl :=
  own_step k fun p e s m args below meth c T locs cs' sl' B X eT t q => XS.astore X.here B.1 rfl (hb B.2.1 hd) rfl hv (own_store (Ls := u0 :: u1 :: u2 :: u3 :: u4 :: o :: r) (i := 5) ho (by rcases ref_cases hv with rfl | ⟨_, rfl⟩ <;> rfl) rfl) (by subst hp; exact q)
theorem own_iinc_5 {u0 u1 u2 u3 u4 : Slot} {r : List Slot} {x : Int32} {cst : Int} {z : Int32} (hp : pc + 3 = pc') (hd : decode M.b pc = .ok (.iinc 5 cst, 3)) (hz : Int32.ofInt cst = z) (k : own_WP K M Q pc' (u0 :: u1 :: u2 :: u3 :: u4 :: .val (.int (x + z)) :: r) St sf h cs sl) : own_WP K M Q pc (u0 :: u1 :: u2 :: u3 :: u4 :: .val (.int x) :: r) St sf h cs sl :=
  own_step k fun p e s m args below meth c T locs cs' sl' B X eT t q => XS.iinc X.here B.1 rfl (hb B.2.1 hd) (x := x) (own_get (L := u0 :: u1 :: u2 :: u3 :: u4 :: .val (.int x) :: r) (k := 5) rfl) (own_store (Ls := u0 :: u1 :: u2 :: u3 :: u4 :: .val (.int x) :: r) (i := 5) (One.val rfl) rfl rfl) (by subst hp hz; exact q)
theorem own_istore_6 {u0 u1 u2 u3 u4 u5 o : Slot} {r : List Slot} {x : Int32} (hp : pc + 2 = pc') (hd : decode M.b pc = .ok (.istore 6, 2)) (ho : One o) (k : own_WP K M Q pc' (u0 :: u1 :: u2 :: u3 :: u4 :: u5 :: .val (.int x) :: r) St sf h cs sl) : own_WP K M Q pc (u0 :: u1 :: u2 :: u3 :: u4 :: u5 :: o :: r) (.int x :: St) sf h cs sl :=
  own_step k fun p e s m args below meth c T locs cs' sl' B X eT t q => XS.istore X.here B.1 rfl (hb B.2.1 hd) rfl (own_store (Ls := u0 :: u1 :: u2 :: u3 :: u4 :: u5 :: o :: r) (i := 6) ho rfl rfl) (by subst hp; exact q)
theorem own_istore_7 {u0 u1 u2 u3 u4 u5 u6 o : Slot} {r : List Slot} {x : Int32} (hp : pc + 2 = pc') (hd : decode M.b pc = .ok (.istore 7, 2)) (ho : One o) (k : own_WP K M Q pc' (u0 :: u1 :: u2 :: u3 :: u4 :: u5 :: u6 :: .val (.int x) :: r) St sf h cs sl) : own_WP K M Q pc (u0 :: u1 :: u2 :: u3 :: u4 :: u5 :: u6 :: o :: r) (.int x :: St) sf h cs sl :=
  own_step k fun p e s m args below meth c T locs cs' sl' B X eT t q => XS.istore X.here B.1 rfl (hb B.2.1 hd) rfl (own_store (Ls := u0 :: u1 :: u2 :: u3 :: u4 :: u5 :: u6 :: o :: r) (i := 7) ho rfl rfl) (by subst hp; exact q)
theorem own_istore_8 {u0 u1 u2 u3 u4 u5 u6 u7 o : Slot} {r : List Slot} {x : Int32} (hp : pc + 2 = pc') (hd : decode M.b pc = .ok (.istore 8, 2)) (ho : One o) (k : own_WP K M Q pc' (u0 :: u1 :: u2 :: u3 :: u4 :: u5 :: u6 :: u7 :: .val (.int x) :: r) St sf h cs sl) : own_WP K M Q pc (u0 :: u1 :: u2 :: u3 :: u4 :: u5 :: u6 :: u7 :: o :: r) (.int x :: St) sf h cs sl :=
  own_step k fun p e s m args below meth c T locs cs' sl' B X eT t q => XS.istore X.here B.1 rfl (hb B.2.1 hd) rfl (own_store (Ls := u0 :: u1 :: u2 :: u3 :: u4 :: u5 :: u6 :: u7 :: o :: r) (i := 8) ho rfl rfl) (by subst hp; exact q)
theorem own_istore_9 {u0 u1 u2 u3 u4 u5 u6 u7 u8 o : Slot} {r : List Slot} {x : Int32} (hp : pc + 2 = pc') (hd : decode M.b pc = .ok (.istore 9, 2)) (ho : One o) (k : own_WP K M Q pc' (u0 :: u1 :: u2 :: u3 :: u4 :: u5 :: u6 :: u7 :: u8 :: .val (.int x) :: r) St sf h cs sl) : own_WP K M Q pc (u0 :: u1 :: u2 :: u3 :: u4 :: u5 :: u6 :: u7 :: u8 :: o :: r) (.int x :: St) sf h cs sl :=
  own_step k fun p e s m args below meth c T locs cs' sl' B X eT t q => XS.istore X.here B.1 rfl (hb B.2.1 hd) rfl (own_store (Ls := u0 :: u1 :: u2 :: u3 :: u4 :: u5 :: u6 :: u7 :: u8 :: o :: r) (i := 9) ho rfl rfl) (by subst hp; exact q)
theorem own_istore_10 {u0 u1 u2 u3 u4 u5 u6 u7 u8 u9 o : Slot} {r : List Slot} {x : Int32} (hp : pc + 2 = pc') (hd : decode M.b pc = .ok (.istore 10, 2)) (ho : One o) (k : own_WP K M Q pc' (u0 :: u1 :: u2 :: u3 :: u4 :: u5 :: u6 :: u7 :: u8 :: u9 :: .val (.int x) :: r) St sf h cs sl) : own_WP K M Q pc (u0 :: u1 :: u2 :: u3 :: u4 :: u5 :: u6 :: u7 :: u8 :: u9 :: o :: r) (.int x :: St) sf h cs sl :=
  own_step k fun p e s m args below meth c T locs cs' sl' B X eT t q => XS.istore X.here B.1 rfl (hb B.2.1 hd) rfl (own_store (Ls := u0 :: u1 :: u2 :: u3 :: u4 :: u5 :: u6 :: u7 :: u8 :: u9 :: o :: r) (i := 10) ho rfl rfl) (by subst hp; exact q)
theorem own_astore_11 {u0 u1 u2 u3 u4 u5 u6 u7 u8 u9 u10 o : Slot} {r : List Slot} {x : Value} (hp : pc + 2 = pc') (hd : decode M.b pc = .ok (.astore 11, 2)) (ho : One o) (hv : x.isRef = true) (k : own_WP K M Q pc' (u0 :: u1 :: u2 :: u3 :: u4 :: u5 :: u6 :: u7 :: u8 :: u9 :: u10 :: .val x :: r) St sf h cs sl) : own_WP K M Q pc (u0 :: u1 :: u2 :: u3 :: u4 :: u5 :: u6 :: u7 :: u8 :: u9 :: u10 :: o :: r) (x :: St) sf h cs sl :=
  own_step k fun p e s m args below meth c T locs cs' sl' B X eT t q => XS.astore X.here B.1 rfl (hb B.2.1 hd) rfl hv (own_store (Ls := u0 :: u1 :: u2 :: u3 :: u4 :: u5 :: u6 :: u7 :: u8 :: u9 :: u10 :: o :: r) (i := 11) ho (by rcases ref_cases hv with rfl | ⟨_, rfl⟩ <;> rfl) rfl) (by subst hp; exact q)
theorem own_astore_12 {u0 u1 u2 u3 u4 u5 u6 u7 u8 u9 u10 u11 o : Slot} {r : List Slot} {x : Value} (hp : pc + 2 = pc') (hd : decode M.b pc = .ok (.astore 12, 2)) (ho : One o) (hv : x.isRef = true) (k : own_WP K M Q pc' (u0 :: u1 :: u2 :: u3 :: u4 :: u5 :: u6 :: u7 :: u8 :: u9 :: u10 :: u11 :: .val x :: r) St sf h cs sl) : own_WP K M Q pc (u0 :: u1 :: u2 :: u3 :: u4 :: u5 :: u6 :: u7 :: u8 :: u9 :: u10 :: u11 :: o :: r) (x :: St) sf h cs sl :=
  own_step k fun p e s m args below meth c T locs cs' sl' B X eT t q => XS.astore X.here B.1 rfl (hb B.2.1 hd) rfl hv (own_store (Ls := u0 :: u1 :: u2 :: u3 :: u4 :: u5 :: u6 :: u7 :: u8 :: u9 :: u10 :: u11 :: o :: r) (i := 12) ho (by rcases ref_cases hv with rfl | ⟨_, rfl⟩ <;> rfl) rfl) (by subst hp; exact q)
theorem own_istore_13 {u0 u1 u2 u3 u4 u5 u6 u7 u8 u9 u10 u11 u12 o : Slot} {r : List Slot} {x : Int32} (hp : pc + 2 = pc') (hd : decode M.b pc = .ok (.istore 13, 2)) (ho : One o) (k : own_WP K M Q pc' (u0 :: u1 :: u2 :: u3 :: u4 :: u5 :: u6 :: u7 :: u8 :: u9 :: u10 :: u11 :: u12 :: .val (.int x) :: r) St sf h cs sl) : own_WP K M Q pc (u0 :: u1 :: u2 :: u3 :: u4 :: u5 :: u6 :: u7 :: u8 :: u9 :: u10 :: u11 :: u12 :: o :: r) (.int x :: St) sf h cs sl :=
  own_step k fun p e s m args below meth c T locs cs' sl' B X eT t q => XS.istore X.here B.1 rfl (hb B.2.1 hd) rfl (own_store (Ls := u0 :: u1 :: u2 :: u3 :: u4 :: u5 :: u6 :: u7 :: u8 :: u9 :: u10 :: u11 :: u12 :: o :: r) (i := 13) ho rfl rfl) (by subst hp; exact q)
theorem own_istore_14 {u0 u1 u2 u3 u4 u5 u6 u7 u8 u9 u10 u11 u12 u13 o : Slot} {r : List Slot} {x : Int32} (hp : pc + 2 = pc') (hd : decode M.b pc = .ok (.istore 14, 2)) (ho : One o) (k : own_WP K M Q pc' (u0 :: u1 :: u2 :: u3 :: u4 :: u5 :: u6 :: u7 :: u8 :: u9 :: u10 :: u11 :: u12 :: u13 :: .val (.int x) :: r) St sf h cs sl) : own_WP K M Q pc (u0 :: u1 :: u2 :: u3 :: u4 :: u5 :: u6 :: u7 :: u8 :: u9 :: u10 :: u11 :: u12 :: u13 :: o :: r) (.int x :: St) sf h cs sl :=
  own_step k fun p e s m args below meth c T locs cs' sl' B X eT t q => XS.istore X.here B.1 rfl (hb B.2.1 hd) rfl (own_store (Ls := u0 :: u1 :: u2 :: u3 :: u4 :: u5 :: u6 :: u7 :: u8 :: u9 :: u10 :: u11 :: u12 :: u13 :: o :: r) (i := 14) ho rfl rfl) (by subst hp; exact q)
theorem own_goto {o : Int} (hd : decode M.b pc = .ok (.goto o, 3)) (ho : 0 ≤ (pc : Int) + o) (hp : ((pc : Int) + o).toNat = pc') (k : own_WP K M Q pc' Ls St sf h cs sl) : own_WP K M Q pc Ls St sf h cs sl :=
  own_step k fun p e s m args below meth c T locs cs' sl' B X eT t q => XS.goto X.here B.1 rfl (pc0 := pc) rfl (hb B.2.1 hd) ho hp q
theorem own_if {cd : ClassFile.Cond} {o : Int} {x : Int32} {pcT pcF : Nat} (hd : decode M.b pc = .ok (.ifCond cd o, 3)) (ho : 0 ≤ (pc : Int) + o) (hp : ((pc : Int) + o).toNat = pcT) (hp' : pc + 3 = pcF)
    (kT : ifCond.holds cd x = true → own_WP K M Q pcT Ls St sf h cs sl) (kF : ifCond.holds cd x = false → own_WP K M Q pcF Ls St sf h cs sl) : own_WP K M Q pc Ls (.int x :: St) sf h cs sl := by
  cases hc : ifCond.holds cd x
  · exact own_step (kF hc) fun p e s m args below meth c T locs cs' sl' B X eT t q => XS.ifNo X.here B.1 rfl (hb B.2.1 hd) rfl hc (by subst hp'; exact q)
  · exact own_step (kT hc) fun p e s m args below meth c T locs cs' sl' B X eT t q => XS.ifYes X.here B.1 rfl (pc0 := pc) rfl (hb B.2.1 hd) rfl hc ho hp q
theorem own_icmp {cd : ClassFile.Cond} {o : Int} {x y : Int32} {pcT pcF : Nat} (hd : decode M.b pc = .ok (.if_icmp cd o, 3)) (ho : 0 ≤ (pc : Int) + o) (hp : ((pc : Int) + o).toNat = pcT) (hp' : pc + 3 = pcF)
    (kT : if_icmp.holds cd x y = true → own_WP K M Q pcT Ls St sf h cs sl) (kF : if_icmp.holds cd x y = false → own_WP K M Q pcF Ls St sf h cs sl) : own_WP K M Q pc Ls (.int y :: .int x :: St) sf h cs sl := by
  cases hc : if_icmp.holds cd x y
  · exact own_step (kF hc) fun p e s m args below meth c T locs cs' sl' B X eT t q => XS.icmpNo X.here B.1 rfl (hb B.2.1 hd) rfl hc (by subst hp'; exact q)
  · exact own_step (kT hc) fun p e s m args below meth c T locs cs' sl' B X eT t q => XS.icmpYes X.here B.1 rfl (pc0 := pc) rfl (hb B.2.1 hd) rfl hc ho hp q
theorem own_ifeq {o : Int} {x : Int32} {pcT pcF : Nat} (hd : decode M.b pc = .ok (.ifCond .eq o, 3)) (ho : 0 ≤ (pc : Int) + o) (hp : ((pc : Int) + o).toNat = pcT) (hp' : pc + 3 = pcF) (kT : x = 0 → own_WP K M Q pcT Ls St sf h cs sl) (kF : ¬ x = 0 → own_WP K M Q pcF Ls St sf h cs sl) : own_WP K M Q pc Ls (.int x :: St) sf h cs sl := by
  refine own_if hd ho hp hp' (fun c => ?_) (fun c => ?_)
  · rw [if0] at c; by_cases q : x = 0
    · exact kT q
    · have z := (feq q).1; rw [z] at c; cases c
  · rw [if0] at c; by_cases q : x = 0
    · have z := (teq q).1; rw [z] at c; cases c
    · exact kF q
theorem own_icmpeq {o : Int} {x y : Int32} {pcT pcF : Nat} (hd : decode M.b pc = .ok (.if_icmp .eq o, 3)) (ho : 0 ≤ (pc : Int) + o) (hp : ((pc : Int) + o).toNat = pcT) (hp' : pc + 3 = pcF) (kT : x = y → own_WP K M Q pcT Ls St sf h cs sl) (kF : ¬ x = y → own_WP K M Q pcF Ls St sf h cs sl) : own_WP K M Q pc Ls (.int y :: .int x :: St) sf h cs sl := by
  refine own_icmp hd ho hp hp' (fun c => ?_) (fun c => ?_)
  · by_cases q : x = y
    · exact kT q
    · have z := (feq q).1; rw [z] at c; cases c
  · by_cases q : x = y
    · have z := (teq q).1; rw [z] at c; cases c
    · exact kF q
theorem own_ifne {o : Int} {x : Int32} {pcT pcF : Nat} (hd : decode M.b pc = .ok (.ifCond .ne o, 3)) (ho : 0 ≤ (pc : Int) + o) (hp : ((pc : Int) + o).toNat = pcT) (hp' : pc + 3 = pcF) (kT : ¬ x = 0 → own_WP K M Q pcT Ls St sf h cs sl) (kF : x = 0 → own_WP K M Q pcF Ls St sf h cs sl) : own_WP K M Q pc Ls (.int x :: St) sf h cs sl := by
  refine own_if hd ho hp hp' (fun c => ?_) (fun c => ?_)
  · rw [if0] at c; by_cases q : x = 0
    · have z := (teq q).2; rw [z] at c; cases c
    · exact kT q
  · rw [if0] at c; by_cases q : x = 0
    · exact kF q
    · have z := (feq q).2; rw [z] at c; cases c
theorem own_icmpne {o : Int} {x y : Int32} {pcT pcF : Nat} (hd : decode M.b pc = .ok (.if_icmp .ne o, 3)) (ho : 0 ≤ (pc : Int) + o) (hp : ((pc : Int) + o).toNat = pcT) (hp' : pc + 3 = pcF) (kT : ¬ x = y → own_WP K M Q pcT Ls St sf h cs sl) (kF : x = y → own_WP K M Q pcF Ls St sf h cs sl) : own_WP K M Q pc Ls (.int y :: .int x :: St) sf h cs sl := by
  refine own_icmp hd ho hp hp' (fun c => ?_) (fun c => ?_)
  · by_cases q : x = y
    · have z := (teq q).2; rw [z] at c; cases c
    · exact kT q
  · by_cases q : x = y
    · exact kF q
    · have z := (feq q).2; rw [z] at c; cases c
theorem own_iflt {o : Int} {x : Int32} {pcT pcF : Nat} (hd : decode M.b pc = .ok (.ifCond .lt o, 3)) (ho : 0 ≤ (pc : Int) + o) (hp : ((pc : Int) + o).toNat = pcT) (hp' : pc + 3 = pcF) (kT : x < 0 → own_WP K M Q pcT Ls St sf h cs sl) (kF : ¬ x < 0 → own_WP K M Q pcF Ls St sf h cs sl) : own_WP K M Q pc Ls (.int x :: St) sf h cs sl := by
  refine own_if hd ho hp hp' (fun c => ?_) (fun c => ?_)
  · rw [if0] at c; by_cases q : x < 0
    · exact kT q
    · have z := (flt q).1; rw [z] at c; cases c
  · rw [if0] at c; by_cases q : x < 0
    · have z := (tlt q).1; rw [z] at c; cases c
    · exact kF q
theorem own_icmplt {o : Int} {x y : Int32} {pcT pcF : Nat} (hd : decode M.b pc = .ok (.if_icmp .lt o, 3)) (ho : 0 ≤ (pc : Int) + o) (hp : ((pc : Int) + o).toNat = pcT) (hp' : pc + 3 = pcF) (kT : x < y → own_WP K M Q pcT Ls St sf h cs sl) (kF : ¬ x < y → own_WP K M Q pcF Ls St sf h cs sl) : own_WP K M Q pc Ls (.int y :: .int x :: St) sf h cs sl := by
  refine own_icmp hd ho hp hp' (fun c => ?_) (fun c => ?_)
  · by_cases q : x < y
    · exact kT q
    · have z := (flt q).1; rw [z] at c; cases c
  · by_cases q : x < y
    · have z := (tlt q).1; rw [z] at c; cases c
    · exact kF q
theorem own_ifge {o : Int} {x : Int32} {pcT pcF : Nat} (hd : decode M.b pc = .ok (.ifCond .ge o, 3)) (ho : 0 ≤ (pc : Int) + o) (hp : ((pc : Int) + o).toNat = pcT) (hp' : pc + 3 = pcF) (kT : ¬ x < 0 → own_WP K M Q pcT Ls St sf h cs sl) (kF : x < 0 → own_WP K M Q pcF Ls St sf h cs sl) : own_WP K M Q pc Ls (.int x :: St) sf h cs sl := by
  refine own_if hd ho hp hp' (fun c => ?_) (fun c => ?_)
  · rw [if0] at c; by_cases q : x < 0
    · have z := (tlt q).2.1; rw [z] at c; cases c
    · exact kT q
  · rw [if0] at c; by_cases q : x < 0
    · exact kF q
    · have z := (flt q).2.1; rw [z] at c; cases c
theorem own_icmpge {o : Int} {x y : Int32} {pcT pcF : Nat} (hd : decode M.b pc = .ok (.if_icmp .ge o, 3)) (ho : 0 ≤ (pc : Int) + o) (hp : ((pc : Int) + o).toNat = pcT) (hp' : pc + 3 = pcF) (kT : ¬ x < y → own_WP K M Q pcT Ls St sf h cs sl) (kF : x < y → own_WP K M Q pcF Ls St sf h cs sl) : own_WP K M Q pc Ls (.int y :: .int x :: St) sf h cs sl := by
  refine own_icmp hd ho hp hp' (fun c => ?_) (fun c => ?_)
  · by_cases q : x < y
    · have z := (tlt q).2.1; rw [z] at c; cases c
    · exact kT q
  · by_cases q : x < y
    · exact kF q
    · have z := (flt q).2.1; rw [z] at c; cases c
theorem own_icmpgt {o : Int} {x y : Int32} {pcT pcF : Nat} (hd : decode M.b pc = .ok (.if_icmp .gt o, 3)) (ho : 0 ≤ (pc : Int) + o) (hp : ((pc : Int) + o).toNat = pcT) (hp' : pc + 3 = pcF) (kT : y < x → own_WP K M Q pcT Ls St sf h cs sl) (kF : ¬ y < x → own_WP K M Q pcF Ls St sf h cs sl) : own_WP K M Q pc Ls (.int y :: .int x :: St) sf h cs sl := by
  refine own_icmp hd ho hp hp' (fun c => ?_) (fun c => ?_)
  · by_cases q : y < x
    · exact kT q
    · have z := (flt q).2.2.1; rw [z] at c; cases c
  · by_cases q : y < x
    · have z := (tlt q).2.2.1; rw [z] at c; cases c
    · exact kF q
theorem own_ifle {o : Int} {x : Int32} {pcT pcF : Nat} (hd : decode M.b pc = .ok (.ifCond .le o, 3)) (ho : 0 ≤ (pc : Int) + o) (hp : ((pc : Int) + o).toNat = pcT) (hp' : pc + 3 = pcF) (kT : ¬ 0 < x → own_WP K M Q pcT Ls St sf h cs sl) (kF : 0 < x → own_WP K M Q pcF Ls St sf h cs sl) : own_WP K M Q pc Ls (.int x :: St) sf h cs sl := by
  refine own_if hd ho hp hp' (fun c => ?_) (fun c => ?_)
  · rw [if0] at c; by_cases q : 0 < x
    · have z := (tlt q).2.2.2; rw [z] at c; cases c
    · exact kT q
  · rw [if0] at c; by_cases q : 0 < x
    · exact kF q
    · have z := (flt q).2.2.2; rw [z] at c; cases c
theorem own_icmple {o : Int} {x y : Int32} {pcT pcF : Nat} (hd : decode M.b pc = .ok (.if_icmp .le o, 3)) (ho : 0 ≤ (pc : Int) + o) (hp : ((pc : Int) + o).toNat = pcT) (hp' : pc + 3 = pcF) (kT : ¬ y < x → own_WP K M Q pcT Ls St sf h cs sl) (kF : y < x → own_WP K M Q pcF Ls St sf h cs sl) : own_WP K M Q pc Ls (.int y :: .int x :: St) sf h cs sl := by
  refine own_icmp hd ho hp hp' (fun c => ?_) (fun c => ?_)
  · by_cases q : y < x
    · have z := (tlt q).2.2.2; rw [z] at c; cases c
    · exact kT q
  · by_cases q : y < x
    · exact kF q
    · have z := (flt q).2.2.2; rw [z] at c; cases c
theorem own_acmpne {o : Int} {x y : Value} {pcT pcF : Nat} (hd : decode M.b pc = .ok (.if_acmp .ne o, 3)) (ho : 0 ≤ (pc : Int) + o) (hp : ((pc : Int) + o).toNat = pcT) (hp' : pc + 3 = pcF) (hx : x.isRef = true) (hy : y.isRef = true) (kT : ¬ x = y → own_WP K M Q pcT Ls St sf h cs sl) (kF : x = y → own_WP K M Q pcF Ls St sf h cs sl) : own_WP K M Q pc Ls (y :: x :: St) sf h cs sl := by
  by_cases z : x = y
  · exact own_step (kF z) fun p e s m args below meth c T locs cs' sl' B X eT t q => XT.acmpNo X.here B.1 rfl (hb B.2.1 hd) rfl hx hy (by simp [XT.acmp, z]) (by subst hp'; exact q)
  · exact own_step (kT z) fun p e s m args below meth c T locs cs' sl' B X eT t q => XT.acmpYes X.here B.1 rfl (pc0 := pc) rfl (hb B.2.1 hd) rfl hx hy (by simp [XT.acmp, z]) ho hp q
/-- returns -/
theorem own_return {qn : Heap → List Addr → Prop} (hr : M.ret = none) (hd : decode M.b pc = .ok (.return_, 1)) (hc : Nat.ble cs M.R.cells = true) (hs : Nat.ble sl M.R.slots = true) (q : qn h sf) : own_WP K M (own_void qn) pc Ls [] sf h cs sl :=
  own_leave (v := none) (fun _ => rfl) (Nat.le_of_ble_eq_true hc) (Nat.le_of_ble_eq_true hs) ⟨rfl, q⟩ fun p e s m args below meth c T locs cs' sl' B X fs hl => X.returnOut B.1 (by rw [B.2.2.2.2.2.1, hr]) (hb B.2.1 hd) hl
theorem own_ireturn {qv : Value → Heap → List Addr → Prop} {z : Int32} (hr : M.ret = some .int) (hd : decode M.b pc = .ok (.ireturn, 1)) (hc : Nat.ble cs M.R.cells = true) (hs : Nat.ble sl M.R.slots = true) (q : qv (.int z) h sf) : own_WP K M (own_ret qv) pc Ls (.int z :: St) sf h cs sl :=
  own_leave (v := some (.int z)) (fun n => by rw [hr] at n; cases n) (Nat.le_of_ble_eq_true hc) (Nat.le_of_ble_eq_true hs) ⟨_, rfl, q⟩ fun p e s m args below meth c T locs cs' sl' B X fs hl => retOut X B.1 (t := .int) (by rw [B.2.2.2.2.2.1, hr]) rfl (Or.inl ⟨rfl, Or.inl rfl, z, rfl⟩) (hb B.2.1 hd) hl
theorem own_ireturnN {qv : Value → Heap → List Addr → Prop} {t : FieldType} {z z' : Int32} (hr : M.ret = some t) (ht : t = .boolean ∨ t = .byte ∨ t = .char ∨ t = .short) (hz : nar t z = z') (hd : decode M.b pc = .ok (.ireturn, 1)) (hc : Nat.ble cs M.R.cells = true) (hs : Nat.ble sl M.R.slots = true) (q : qv (.int z') h sf) : own_WP K M (own_ret qv) pc Ls (.int z :: St) sf h cs sl :=
  own_leave (v := some (.int z')) (fun n => by rw [hr] at n; cases n) (Nat.le_of_ble_eq_true hc) (Nat.le_of_ble_eq_true hs) ⟨_, rfl, q⟩ fun p e s m args below meth c T locs cs' sl' B X fs hl => retN X B.1 (t := t) (by rw [B.2.2.2.2.2.1, hr]) ht (hb B.2.1 hd) (by rw [hz]; exact hl)
theorem own_areturn {qv : Value → Heap → List Addr → Prop} {t : FieldType} {v : Value} (hr : M.ret = some t) (ht : t.isReference = true) (hv : v.isRef = true) (hd : decode M.b pc = .ok (.areturn, 1)) (hc : Nat.ble cs M.R.cells = true) (hs : Nat.ble sl M.R.slots = true) (q : qv v h sf) : own_WP K M (own_ret qv) pc Ls (v :: St) sf h cs sl :=
  own_leave (v := some v) (fun n => by rw [hr] at n; cases n) (Nat.le_of_ble_eq_true hc) (Nat.le_of_ble_eq_true hs) ⟨_, rfl, q⟩ fun p e s m args below meth c T locs cs' sl' B X fs hl => retOut X B.1 (t := t) (by rw [B.2.2.2.2.2.1, hr]) (by cases t <;> first | (cases ht; done) | (rcases ref_cases hv with rfl | ⟨_, rfl⟩ <;> rfl)) (Or.inr (Or.inr (Or.inr (Or.inr ⟨rfl, ht, hv⟩)))) (hb B.2.1 hd) hl
/-- constants of the pool, fields, statics, new objects and arrays -/
theorem own_ldcI {index : Nat} {v : Int32} (hp : pc + 2 = pc') (hd : decode M.b pc = .ok (.ldc index, 2)) (w : (Jvm.Cond.constant M.y.cls index v).before a0 K.Z = true) (k : own_WP K M Q pc' Ls (.int v :: St) sf h cs sl) : own_WP K M Q pc Ls St sf h cs sl :=
  own_step k fun p e s m args below meth c T locs cs' sl' B X eT t q => X.ldcInt B.1 B.2.2.2.1 (mv B.2.2.2.2.2.2.2.1 w) (g := mkF m pc Ls.toArray St) rfl (hb B.2.1 hd) t (by subst hp; exact q)
theorem own_getF {index : Nat} {R0 O n d : String} {a : Addr} {v : Value} (hp : pc + 3 = pc') (hd : decode M.b pc = .ok (.getfield index, 3)) (w : (Jvm.Cond.fieldLink M.y.cls index R0 n d).before a0 K.Z = true) (via : Via K.Z R0 O n d) (F : Fld K.Z h a O n d v) (k : own_WP K M Q pc' Ls (v :: St) sf h cs sl) : own_WP K M Q pc Ls (.ref a :: St) sf h cs sl := by
  subst hp
  exact own_move k fun p e s m args below meth c T locs cs' sl' B X eT hE => getF X B.1 B.2.2.2.2.2.2.2.1 (host := "") B.2.2.2.1 (Or.inl w) via eT F (g := mkF m pc Ls.toArray (.ref a :: St)) rfl rfl (hb B.2.1 hd)
theorem own_getS {index : Nat} {R0 O n d : String} {v : Value} (hp : pc + 3 = pc') (hd : decode M.b pc = .ok (.getstatic index, 3)) (w : (Jvm.Cond.fieldLink M.y.cls index R0 n d).before a0 K.Z = true) (via : Via K.Z R0 O n d) (F : Sta K.Z K.Z.heap O n d v) (k : own_WP K M Q pc' Ls (v :: St) sf h cs sl) : own_WP K M Q pc Ls St sf h cs sl := by
  subst hp
  exact own_move k fun p e s m args below meth c T locs cs' sl' B X eT hE => getS X B.1 B.2.2.2.2.2.2.2.1 (host := "") B.2.2.2.1 w via eT (F.ext hE) (g := mkF m pc Ls.toArray St) rfl (hb B.2.1 hd)
theorem own_new {index n : Nat} {C : String} (hp : pc + 3 = pc') (hd : decode M.b pc = .ok (.new index, 3)) (w : (Jvm.Cond.classLink M.y.cls index C).before a0 K.Z = true) (wi : (Jvm.Cond.instantiable C n).before a0 K.Z = true) (wz : (Jvm.Cond.initialized C).before a0 K.Z = true) (hc : Nat.ble (cs + 1) M.R.cells = true) (hs : Nat.ble (sl + n) M.R.slots = true)
    (k : ∀ (a : Addr) (h' : Heap), @Eq Nat a h.size → Ext h h' → Exa K.Z h' a C → (∀ {O nm d : String} {ty : FieldType}, Laid K.Z a0 C O nm d → parseFieldDescriptor d = some ty → Fld K.Z h' a O nm d (defaultValue ty)) → own_WP K M Q pc' Ls (.ref a :: St) (a :: sf) h' (cs + 1) (sl + n)) : own_WP K M Q pc Ls St sf h cs sl := by
  subst hp
  refine own_grow (P := fun h' => Exa K.Z h' h.size C ∧ (∀ {O nm d : String} {ty : FieldType}, Laid K.Z a0 C O nm d → parseFieldDescriptor d = some ty → Fld K.Z h' h.size O nm d (defaultValue ty))) (Nat.le_of_ble_eq_true hc) (Nat.le_of_ble_eq_true hs) (fun h' E P => k _ h' rfl E P.1 P.2) ?_
  intro p e s m args below meth c T locs cs' sl' B X hc' hs' eT
  obtain ⟨T', h', X', e', E, A, D, -, st⟩ := newO X B.1 B.2.2.2.2.2.2.2.1 B.2.2.2.1 w wi wz eT (g := mkF m pc Ls.toArray St) rfl (hb B.2.1 hd) hc' hs'
  exact ⟨T', h', X', e', E, A.lt, ⟨A, D⟩, st⟩
theorem own_putF {index kk : Nat} {R0 O n d C : String} {ty : FieldType} {a : Addr} {v v' old : Value} (hp : pc + 3 = pc') (hd : decode M.b pc = .ok (.putfield index, 3)) (w : (Jvm.Cond.fieldLink M.y.cls index R0 n d).before a0 K.Z = true) (via : Via K.Z R0 O n d)
    (L : (Jvm.Cond.lays C O n d).before a0 K.Z = true ∨ ((Jvm.Cond.laysFinal C O n d).before a0 K.Z = true ∧ M.y.cls = O ∧ M.y.name = "<init>")) (wi : (Jvm.Cond.instantiable C kk).before a0 K.Z = true) (hty : parseFieldDescriptor d = some ty) (hn : narrow ty v = v') (hf : fits ty v' = true) (F : Fld K.Z h a O n d old) (E : Exa K.Z h a C) (ha : a ∈ sf)
    (k : ∀ h', Wr h h' a (RoadKit.slotOf K.Z O n d) v' → own_WP K M Q pc' Ls St sf h' cs sl) : own_WP K M Q pc Ls (v :: .ref a :: St) sf h cs sl := by
  subst hp
  exact own_write ha k fun p e s m args below meth c T locs cs' sl' B X eT => putFN X B.1 B.2.2.2.2.2.2.2.1 B.2.2.2.1 w via eT F E (L.imp id fun q => ⟨q.1, q.2.1, by rw [B.2.2.2.2.1]; exact q.2.2⟩) wi hty hn hf (g := mkF m pc Ls.toArray (v :: .ref a :: St)) rfl rfl (hb B.2.1 hd)
theorem own_initO {index : Nat} {a : Addr} (hp : pc + 3 = pc') (hd : decode M.b pc = .ok (.invokespecial index, 3)) (w1 : (Jvm.Cond.methodLink M.y.cls index Lib.objectInit).before a0 K.Z = true) (w2 : (Jvm.Cond.instanceMethod Lib.objectInit).before a0 K.Z = true) (w3 : (Jvm.Cond.code Lib.objectInit ⟨#[0xb1]⟩ 1 none).before a0 K.Z = true) (hsz : Ls.length = M.mx) (hf : Nat.ble 1 M.R.frames = true) (hl : Nat.ble ((St.map fun v => v.category).sum + 12) M.R.locals = true)
    (k : own_WP K M Q pc' Ls St sf h cs sl) : own_WP K M Q pc Ls (.ref a :: St) sf h cs sl := by
  subst hp
  exact own_move k fun p e s m args below meth c T locs cs' sl' B X eT hE => initO X B.1 B.2.2.2.2.2.2.2.1 B.2.2.2.1 w1 w2 w3 eT (g := mkF m pc Ls.toArray (.ref a :: St)) rfl (by rw [B.2.2.1, ← hsz]; simp) rfl (hb B.2.1 hd) (Nat.le_of_ble_eq_true hf) (W := (St.map fun v => v.category).sum) (by show 2 * 0 + _ ≤ _; omega) (Nat.le_of_ble_eq_true hl)
theorem own_castY {index : Nat} {C : String} {a : Addr} (hp : pc + 3 = pc') (hd : decode M.b pc = .ok (.checkcast index, 3)) (w : (Jvm.Cond.classLink M.y.cls index C).before a0 K.Z = true) (F : Ins K.Z h a C true) (k : own_WP K M Q pc' Ls (.ref a :: St) sf h cs sl) : own_WP K M Q pc Ls (.ref a :: St) sf h cs sl := by
  subst hp
  exact own_move k fun p e s m args below meth c T locs cs' sl' B X eT hE => castY X B.1 B.2.2.2.2.2.2.2.1 B.2.2.2.1 w eT F (g := mkF m pc Ls.toArray (.ref a :: St)) rfl rfl (hb B.2.1 hd)
theorem own_instY {index : Nat} {C : String} {a : Addr} (hp : pc + 3 = pc') (hd : decode M.b pc = .ok (.instanceof index, 3)) (w : (Jvm.Cond.classLink M.y.cls index C).before a0 K.Z = true) (F : Ins K.Z h a C true) (k : own_WP K M Q pc' Ls (.int 1 :: St) sf h cs sl) : own_WP K M Q pc Ls (.ref a :: St) sf h cs sl := by
  subst hp
  exact own_move k fun p e s m args below meth c T locs cs' sl' B X eT hE => instY X B.1 B.2.2.2.2.2.2.2.1 B.2.2.2.1 w eT F (g := mkF m pc Ls.toArray (.ref a :: St)) rfl rfl (hb B.2.1 hd)
end Plain
section Arrays
/-- the array at a holds just vs -/
def own_Ary (Z : State) (h : Heap) (a : Addr) (ty : FieldType) (vs : List Value) : Prop := ∃ c : Cell, Arr Z h a c ty ∧ c.slots = vs.toArray ∧ vs.length < 2 ^ 31
variable {K : own_Cx} {M : own_Mi} {Q : own_Q} {pc pc' : Nat} {Ls : List Slot} {St : List Value} {sf : List Addr} {h h' : Heap} {cs sl : Nat} {a0 : Array Value} {Z : State} {a b : Addr} {ty : FieldType} {vs : List Value}
theorem own_Ary.ext (F : own_Ary Z h a ty vs) (E : Ext h h') : own_Ary Z h' a ty vs := by obtain ⟨c, A, r⟩ := F; exact ⟨c, A.ext E, r⟩
theorem own_Ary.lt (F : own_Ary Z h a ty vs) : a < h.size := by obtain ⟨c, A, r⟩ := F; exact A.lt
theorem own_Ary.keep {ws : List Addr} (F : own_Ary Z h a ty vs) (k : Keep h h' ws) (q : a ∉ ws) : own_Ary Z h' a ty vs := by obtain ⟨c, A, r⟩ := F; exact ⟨c, ⟨k.2.1 a c A.1 q, A.2⟩, r⟩
theorem own_Ary.other {i : Nat} {v : Value} (F : own_Ary Z h b ty vs) (W : Wr h h' a i v) (q : b ≠ a) : own_Ary Z h' b ty vs := by obtain ⟨c, A, r⟩ := F; exact ⟨c, A.other W q, r⟩
theorem own_Ary.same {i : Nat} {v : Value} (F : own_Ary Z h a ty vs) (W : Wr h h' a i v) : own_Ary Z h' a ty (vs.set i v) := by
  obtain ⟨c, A, r1, r2⟩ := F
  refine ⟨c.setSlot i v, A.same W, ?_, by simpa using r2⟩
  simp [Cell.setSlot, r1]
theorem own_idx {j : Int32} {i n : Nat} (hj : j.toInt = i) (hi : i < n) : ¬ (j < 0 ∨ n ≤ j.toNatClampNeg) ∧ j.toNatClampNeg = i := by
  have q : j.toNatClampNeg = i := by
    have : j.toNatClampNeg = j.toInt.toNat := rfl
    rw [this, hj]; rfl
  refine ⟨fun z => ?_, q⟩
  rcases z with z | z
  · rw [Int32.lt_iff_toInt_lt, hj] at z
    have : (0 : Int32).toInt = 0 := rfl
    omega
  · omega
theorem own_len {n : Nat} (q : n < 2 ^ 31) : (n.toInt32).toInt = n := Int32.toInt_ofNat_small q
theorem own_arrlen {z : Int32} (hp : pc + 1 = pc') (hd : decode M.b pc = .ok (.arraylength, 1)) (F : own_Ary K.Z h a ty vs) (hz : z.toInt = vs.length) (k : own_WP K M Q pc' Ls (.int z :: St) sf h cs sl) : own_WP K M Q pc Ls (.ref a :: St) sf h cs sl := by
  obtain ⟨cl, A, r1, r2⟩ := F
  have e1 : cl.slots.size.toInt32 = z := by
    apply Int32.toInt_inj.mp
    rw [hz, r1]; simpa using own_len r2
  exact own_step k fun p e s m args below meth c T locs cs' sl' B X eT t q => X.arraylength B.1 (by rw [eT]; exact A.1) (State.isArrayOf_alike B.2.2.2.2.2.2.2.1.alike A.2.1) (g := mkF m pc Ls.toArray (.ref a :: St)) rfl rfl (hb B.2.1 hd) t (by subst hp; rw [e1]; exact q)
theorem own_caload {i : Nat} {j : Int32} {v : Value} (hp : pc + 1 = pc') (hd : decode M.b pc = .ok (.caload, 1)) (F : own_Ary K.Z h a .char vs) (hj : j.toInt = i) (hv : vs[i]? = some v) (k : own_WP K M Q pc' Ls (v :: St) sf h cs sl) : own_WP K M Q pc Ls (.int j :: .ref a :: St) sf h cs sl := by
  obtain ⟨cl, A, r1, r2⟩ := F
  have hi : i < vs.length := (List.getElem?_eq_some_iff.mp hv).1
  have hsz : cl.slots.size = vs.length := by rw [r1]; simp
  obtain ⟨q1, q2⟩ := own_idx (n := cl.slots.size) hj (by rw [hsz]; exact hi)
  exact own_step k fun p e s m args below meth c T locs cs' sl' B X eT t q => X.caload B.1 (j := j) (v := v) (by rw [eT]; exact A.1) (State.isArrayOf_alike B.2.2.2.2.2.2.2.1.alike A.2.1) A.2.2 q1 (by rw [q2, r1]; simpa using hv) (g := mkF m pc Ls.toArray (.int j :: .ref a :: St)) rfl rfl (hb B.2.1 hd) t (by subst hp; exact q)
theorem own_baload {i : Nat} {j : Int32} {v : Value} (hp : pc + 1 = pc') (hd : decode M.b pc = .ok (.baload, 1)) (F : own_Ary K.Z h a .byte vs) (hj : j.toInt = i) (hv : vs[i]? = some v) (k : own_WP K M Q pc' Ls (v :: St) sf h cs sl) : own_WP K M Q pc Ls (.int j :: .ref a :: St) sf h cs sl := by
  obtain ⟨cl, A, r1, r2⟩ := F
  have hi : i < vs.length := (List.getElem?_eq_some_iff.mp hv).1
  have hsz : cl.slots.size = vs.length := by rw [r1]; simp
  obtain ⟨q1, q2⟩ := own_idx (n := cl.slots.size) hj (by rw [hsz]; exact hi)
  exact own_step k fun p e s m args below meth c T locs cs' sl' B X eT t q => X.baloadBytes B.1 (j := j) (v := v) (by rw [eT]; exact A.1) (State.isArrayOf_alike B.2.2.2.2.2.2.2.1.alike A.2.1) A.2.2 q1 (by rw [q2, r1]; simpa using hv) (g := mkF m pc Ls.toArray (.int j :: .ref a :: St)) rfl rfl (hb B.2.1 hd) t (by subst hp; exact q)
theorem own_castore {i : Nat} {j x x' : Int32} (hp : pc + 1 = pc') (hd : decode M.b pc = .ok (.castore, 1)) (F : own_Ary K.Z h a .char vs) (hj : j.toInt = i) (hi : i < vs.length) (hx : nar .char x = x') (ha : a ∈ sf) (k : ∀ h', Keep h h' [a] → own_Ary K.Z h' a .char (vs.set i (.int x')) → own_WP K M Q pc' Ls St sf h' cs sl) : own_WP K M Q pc Ls (.int x :: .int j :: .ref a :: St) sf h cs sl := by
  subst hp hx
  have F' := F
  obtain ⟨cl, A, r1, r2⟩ := F
  have hsz : cl.slots.size = vs.length := by rw [r1]; simp
  obtain ⟨q1, q2⟩ := own_idx (n := cl.slots.size) hj (by rw [hsz]; exact hi)
  refine own_write ha (i := j.toNatClampNeg) (fun h' W => k h' (Keep.of_wr W) (by rw [← q2]; exact F'.same W)) ?_
  exact fun p e s m args below meth c T locs cs' sl' B X eT => stC X B.1 B.2.2.2.2.2.2.2.1 eT A (j := j) q1 (g := mkF m pc Ls.toArray (.int x :: .int j :: .ref a :: St)) rfl rfl (hb B.2.1 hd)
theorem own_bastore {i : Nat} {j x x' : Int32} (hp : pc + 1 = pc') (hd : decode M.b pc = .ok (.bastore, 1)) (F : own_Ary K.Z h a .byte vs) (hj : j.toInt = i) (hi : i < vs.length) (hx : nar .byte x = x') (ha : a ∈ sf) (k : ∀ h', Keep h h' [a] → own_Ary K.Z h' a .byte (vs.set i (.int x')) → own_WP K M Q pc' Ls St sf h' cs sl) : own_WP K M Q pc Ls (.int x :: .int j :: .ref a :: St) sf h cs sl := by
  subst hp hx
  have F' := F
  obtain ⟨cl, A, r1, r2⟩ := F
  have hsz : cl.slots.size = vs.length := by rw [r1]; simp
  obtain ⟨q1, q2⟩ := own_idx (n := cl.slots.size) hj (by rw [hsz]; exact hi)
  refine own_write ha (i := j.toNatClampNeg) (fun h' W => k h' (Keep.of_wr W) (by rw [← q2]; exact F'.same W)) ?_
  exact fun p e s m args below meth c T locs cs' sl' B X eT => stB X B.1 B.2.2.2.2.2.2.2.1 eT A (j := j) q1 (g := mkF m pc Ls.toArray (.int x :: .int j :: .ref a :: St)) rfl rfl (hb B.2.1 hd)
theorem own_newarray {aty : ArrayType} {n : Int32} {N cap : Nat} (hp : pc + 2 = pc') (hd : decode M.b pc = .ok (.newarray aty, 2)) (w : (Jvm.Cond.arrayClass (newarray.typeOf aty)).before a0 K.Z = true) (hn : n.toInt = N) (hcap : N ≤ cap) (hb' : Nat.ble (cap * 8) 536870912 = true) (hc : Nat.ble (cs + 1) M.R.cells = true) (hs : Nat.ble (sl + cap) M.R.slots = true)
    (k : ∀ (a : Addr) (h' : Heap), @Eq Nat a h.size → Ext h h' → own_Ary K.Z h' a (newarray.typeOf aty) (List.replicate N (defaultValue (newarray.typeOf aty))) → own_WP K M Q pc' Ls (.ref a :: St) (a :: sf) h' (cs + 1) (sl + cap)) : own_WP K M Q pc Ls (.int n :: St) sf h cs sl := by
  subst hp
  have hN : n.toNatClampNeg = N := by
    have : n.toNatClampNeg = n.toInt.toNat := rfl
    rw [this, hn]; rfl
  have h0 : ¬ n < 0 := fun z => by
    rw [Int32.lt_iff_toInt_lt, hn] at z
    have : (0 : Int32).toInt = 0 := rfl
    omega
  refine own_grow (P := fun h' => own_Ary K.Z h' h.size (newarray.typeOf aty) (List.replicate N (defaultValue (newarray.typeOf aty)))) (Nat.le_of_ble_eq_true hc) (Nat.le_of_ble_eq_true hs) (fun h' E P => k _ h' rfl E P) ?_
  intro p e s m args below meth c T locs cs' sl' B X hc' hs' eT
  obtain ⟨T', h', cA, X', e', E, A, st⟩ := newP X B.1 B.2.2.2.2.2.2.2.1 w eT (g := mkF m pc Ls.toArray (.int n :: St)) rfl (hb B.2.1 hd) rfl h0 (cap := cap) (by omega) (Nat.le_of_ble_eq_true hb') hc' hs'
  have hlt := (back32 h0).2
  exact ⟨T', h', X', e', E, A.lt, ⟨_, A, by simp [newA, hN], by rw [List.length_replicate, ← hN]; exact hlt⟩, st⟩
end Arrays
theorem own_lenOf {d : String} {ps : List FieldType} {r : Option FieldType} (hd : parseMethodDescriptor d = some ⟨ps, r⟩) {n : Nat} (hl : n = ps.length) : ∀ sig, parseMethodDescriptor d = some sig → n = sig.parameters.length := fun sig q => by cases hd.symm.trans q; exact hl
theorem own_cat {v : Value} (q : v.isRef = true) : v.category = 1 := by rcases ref_cases q with rfl | ⟨_, rfl⟩ <;> rfl
theorem own_ne {a b : Addr} (q : @Ne Nat a b) : a ≠ b := q
theorem own_nb0 : nar .boolean 0 = 0 := rfl
theorem own_nb1 : nar .boolean 1 = 1 := rfl
theorem own_ints_get {cs : List Int32} {i : Nat} {c : Int32} (hc : cs[i]? = some c) : (cs.map Value.int)[i]? = some (.int c) := by simp [hc]
theorem own_ints_getM {cs : List Int32} {f : Int32 → Int32} {i : Nat} {c : Int32} (hc : cs[i]? = some c) : ((cs.map f).map Value.int)[i]? = some (.int (f c)) := by simp [hc]
theorem tw_0 {a0 : Array Value} {Z : State} (hw : ∀ d ∈ tables_1, d.before a0 Z = true) : (Jvm.Cond.methodLink "com/example/sunder/sunder/TokenIsPinLaw" (7 : Nat) ({ cls := "com/example/sunder/sunder/TokenIsPinLaw", name := "kindOf", desc := "(I)Lcom/example/sunder/sunder/SqlTokens$Kind;" } : Jvm.MethodName)).before a0 Z = true := hw _ (List.mem_of_getElem? (i := 0) rfl)
theorem tw_1 {a0 : Array Value} {Z : State} (hw : ∀ d ∈ tables_1, d.before a0 Z = true) : (Jvm.Cond.static ({ cls := "com/example/sunder/sunder/TokenIsPinLaw", name := "kindOf", desc := "(I)Lcom/example/sunder/sunder/SqlTokens$Kind;" } : Jvm.MethodName)).before a0 Z = true := hw _ (List.mem_of_getElem? (i := 1) rfl)
theorem tw_2 {a0 : Array Value} {Z : State} (hw : ∀ d ∈ tables_1, d.before a0 Z = true) : (Jvm.Cond.initialized "com/example/sunder/sunder/TokenIsPinLaw").before a0 Z = true := hw _ (List.mem_of_getElem? (i := 2) rfl)
theorem tw_3 {a0 : Array Value} {Z : State} (hw : ∀ d ∈ tables_1, d.before a0 Z = true) : (Jvm.Cond.code ({ cls := "com/example/sunder/sunder/TokenIsPinLaw", name := "kindOf", desc := "(I)Lcom/example/sunder/sunder/SqlTokens$Kind;" } : Jvm.MethodName) method_3_code (1 : Nat) (Option.some (Jvm.ClassFile.FieldType.object "com/example/sunder/sunder/SqlTokens$Kind"))).before a0 Z = true := hw _ (List.mem_of_getElem? (i := 3) rfl)
theorem tw_4 {a0 : Array Value} {Z : State} (hw : ∀ d ∈ tables_1, d.before a0 Z = true) : (Jvm.Cond.fieldLink "com/example/sunder/sunder/TokenIsPinLaw" (37 : Nat) "com/example/sunder/sunder/SqlTokens$Kind" "WORD" "Lcom/example/sunder/sunder/SqlTokens$Kind;").before a0 Z = true := hw _ (List.mem_of_getElem? (i := 4) rfl)
theorem tw_5 {a0 : Array Value} {Z : State} (hw : ∀ d ∈ tables_1, d.before a0 Z = true) : (Jvm.Cond.initialized "com/example/sunder/sunder/SqlTokens$Kind").before a0 Z = true := hw _ (List.mem_of_getElem? (i := 5) rfl)
theorem tw_6 {a0 : Array Value} {Z : State} (hw : ∀ d ∈ tables_1, d.before a0 Z = true) : (Jvm.Cond.laysStatic "com/example/sunder/sunder/SqlTokens$Kind" "WORD" "Lcom/example/sunder/sunder/SqlTokens$Kind;").before a0 Z = true := hw _ (List.mem_of_getElem? (i := 6) rfl)
theorem tw_7 {a0 : Array Value} {Z : State} (hw : ∀ d ∈ tables_1, d.before a0 Z = true) : (Jvm.Cond.methodLink "com/example/sunder/sunder/TokenIsPinLaw" (13 : Nat) ({ cls := "java/lang/Math", name := "min", desc := "(II)I" } : Jvm.MethodName)).before a0 Z = true := hw _ (List.mem_of_getElem? (i := 7) rfl)
theorem tw_8 {a0 : Array Value} {Z : State} (hw : ∀ d ∈ tables_1, d.before a0 Z = true) : (Jvm.Cond.static ({ cls := "java/lang/Math", name := "min", desc := "(II)I" } : Jvm.MethodName)).before a0 Z = true := hw _ (List.mem_of_getElem? (i := 8) rfl)
theorem tw_9 {a0 : Array Value} {Z : State} (hw : ∀ d ∈ tables_1, d.before a0 Z = true) : (Jvm.Cond.initialized "java/lang/Math").before a0 Z = true := hw _ (List.mem_of_getElem? (i := 9) rfl)
theorem tw_10 {a0 : Array Value} {Z : State} (hw : ∀ d ∈ tables_1, d.before a0 Z = true) : (Jvm.Cond.code ({ cls := "java/lang/Math", name := "min", desc := "(II)I" } : Jvm.MethodName) jdk_29_method_69_code (2 : Nat) (Option.some Jvm.ClassFile.FieldType.int)).before a0 Z = true := hw _ (List.mem_of_getElem? (i := 10) rfl)
theorem tw_11 {a0 : Array Value} {Z : State} (hw : ∀ d ∈ tables_1, d.before a0 Z = true) : (Jvm.Cond.constant "com/example/sunder/sunder/TokenIsPinLaw" (19 : Nat) (65535 : Int32)).before a0 Z = true := hw _ (List.mem_of_getElem? (i := 11) rfl)
theorem tw_12 {a0 : Array Value} {Z : State} (hw : ∀ d ∈ tables_1, d.before a0 Z = true) : (Jvm.Cond.methodLink "com/example/sunder/sunder/TokenIsPinLaw" (20 : Nat) ({ cls := "com/example/sunder/sunder/TokenIsPinLaw", name := "derive", desc := "(ICC)C" } : Jvm.MethodName)).before a0 Z = true := hw _ (List.mem_of_getElem? (i := 12) rfl)
theorem tw_13 {a0 : Array Value} {Z : State} (hw : ∀ d ∈ tables_1, d.before a0 Z = true) : (Jvm.Cond.static ({ cls := "com/example/sunder/sunder/TokenIsPinLaw", name := "derive", desc := "(ICC)C" } : Jvm.MethodName)).before a0 Z = true := hw _ (List.mem_of_getElem? (i := 13) rfl)
theorem tw_14 {a0 : Array Value} {Z : State} (hw : ∀ d ∈ tables_1, d.before a0 Z = true) : (Jvm.Cond.code ({ cls := "com/example/sunder/sunder/TokenIsPinLaw", name := "derive", desc := "(ICC)C" } : Jvm.MethodName) method_4_code (3 : Nat) (Option.some Jvm.ClassFile.FieldType.char)).before a0 Z = true := hw _ (List.mem_of_getElem? (i := 14) rfl)
theorem tw_15 {a0 : Array Value} {Z : State} (hw : ∀ d ∈ tables_1, d.before a0 Z = true) : (Jvm.Cond.methodLink "com/example/sunder/sunder/TokenIsPinLaw" (24 : Nat) ({ cls := "com/example/sunder/sunder/TokenIsPinLaw", name := "make", desc := "(ICC)Ljava/lang/String;" } : Jvm.MethodName)).before a0 Z = true := hw _ (List.mem_of_getElem? (i := 15) rfl)
theorem tw_16 {a0 : Array Value} {Z : State} (hw : ∀ d ∈ tables_1, d.before a0 Z = true) : (Jvm.Cond.static ({ cls := "com/example/sunder/sunder/TokenIsPinLaw", name := "make", desc := "(ICC)Ljava/lang/String;" } : Jvm.MethodName)).before a0 Z = true := hw _ (List.mem_of_getElem? (i := 16) rfl)
theorem tw_17 {a0 : Array Value} {Z : State} (hw : ∀ d ∈ tables_1, d.before a0 Z = true) : (Jvm.Cond.code ({ cls := "com/example/sunder/sunder/TokenIsPinLaw", name := "make", desc := "(ICC)Ljava/lang/String;" } : Jvm.MethodName) method_5_code (3 : Nat) (Option.some (Jvm.ClassFile.FieldType.object "java/lang/String"))).before a0 Z = true := hw _ (List.mem_of_getElem? (i := 17) rfl)
theorem tw_18 {a0 : Array Value} {Z : State} (hw : ∀ d ∈ tables_1, d.before a0 Z = true) : (Jvm.Cond.classLink "com/example/sunder/sunder/TokenIsPinLaw" (65 : Nat) "java/lang/String").before a0 Z = true := hw _ (List.mem_of_getElem? (i := 18) rfl)
theorem tw_19 {a0 : Array Value} {Z : State} (hw : ∀ d ∈ tables_1, d.before a0 Z = true) : (Jvm.Cond.instantiable "java/lang/String" (4 : Nat)).before a0 Z = true := hw _ (List.mem_of_getElem? (i := 19) rfl)
theorem tw_20 {a0 : Array Value} {Z : State} (hw : ∀ d ∈ tables_1, d.before a0 Z = true) : (Jvm.Cond.initialized "java/lang/String").before a0 Z = true := hw _ (List.mem_of_getElem? (i := 20) rfl)
theorem tw_21 {a0 : Array Value} {Z : State} (hw : ∀ d ∈ tables_1, d.before a0 Z = true) : (Jvm.Cond.arrayClass Jvm.ClassFile.FieldType.char).before a0 Z = true := hw _ (List.mem_of_getElem? (i := 21) rfl)
theorem tw_22 {a0 : Array Value} {Z : State} (hw : ∀ d ∈ tables_1, d.before a0 Z = true) : (Jvm.Cond.methodLink "com/example/sunder/sunder/TokenIsPinLaw" (67 : Nat) ({ cls := "java/lang/String", name := "<init>", desc := "([C)V" } : Jvm.MethodName)).before a0 Z = true := hw _ (List.mem_of_getElem? (i := 22) rfl)
theorem tw_23 {a0 : Array Value} {Z : State} (hw : ∀ d ∈ tables_1, d.before a0 Z = true) : (Jvm.Cond.instanceMethod ({ cls := "java/lang/String", name := "<init>", desc := "([C)V" } : Jvm.MethodName)).before a0 Z = true := hw _ (List.mem_of_getElem? (i := 23) rfl)
theorem tw_24 {a0 : Array Value} {Z : State} (hw : ∀ d ∈ tables_1, d.before a0 Z = true) : (Jvm.Cond.code ({ cls := "java/lang/String", name := "<init>", desc := "([C)V" } : Jvm.MethodName) jdk_42_method_3_code (2 : Nat) (Option.none : Option Jvm.ClassFile.FieldType)).before a0 Z = true := hw _ (List.mem_of_getElem? (i := 24) rfl)
theorem tw_25 {a0 : Array Value} {Z : State} (hw : ∀ d ∈ tables_1, d.before a0 Z = true) : (Jvm.Cond.methodLink "java/lang/String" (27 : Nat) ({ cls := "java/lang/String", name := "<init>", desc := "([CIILjava/lang/Void;)V" } : Jvm.MethodName)).before a0 Z = true := hw _ (List.mem_of_getElem? (i := 25) rfl)
theorem tw_26 {a0 : Array Value} {Z : State} (hw : ∀ d ∈ tables_1, d.before a0 Z = true) : (Jvm.Cond.instanceMethod ({ cls := "java/lang/String", name := "<init>", desc := "([CIILjava/lang/Void;)V" } : Jvm.MethodName)).before a0 Z = true := hw _ (List.mem_of_getElem? (i := 26) rfl)
theorem tw_28 {a0 : Array Value} {Z : State} (hw : ∀ d ∈ tables_1, d.before a0 Z = true) : (Jvm.Cond.code ({ cls := "java/lang/String", name := "<init>", desc := "([CIILjava/lang/Void;)V" } : Jvm.MethodName) jdk_42_method_149_code (6 : Nat) (Option.none : Option Jvm.ClassFile.FieldType)).before a0 Z = true := hw _ (List.mem_of_getElem? (i := 28) rfl)
theorem tw_29 {a0 : Array Value} {Z : State} (hw : ∀ d ∈ tables_1, d.before a0 Z = true) : (Jvm.Cond.methodLink "java/lang/String" (1 : Nat) ({ cls := "java/lang/Object", name := "<init>", desc := "()V" } : Jvm.MethodName)).before a0 Z = true := hw _ (List.mem_of_getElem? (i := 29) rfl)
theorem tw_30 {a0 : Array Value} {Z : State} (hw : ∀ d ∈ tables_1, d.before a0 Z = true) : (Jvm.Cond.instanceMethod ({ cls := "java/lang/Object", name := "<init>", desc := "()V" } : Jvm.MethodName)).before a0 Z = true := hw _ (List.mem_of_getElem? (i := 30) rfl)
theorem tw_31 {a0 : Array Value} {Z : State} (hw : ∀ d ∈ tables_1, d.before a0 Z = true) : (Jvm.Cond.code ({ cls := "java/lang/Object", name := "<init>", desc := "()V" } : Jvm.MethodName) object_method_1_code (1 : Nat) (Option.none : Option Jvm.ClassFile.FieldType)).before a0 Z = true := hw _ (List.mem_of_getElem? (i := 31) rfl)
theorem tw_33 {a0 : Array Value} {Z : State} (hw : ∀ d ∈ tables_1, d.before a0 Z = true) : (Jvm.Cond.arrayClass Jvm.ClassFile.FieldType.byte).before a0 Z = true := hw _ (List.mem_of_getElem? (i := 33) rfl)
theorem tw_34 {a0 : Array Value} {Z : State} (hw : ∀ d ∈ tables_1, d.before a0 Z = true) : (Jvm.Cond.laysFinal "java/lang/String" "java/lang/String" "value" "[B").before a0 Z = true := hw _ (List.mem_of_getElem? (i := 34) rfl)
theorem tw_35 {a0 : Array Value} {Z : State} (hw : ∀ d ∈ tables_1, d.before a0 Z = true) : (Jvm.Cond.laysFinal "java/lang/String" "java/lang/String" "coder" "B").before a0 Z = true := hw _ (List.mem_of_getElem? (i := 35) rfl)
theorem tw_36 {a0 : Array Value} {Z : State} (hw : ∀ d ∈ tables_1, d.before a0 Z = true) : (Jvm.Cond.soleField "java/lang/String" "value").before a0 Z = true := hw _ (List.mem_of_getElem? (i := 36) rfl)
theorem tw_37 {a0 : Array Value} {Z : State} (hw : ∀ d ∈ tables_1, d.before a0 Z = true) : (Jvm.Cond.soleField "java/lang/String" "coder").before a0 Z = true := hw _ (List.mem_of_getElem? (i := 37) rfl)
theorem tw_38 {a0 : Array Value} {Z : State} (hw : ∀ d ∈ tables_1, d.before a0 Z = true) : (Jvm.Cond.fieldLink "java/lang/String" (9 : Nat) "java/lang/String" "value" "[B").before a0 Z = true := hw _ (List.mem_of_getElem? (i := 38) rfl)
theorem tw_39 {a0 : Array Value} {Z : State} (hw : ∀ d ∈ tables_1, d.before a0 Z = true) : (Jvm.Cond.fieldLink "java/lang/String" (15 : Nat) "java/lang/String" "coder" "B").before a0 Z = true := hw _ (List.mem_of_getElem? (i := 39) rfl)
theorem tw_40 {a0 : Array Value} {Z : State} (hw : ∀ d ∈ tables_1, d.before a0 Z = true) : (Jvm.Cond.classLink "com/example/sunder/sunder/TokenIsPinLaw" (28 : Nat) "com/example/sunder/sunder/SqlTokens$Token").before a0 Z = true := hw _ (List.mem_of_getElem? (i := 40) rfl)
theorem tw_41 {a0 : Array Value} {Z : State} (hw : ∀ d ∈ tables_1, d.before a0 Z = true) : (Jvm.Cond.instantiable "com/example/sunder/sunder/SqlTokens$Token" (3 : Nat)).before a0 Z = true := hw _ (List.mem_of_getElem? (i := 41) rfl)
theorem tw_42 {a0 : Array Value} {Z : State} (hw : ∀ d ∈ tables_1, d.before a0 Z = true) : (Jvm.Cond.initialized "com/example/sunder/sunder/SqlTokens$Token").before a0 Z = true := hw _ (List.mem_of_getElem? (i := 42) rfl)
theorem tw_43 {a0 : Array Value} {Z : State} (hw : ∀ d ∈ tables_1, d.before a0 Z = true) : (Jvm.Cond.methodLink "com/example/sunder/sunder/TokenIsPinLaw" (30 : Nat) ({ cls := "com/example/sunder/sunder/SqlTokens$Token", name := "<init>", desc := "(Lcom/example/sunder/sunder/SqlTokens$Kind;Ljava/lang/String;I)V" } : Jvm.MethodName)).before a0 Z = true := hw _ (List.mem_of_getElem? (i := 43) rfl)
theorem tw_44 {a0 : Array Value} {Z : State} (hw : ∀ d ∈ tables_1, d.before a0 Z = true) : (Jvm.Cond.instanceMethod ({ cls := "com/example/sunder/sunder/SqlTokens$Token", name := "<init>", desc := "(Lcom/example/sunder/sunder/SqlTokens$Kind;Ljava/lang/String;I)V" } : Jvm.MethodName)).before a0 Z = true := hw _ (List.mem_of_getElem? (i := 44) rfl)
theorem tw_45 {a0 : Array Value} {Z : State} (hw : ∀ d ∈ tables_1, d.before a0 Z = true) : (Jvm.Cond.code ({ cls := "com/example/sunder/sunder/SqlTokens$Token", name := "<init>", desc := "(Lcom/example/sunder/sunder/SqlTokens$Kind;Ljava/lang/String;I)V" } : Jvm.MethodName) prog_18_method_1_code (4 : Nat) (Option.none : Option Jvm.ClassFile.FieldType)).before a0 Z = true := hw _ (List.mem_of_getElem? (i := 45) rfl)
theorem tw_46 {a0 : Array Value} {Z : State} (hw : ∀ d ∈ tables_1, d.before a0 Z = true) : (Jvm.Cond.methodLink "com/example/sunder/sunder/SqlTokens$Token" (1 : Nat) ({ cls := "java/lang/Record", name := "<init>", desc := "()V" } : Jvm.MethodName)).before a0 Z = true := hw _ (List.mem_of_getElem? (i := 46) rfl)
theorem tw_47 {a0 : Array Value} {Z : State} (hw : ∀ d ∈ tables_1, d.before a0 Z = true) : (Jvm.Cond.instanceMethod ({ cls := "java/lang/Record", name := "<init>", desc := "()V" } : Jvm.MethodName)).before a0 Z = true := hw _ (List.mem_of_getElem? (i := 47) rfl)
theorem tw_49 {a0 : Array Value} {Z : State} (hw : ∀ d ∈ tables_1, d.before a0 Z = true) : (Jvm.Cond.initialized "java/lang/Record").before a0 Z = true := hw _ (List.mem_of_getElem? (i := 49) rfl)
theorem tw_50 {a0 : Array Value} {Z : State} (hw : ∀ d ∈ tables_1, d.before a0 Z = true) : (Jvm.Cond.code ({ cls := "java/lang/Record", name := "<init>", desc := "()V" } : Jvm.MethodName) jdk_30_method_1_code (1 : Nat) (Option.none : Option Jvm.ClassFile.FieldType)).before a0 Z = true := hw _ (List.mem_of_getElem? (i := 50) rfl)
theorem tw_51 {a0 : Array Value} {Z : State} (hw : ∀ d ∈ tables_1, d.before a0 Z = true) : (Jvm.Cond.methodLink "java/lang/Record" (1 : Nat) ({ cls := "java/lang/Object", name := "<init>", desc := "()V" } : Jvm.MethodName)).before a0 Z = true := hw _ (List.mem_of_getElem? (i := 51) rfl)
theorem tw_52 {a0 : Array Value} {Z : State} (hw : ∀ d ∈ tables_1, d.before a0 Z = true) : (Jvm.Cond.fieldLink "com/example/sunder/sunder/SqlTokens$Token" (7 : Nat) "com/example/sunder/sunder/SqlTokens$Token" "kind" "Lcom/example/sunder/sunder/SqlTokens$Kind;").before a0 Z = true := hw _ (List.mem_of_getElem? (i := 52) rfl)
theorem tw_53 {a0 : Array Value} {Z : State} (hw : ∀ d ∈ tables_1, d.before a0 Z = true) : (Jvm.Cond.laysFinal "com/example/sunder/sunder/SqlTokens$Token" "com/example/sunder/sunder/SqlTokens$Token" "kind" "Lcom/example/sunder/sunder/SqlTokens$Kind;").before a0 Z = true := hw _ (List.mem_of_getElem? (i := 53) rfl)
theorem tw_54 {a0 : Array Value} {Z : State} (hw : ∀ d ∈ tables_1, d.before a0 Z = true) : (Jvm.Cond.fieldLink "com/example/sunder/sunder/SqlTokens$Token" (13 : Nat) "com/example/sunder/sunder/SqlTokens$Token" "text" "Ljava/lang/String;").before a0 Z = true := hw _ (List.mem_of_getElem? (i := 54) rfl)
theorem tw_55 {a0 : Array Value} {Z : State} (hw : ∀ d ∈ tables_1, d.before a0 Z = true) : (Jvm.Cond.laysFinal "com/example/sunder/sunder/SqlTokens$Token" "com/example/sunder/sunder/SqlTokens$Token" "text" "Ljava/lang/String;").before a0 Z = true := hw _ (List.mem_of_getElem? (i := 55) rfl)
theorem tw_56 {a0 : Array Value} {Z : State} (hw : ∀ d ∈ tables_1, d.before a0 Z = true) : (Jvm.Cond.fieldLink "com/example/sunder/sunder/SqlTokens$Token" (17 : Nat) "com/example/sunder/sunder/SqlTokens$Token" "line" "I").before a0 Z = true := hw _ (List.mem_of_getElem? (i := 56) rfl)
theorem tw_57 {a0 : Array Value} {Z : State} (hw : ∀ d ∈ tables_1, d.before a0 Z = true) : (Jvm.Cond.laysFinal "com/example/sunder/sunder/SqlTokens$Token" "com/example/sunder/sunder/SqlTokens$Token" "line" "I").before a0 Z = true := hw _ (List.mem_of_getElem? (i := 57) rfl)
theorem tw_58 {a0 : Array Value} {Z : State} (hw : ∀ d ∈ tables_1, d.before a0 Z = true) : (Jvm.Cond.methodLink "com/example/sunder/sunder/TokenIsPinLaw" (33 : Nat) ({ cls := "com/example/sunder/sunder/SqlTokens$Token", name := "is", desc := "(Ljava/lang/String;)Z" } : Jvm.MethodName)).before a0 Z = true := hw _ (List.mem_of_getElem? (i := 58) rfl)
theorem tw_59 {a0 : Array Value} {Z : State} (hw : ∀ d ∈ tables_1, d.before a0 Z = true) : (Jvm.Cond.declares ({ cls := "com/example/sunder/sunder/SqlTokens$Token", name := "is", desc := "(Ljava/lang/String;)Z" } : Jvm.MethodName)).before a0 Z = true := hw _ (List.mem_of_getElem? (i := 59) rfl)
theorem tw_60 {a0 : Array Value} {Z : State} (hw : ∀ d ∈ tables_1, d.before a0 Z = true) : (Jvm.Cond.instanceMethod ({ cls := "com/example/sunder/sunder/SqlTokens$Token", name := "is", desc := "(Ljava/lang/String;)Z" } : Jvm.MethodName)).before a0 Z = true := hw _ (List.mem_of_getElem? (i := 60) rfl)
theorem tw_61 {a0 : Array Value} {Z : State} (hw : ∀ d ∈ tables_1, d.before a0 Z = true) : (Jvm.Cond.selects "com/example/sunder/sunder/SqlTokens$Token" ({ cls := "com/example/sunder/sunder/SqlTokens$Token", name := "is", desc := "(Ljava/lang/String;)Z" } : Jvm.MethodName) ({ cls := "com/example/sunder/sunder/SqlTokens$Token", name := "is", desc := "(Ljava/lang/String;)Z" } : Jvm.MethodName)).before a0 Z = true := hw _ (List.mem_of_getElem? (i := 61) rfl)
theorem tw_62 {a0 : Array Value} {Z : State} (hw : ∀ d ∈ tables_1, d.before a0 Z = true) : (Jvm.Cond.code ({ cls := "com/example/sunder/sunder/SqlTokens$Token", name := "is", desc := "(Ljava/lang/String;)Z" } : Jvm.MethodName) prog_18_method_2_code (2 : Nat) (Option.some Jvm.ClassFile.FieldType.boolean)).before a0 Z = true := hw _ (List.mem_of_getElem? (i := 62) rfl)
theorem tw_63 {a0 : Array Value} {Z : State} (hw : ∀ d ∈ tables_1, d.before a0 Z = true) : (Jvm.Cond.fieldLink "com/example/sunder/sunder/SqlTokens$Token" (21 : Nat) "com/example/sunder/sunder/SqlTokens$Kind" "WORD" "Lcom/example/sunder/sunder/SqlTokens$Kind;").before a0 Z = true := hw _ (List.mem_of_getElem? (i := 63) rfl)
theorem tw_64 {a0 : Array Value} {Z : State} (hw : ∀ d ∈ tables_1, d.before a0 Z = true) : (Jvm.Cond.methodLink "com/example/sunder/sunder/SqlTokens$Token" (26 : Nat) ({ cls := "com/example/sunder/sunder/SqlTokens", name := "fold", desc := "(Ljava/lang/String;)Ljava/lang/String;" } : Jvm.MethodName)).before a0 Z = true := hw _ (List.mem_of_getElem? (i := 64) rfl)
theorem tw_65 {a0 : Array Value} {Z : State} (hw : ∀ d ∈ tables_1, d.before a0 Z = true) : (Jvm.Cond.static ({ cls := "com/example/sunder/sunder/SqlTokens", name := "fold", desc := "(Ljava/lang/String;)Ljava/lang/String;" } : Jvm.MethodName)).before a0 Z = true := hw _ (List.mem_of_getElem? (i := 65) rfl)
theorem tw_66 {a0 : Array Value} {Z : State} (hw : ∀ d ∈ tables_1, d.before a0 Z = true) : (Jvm.Cond.initialized "com/example/sunder/sunder/SqlTokens").before a0 Z = true := hw _ (List.mem_of_getElem? (i := 66) rfl)
theorem tw_67 {a0 : Array Value} {Z : State} (hw : ∀ d ∈ tables_1, d.before a0 Z = true) : (Jvm.Cond.code ({ cls := "com/example/sunder/sunder/SqlTokens", name := "fold", desc := "(Ljava/lang/String;)Ljava/lang/String;" } : Jvm.MethodName) prog_16_method_2_code (4 : Nat) (Option.some (Jvm.ClassFile.FieldType.object "java/lang/String"))).before a0 Z = true := hw _ (List.mem_of_getElem? (i := 67) rfl)
theorem tw_68 {a0 : Array Value} {Z : State} (hw : ∀ d ∈ tables_1, d.before a0 Z = true) : (Jvm.Cond.classLink "com/example/sunder/sunder/SqlTokens" (35 : Nat) "java/lang/StringBuilder").before a0 Z = true := hw _ (List.mem_of_getElem? (i := 68) rfl)
theorem tw_69 {a0 : Array Value} {Z : State} (hw : ∀ d ∈ tables_1, d.before a0 Z = true) : (Jvm.Cond.instantiable "java/lang/StringBuilder" (4 : Nat)).before a0 Z = true := hw _ (List.mem_of_getElem? (i := 69) rfl)
theorem tw_70 {a0 : Array Value} {Z : State} (hw : ∀ d ∈ tables_1, d.before a0 Z = true) : (Jvm.Cond.initialized "java/lang/StringBuilder").before a0 Z = true := hw _ (List.mem_of_getElem? (i := 70) rfl)
theorem tw_71 {a0 : Array Value} {Z : State} (hw : ∀ d ∈ tables_1, d.before a0 Z = true) : (Jvm.Cond.methodLink "com/example/sunder/sunder/SqlTokens" (37 : Nat) ({ cls := "java/lang/String", name := "length", desc := "()I" } : Jvm.MethodName)).before a0 Z = true := hw _ (List.mem_of_getElem? (i := 71) rfl)
theorem tw_72 {a0 : Array Value} {Z : State} (hw : ∀ d ∈ tables_1, d.before a0 Z = true) : (Jvm.Cond.declares ({ cls := "java/lang/String", name := "length", desc := "()I" } : Jvm.MethodName)).before a0 Z = true := hw _ (List.mem_of_getElem? (i := 72) rfl)
theorem tw_73 {a0 : Array Value} {Z : State} (hw : ∀ d ∈ tables_1, d.before a0 Z = true) : (Jvm.Cond.instanceMethod ({ cls := "java/lang/String", name := "length", desc := "()I" } : Jvm.MethodName)).before a0 Z = true := hw _ (List.mem_of_getElem? (i := 73) rfl)
theorem tw_74 {a0 : Array Value} {Z : State} (hw : ∀ d ∈ tables_1, d.before a0 Z = true) : (Jvm.Cond.selects "java/lang/String" ({ cls := "java/lang/String", name := "length", desc := "()I" } : Jvm.MethodName) ({ cls := "java/lang/String", name := "length", desc := "()I" } : Jvm.MethodName)).before a0 Z = true := hw _ (List.mem_of_getElem? (i := 74) rfl)
theorem tw_75 {a0 : Array Value} {Z : State} (hw : ∀ d ∈ tables_1, d.before a0 Z = true) : (Jvm.Cond.code ({ cls := "java/lang/String", name := "length", desc := "()I" } : Jvm.MethodName) jdk_42_method_54_code (1 : Nat) (Option.some Jvm.ClassFile.FieldType.int)).before a0 Z = true := hw _ (List.mem_of_getElem? (i := 75) rfl)
theorem tw_76 {a0 : Array Value} {Z : State} (hw : ∀ d ∈ tables_1, d.before a0 Z = true) : (Jvm.Cond.methodLink "java/lang/String" (335 : Nat) ({ cls := "java/lang/String", name := "coder", desc := "()B" } : Jvm.MethodName)).before a0 Z = true := hw _ (List.mem_of_getElem? (i := 76) rfl)
theorem tw_77 {a0 : Array Value} {Z : State} (hw : ∀ d ∈ tables_1, d.before a0 Z = true) : (Jvm.Cond.declares ({ cls := "java/lang/String", name := "coder", desc := "()B" } : Jvm.MethodName)).before a0 Z = true := hw _ (List.mem_of_getElem? (i := 77) rfl)
theorem tw_78 {a0 : Array Value} {Z : State} (hw : ∀ d ∈ tables_1, d.before a0 Z = true) : (Jvm.Cond.instanceMethod ({ cls := "java/lang/String", name := "coder", desc := "()B" } : Jvm.MethodName)).before a0 Z = true := hw _ (List.mem_of_getElem? (i := 78) rfl)
theorem tw_79 {a0 : Array Value} {Z : State} (hw : ∀ d ∈ tables_1, d.before a0 Z = true) : (Jvm.Cond.selects "java/lang/String" ({ cls := "java/lang/String", name := "coder", desc := "()B" } : Jvm.MethodName) ({ cls := "java/lang/String", name := "coder", desc := "()B" } : Jvm.MethodName)).before a0 Z = true := hw _ (List.mem_of_getElem? (i := 79) rfl)
theorem tw_80 {a0 : Array Value} {Z : State} (hw : ∀ d ∈ tables_1, d.before a0 Z = true) : (Jvm.Cond.code ({ cls := "java/lang/String", name := "coder", desc := "()B" } : Jvm.MethodName) jdk_42_method_152_code (1 : Nat) (Option.some Jvm.ClassFile.FieldType.byte)).before a0 Z = true := hw _ (List.mem_of_getElem? (i := 80) rfl)
theorem tw_81 {a0 : Array Value} {Z : State} (hw : ∀ d ∈ tables_1, d.before a0 Z = true) : (Jvm.Cond.fieldLink "java/lang/String" (38 : Nat) "java/lang/String" "COMPACT_STRINGS" "Z").before a0 Z = true := hw _ (List.mem_of_getElem? (i := 81) rfl)
theorem tw_82 {a0 : Array Value} {Z : State} (hw : ∀ d ∈ tables_1, d.before a0 Z = true) : (Jvm.Cond.methodLink "com/example/sunder/sunder/SqlTokens" (41 : Nat) ({ cls := "java/lang/StringBuilder", name := "<init>", desc := "(I)V" } : Jvm.MethodName)).before a0 Z = true := hw _ (List.mem_of_getElem? (i := 82) rfl)
theorem tw_83 {a0 : Array Value} {Z : State} (hw : ∀ d ∈ tables_1, d.before a0 Z = true) : (Jvm.Cond.instanceMethod ({ cls := "java/lang/StringBuilder", name := "<init>", desc := "(I)V" } : Jvm.MethodName)).before a0 Z = true := hw _ (List.mem_of_getElem? (i := 83) rfl)
theorem tw_84 {a0 : Array Value} {Z : State} (hw : ∀ d ∈ tables_1, d.before a0 Z = true) : (Jvm.Cond.code ({ cls := "java/lang/StringBuilder", name := "<init>", desc := "(I)V" } : Jvm.MethodName) jdk_67_method_2_code (2 : Nat) (Option.none : Option Jvm.ClassFile.FieldType)).before a0 Z = true := hw _ (List.mem_of_getElem? (i := 84) rfl)
theorem tw_85 {a0 : Array Value} {Z : State} (hw : ∀ d ∈ tables_1, d.before a0 Z = true) : (Jvm.Cond.methodLink "java/lang/StringBuilder" (1 : Nat) ({ cls := "java/lang/AbstractStringBuilder", name := "<init>", desc := "(I)V" } : Jvm.MethodName)).before a0 Z = true := hw _ (List.mem_of_getElem? (i := 85) rfl)
theorem tw_86 {a0 : Array Value} {Z : State} (hw : ∀ d ∈ tables_1, d.before a0 Z = true) : (Jvm.Cond.instanceMethod ({ cls := "java/lang/AbstractStringBuilder", name := "<init>", desc := "(I)V" } : Jvm.MethodName)).before a0 Z = true := hw _ (List.mem_of_getElem? (i := 86) rfl)
theorem tw_89 {a0 : Array Value} {Z : State} (hw : ∀ d ∈ tables_1, d.before a0 Z = true) : (Jvm.Cond.initialized "java/lang/AbstractStringBuilder").before a0 Z = true := hw _ (List.mem_of_getElem? (i := 89) rfl)
theorem tw_90 {a0 : Array Value} {Z : State} (hw : ∀ d ∈ tables_1, d.before a0 Z = true) : (Jvm.Cond.code ({ cls := "java/lang/AbstractStringBuilder", name := "<init>", desc := "(I)V" } : Jvm.MethodName) jdk_68_method_2_code (2 : Nat) (Option.none : Option Jvm.ClassFile.FieldType)).before a0 Z = true := hw _ (List.mem_of_getElem? (i := 90) rfl)
theorem tw_91 {a0 : Array Value} {Z : State} (hw : ∀ d ∈ tables_1, d.before a0 Z = true) : (Jvm.Cond.methodLink "java/lang/AbstractStringBuilder" (3 : Nat) ({ cls := "java/lang/Object", name := "<init>", desc := "()V" } : Jvm.MethodName)).before a0 Z = true := hw _ (List.mem_of_getElem? (i := 91) rfl)
theorem tw_92 {a0 : Array Value} {Z : State} (hw : ∀ d ∈ tables_1, d.before a0 Z = true) : (Jvm.Cond.fieldLink "java/lang/AbstractStringBuilder" (18 : Nat) "java/lang/String" "COMPACT_STRINGS" "Z").before a0 Z = true := hw _ (List.mem_of_getElem? (i := 92) rfl)
theorem tw_93 {a0 : Array Value} {Z : State} (hw : ∀ d ∈ tables_1, d.before a0 Z = true) : (Jvm.Cond.fieldLink "java/lang/AbstractStringBuilder" (15 : Nat) "java/lang/AbstractStringBuilder" "value" "[B").before a0 Z = true := hw _ (List.mem_of_getElem? (i := 93) rfl)
theorem tw_94 {a0 : Array Value} {Z : State} (hw : ∀ d ∈ tables_1, d.before a0 Z = true) : (Jvm.Cond.lays "java/lang/StringBuilder" "java/lang/AbstractStringBuilder" "value" "[B").before a0 Z = true := hw _ (List.mem_of_getElem? (i := 94) rfl)
theorem tw_95 {a0 : Array Value} {Z : State} (hw : ∀ d ∈ tables_1, d.before a0 Z = true) : (Jvm.Cond.fieldLink "java/lang/AbstractStringBuilder" (22 : Nat) "java/lang/AbstractStringBuilder" "coder" "B").before a0 Z = true := hw _ (List.mem_of_getElem? (i := 95) rfl)
theorem tw_96 {a0 : Array Value} {Z : State} (hw : ∀ d ∈ tables_1, d.before a0 Z = true) : (Jvm.Cond.lays "java/lang/StringBuilder" "java/lang/AbstractStringBuilder" "coder" "B").before a0 Z = true := hw _ (List.mem_of_getElem? (i := 96) rfl)
theorem tw_97 {a0 : Array Value} {Z : State} (hw : ∀ d ∈ tables_1, d.before a0 Z = true) : (Jvm.Cond.methodLink "com/example/sunder/sunder/SqlTokens" (52 : Nat) ({ cls := "java/lang/StringBuilder", name := "toString", desc := "()Ljava/lang/String;" } : Jvm.MethodName)).before a0 Z = true := hw _ (List.mem_of_getElem? (i := 97) rfl)
theorem tw_98 {a0 : Array Value} {Z : State} (hw : ∀ d ∈ tables_1, d.before a0 Z = true) : (Jvm.Cond.declares ({ cls := "java/lang/StringBuilder", name := "toString", desc := "()Ljava/lang/String;" } : Jvm.MethodName)).before a0 Z = true := hw _ (List.mem_of_getElem? (i := 98) rfl)
theorem tw_99 {a0 : Array Value} {Z : State} (hw : ∀ d ∈ tables_1, d.before a0 Z = true) : (Jvm.Cond.instanceMethod ({ cls := "java/lang/StringBuilder", name := "toString", desc := "()Ljava/lang/String;" } : Jvm.MethodName)).before a0 Z = true := hw _ (List.mem_of_getElem? (i := 99) rfl)
theorem tw_100 {a0 : Array Value} {Z : State} (hw : ∀ d ∈ tables_1, d.before a0 Z = true) : (Jvm.Cond.selects "java/lang/StringBuilder" ({ cls := "java/lang/StringBuilder", name := "toString", desc := "()Ljava/lang/String;" } : Jvm.MethodName) ({ cls := "java/lang/StringBuilder", name := "toString", desc := "()Ljava/lang/String;" } : Jvm.MethodName)).before a0 Z = true := hw _ (List.mem_of_getElem? (i := 100) rfl)
theorem tw_101 {a0 : Array Value} {Z : State} (hw : ∀ d ∈ tables_1, d.before a0 Z = true) : (Jvm.Cond.code ({ cls := "java/lang/StringBuilder", name := "toString", desc := "()Ljava/lang/String;" } : Jvm.MethodName) jdk_67_method_42_code (1 : Nat) (Option.some (Jvm.ClassFile.FieldType.object "java/lang/String"))).before a0 Z = true := hw _ (List.mem_of_getElem? (i := 101) rfl)
theorem tw_102 {a0 : Array Value} {Z : State} (hw : ∀ d ∈ tables_1, d.before a0 Z = true) : (Jvm.Cond.classLink "java/lang/StringBuilder" (18 : Nat) "java/lang/String").before a0 Z = true := hw _ (List.mem_of_getElem? (i := 102) rfl)
theorem tw_103 {a0 : Array Value} {Z : State} (hw : ∀ d ∈ tables_1, d.before a0 Z = true) : (Jvm.Cond.methodLink "java/lang/StringBuilder" (137 : Nat) ({ cls := "java/lang/String", name := "<init>", desc := "(Ljava/lang/StringBuilder;)V" } : Jvm.MethodName)).before a0 Z = true := hw _ (List.mem_of_getElem? (i := 103) rfl)
theorem tw_104 {a0 : Array Value} {Z : State} (hw : ∀ d ∈ tables_1, d.before a0 Z = true) : (Jvm.Cond.instanceMethod ({ cls := "java/lang/String", name := "<init>", desc := "(Ljava/lang/StringBuilder;)V" } : Jvm.MethodName)).before a0 Z = true := hw _ (List.mem_of_getElem? (i := 104) rfl)
theorem tw_105 {a0 : Array Value} {Z : State} (hw : ∀ d ∈ tables_1, d.before a0 Z = true) : (Jvm.Cond.code ({ cls := "java/lang/String", name := "<init>", desc := "(Ljava/lang/StringBuilder;)V" } : Jvm.MethodName) jdk_42_method_53_code (2 : Nat) (Option.none : Option Jvm.ClassFile.FieldType)).before a0 Z = true := hw _ (List.mem_of_getElem? (i := 105) rfl)
theorem tw_106 {a0 : Array Value} {Z : State} (hw : ∀ d ∈ tables_1, d.before a0 Z = true) : (Jvm.Cond.methodLink "java/lang/String" (489 : Nat) ({ cls := "java/lang/String", name := "<init>", desc := "(Ljava/lang/AbstractStringBuilder;Ljava/lang/Void;)V" } : Jvm.MethodName)).before a0 Z = true := hw _ (List.mem_of_getElem? (i := 106) rfl)
theorem tw_107 {a0 : Array Value} {Z : State} (hw : ∀ d ∈ tables_1, d.before a0 Z = true) : (Jvm.Cond.instanceMethod ({ cls := "java/lang/String", name := "<init>", desc := "(Ljava/lang/AbstractStringBuilder;Ljava/lang/Void;)V" } : Jvm.MethodName)).before a0 Z = true := hw _ (List.mem_of_getElem? (i := 107) rfl)
theorem tw_108 {a0 : Array Value} {Z : State} (hw : ∀ d ∈ tables_1, d.before a0 Z = true) : (Jvm.Cond.code ({ cls := "java/lang/String", name := "<init>", desc := "(Ljava/lang/AbstractStringBuilder;Ljava/lang/Void;)V" } : Jvm.MethodName) jdk_42_method_150_code (5 : Nat) (Option.none : Option Jvm.ClassFile.FieldType)).before a0 Z = true := hw _ (List.mem_of_getElem? (i := 108) rfl)
theorem tw_109 {a0 : Array Value} {Z : State} (hw : ∀ d ∈ tables_1, d.before a0 Z = true) : (Jvm.Cond.methodLink "java/lang/String" (552 : Nat) ({ cls := "java/lang/AbstractStringBuilder", name := "getValue", desc := "()[B" } : Jvm.MethodName)).before a0 Z = true := hw _ (List.mem_of_getElem? (i := 109) rfl)
theorem tw_110 {a0 : Array Value} {Z : State} (hw : ∀ d ∈ tables_1, d.before a0 Z = true) : (Jvm.Cond.declares ({ cls := "java/lang/AbstractStringBuilder", name := "getValue", desc := "()[B" } : Jvm.MethodName)).before a0 Z = true := hw _ (List.mem_of_getElem? (i := 110) rfl)
theorem tw_111 {a0 : Array Value} {Z : State} (hw : ∀ d ∈ tables_1, d.before a0 Z = true) : (Jvm.Cond.instanceMethod ({ cls := "java/lang/AbstractStringBuilder", name := "getValue", desc := "()[B" } : Jvm.MethodName)).before a0 Z = true := hw _ (List.mem_of_getElem? (i := 111) rfl)
theorem tw_112 {a0 : Array Value} {Z : State} (hw : ∀ d ∈ tables_1, d.before a0 Z = true) : (Jvm.Cond.selects "java/lang/StringBuilder" ({ cls := "java/lang/AbstractStringBuilder", name := "getValue", desc := "()[B" } : Jvm.MethodName) ({ cls := "java/lang/AbstractStringBuilder", name := "getValue", desc := "()[B" } : Jvm.MethodName)).before a0 Z = true := hw _ (List.mem_of_getElem? (i := 112) rfl)
theorem tw_113 {a0 : Array Value} {Z : State} (hw : ∀ d ∈ tables_1, d.before a0 Z = true) : (Jvm.Cond.code ({ cls := "java/lang/AbstractStringBuilder", name := "getValue", desc := "()[B" } : Jvm.MethodName) jdk_68_method_64_code (1 : Nat) (Option.some (Jvm.ClassFile.FieldType.array Jvm.ClassFile.FieldType.byte))).before a0 Z = true := hw _ (List.mem_of_getElem? (i := 113) rfl)
theorem tw_114 {a0 : Array Value} {Z : State} (hw : ∀ d ∈ tables_1, d.before a0 Z = true) : (Jvm.Cond.methodLink "java/lang/String" (549 : Nat) ({ cls := "java/lang/AbstractStringBuilder", name := "length", desc := "()I" } : Jvm.MethodName)).before a0 Z = true := hw _ (List.mem_of_getElem? (i := 114) rfl)
theorem tw_115 {a0 : Array Value} {Z : State} (hw : ∀ d ∈ tables_1, d.before a0 Z = true) : (Jvm.Cond.declares ({ cls := "java/lang/AbstractStringBuilder", name := "length", desc := "()I" } : Jvm.MethodName)).before a0 Z = true := hw _ (List.mem_of_getElem? (i := 115) rfl)
theorem tw_116 {a0 : Array Value} {Z : State} (hw : ∀ d ∈ tables_1, d.before a0 Z = true) : (Jvm.Cond.instanceMethod ({ cls := "java/lang/AbstractStringBuilder", name := "length", desc := "()I" } : Jvm.MethodName)).before a0 Z = true := hw _ (List.mem_of_getElem? (i := 116) rfl)
theorem tw_117 {a0 : Array Value} {Z : State} (hw : ∀ d ∈ tables_1, d.before a0 Z = true) : (Jvm.Cond.selects "java/lang/StringBuilder" ({ cls := "java/lang/AbstractStringBuilder", name := "length", desc := "()I" } : Jvm.MethodName) ({ cls := "java/lang/StringBuilder", name := "length", desc := "()I" } : Jvm.MethodName)).before a0 Z = true := hw _ (List.mem_of_getElem? (i := 117) rfl)
theorem tw_118 {a0 : Array Value} {Z : State} (hw : ∀ d ∈ tables_1, d.before a0 Z = true) : (Jvm.Cond.instanceMethod ({ cls := "java/lang/StringBuilder", name := "length", desc := "()I" } : Jvm.MethodName)).before a0 Z = true := hw _ (List.mem_of_getElem? (i := 118) rfl)
theorem tw_119 {a0 : Array Value} {Z : State} (hw : ∀ d ∈ tables_1, d.before a0 Z = true) : (Jvm.Cond.code ({ cls := "java/lang/StringBuilder", name := "length", desc := "()I" } : Jvm.MethodName) jdk_67_method_93_code (1 : Nat) (Option.some Jvm.ClassFile.FieldType.int)).before a0 Z = true := hw _ (List.mem_of_getElem? (i := 119) rfl)
theorem tw_120 {a0 : Array Value} {Z : State} (hw : ∀ d ∈ tables_1, d.before a0 Z = true) : (Jvm.Cond.methodLink "java/lang/StringBuilder" (343 : Nat) ({ cls := "java/lang/AbstractStringBuilder", name := "length", desc := "()I" } : Jvm.MethodName)).before a0 Z = true := hw _ (List.mem_of_getElem? (i := 120) rfl)
theorem tw_121 {a0 : Array Value} {Z : State} (hw : ∀ d ∈ tables_1, d.before a0 Z = true) : (Jvm.Cond.superclass "java/lang/StringBuilder" "java/lang/AbstractStringBuilder").before a0 Z = true := hw _ (List.mem_of_getElem? (i := 121) rfl)
theorem tw_122 {a0 : Array Value} {Z : State} (hw : ∀ d ∈ tables_1, d.before a0 Z = true) : (Jvm.Cond.code ({ cls := "java/lang/AbstractStringBuilder", name := "length", desc := "()I" } : Jvm.MethodName) jdk_68_method_6_code (1 : Nat) (Option.some Jvm.ClassFile.FieldType.int)).before a0 Z = true := hw _ (List.mem_of_getElem? (i := 122) rfl)
theorem tw_123 {a0 : Array Value} {Z : State} (hw : ∀ d ∈ tables_1, d.before a0 Z = true) : (Jvm.Cond.fieldLink "java/lang/AbstractStringBuilder" (79 : Nat) "java/lang/AbstractStringBuilder" "count" "I").before a0 Z = true := hw _ (List.mem_of_getElem? (i := 123) rfl)
theorem tw_124 {a0 : Array Value} {Z : State} (hw : ∀ d ∈ tables_1, d.before a0 Z = true) : (Jvm.Cond.lays "java/lang/StringBuilder" "java/lang/AbstractStringBuilder" "count" "I").before a0 Z = true := hw _ (List.mem_of_getElem? (i := 124) rfl)
theorem tw_125 {a0 : Array Value} {Z : State} (hw : ∀ d ∈ tables_1, d.before a0 Z = true) : (Jvm.Cond.methodLink "java/lang/String" (1047 : Nat) ({ cls := "java/lang/AbstractStringBuilder", name := "isLatin1", desc := "()Z" } : Jvm.MethodName)).before a0 Z = true := hw _ (List.mem_of_getElem? (i := 125) rfl)
theorem tw_126 {a0 : Array Value} {Z : State} (hw : ∀ d ∈ tables_1, d.before a0 Z = true) : (Jvm.Cond.declares ({ cls := "java/lang/AbstractStringBuilder", name := "isLatin1", desc := "()Z" } : Jvm.MethodName)).before a0 Z = true := hw _ (List.mem_of_getElem? (i := 126) rfl)
theorem tw_127 {a0 : Array Value} {Z : State} (hw : ∀ d ∈ tables_1, d.before a0 Z = true) : (Jvm.Cond.instanceMethod ({ cls := "java/lang/AbstractStringBuilder", name := "isLatin1", desc := "()Z" } : Jvm.MethodName)).before a0 Z = true := hw _ (List.mem_of_getElem? (i := 127) rfl)
theorem tw_128 {a0 : Array Value} {Z : State} (hw : ∀ d ∈ tables_1, d.before a0 Z = true) : (Jvm.Cond.selects "java/lang/StringBuilder" ({ cls := "java/lang/AbstractStringBuilder", name := "isLatin1", desc := "()Z" } : Jvm.MethodName) ({ cls := "java/lang/AbstractStringBuilder", name := "isLatin1", desc := "()Z" } : Jvm.MethodName)).before a0 Z = true := hw _ (List.mem_of_getElem? (i := 128) rfl)
theorem tw_129 {a0 : Array Value} {Z : State} (hw : ∀ d ∈ tables_1, d.before a0 Z = true) : (Jvm.Cond.code ({ cls := "java/lang/AbstractStringBuilder", name := "isLatin1", desc := "()Z" } : Jvm.MethodName) jdk_68_method_68_code (1 : Nat) (Option.some Jvm.ClassFile.FieldType.boolean)).before a0 Z = true := hw _ (List.mem_of_getElem? (i := 129) rfl)
theorem tw_130 {a0 : Array Value} {Z : State} (hw : ∀ d ∈ tables_1, d.before a0 Z = true) : (Jvm.Cond.methodLink "java/lang/String" (54 : Nat) ({ cls := "java/util/Arrays", name := "copyOfRange", desc := "([BII)[B" } : Jvm.MethodName)).before a0 Z = true := hw _ (List.mem_of_getElem? (i := 130) rfl)
theorem tw_131 {a0 : Array Value} {Z : State} (hw : ∀ d ∈ tables_1, d.before a0 Z = true) : (Jvm.Cond.static ({ cls := "java/util/Arrays", name := "copyOfRange", desc := "([BII)[B" } : Jvm.MethodName)).before a0 Z = true := hw _ (List.mem_of_getElem? (i := 131) rfl)
theorem tw_132 {a0 : Array Value} {Z : State} (hw : ∀ d ∈ tables_1, d.before a0 Z = true) : (Jvm.Cond.initialized "java/util/Arrays").before a0 Z = true := hw _ (List.mem_of_getElem? (i := 132) rfl)
theorem tw_133 {a0 : Array Value} {Z : State} (hw : ∀ d ∈ tables_1, d.before a0 Z = true) : (Jvm.Cond.code ({ cls := "java/util/Arrays", name := "copyOfRange", desc := "([BII)[B" } : Jvm.MethodName) jdk_65_method_132_code (3 : Nat) (Option.some (Jvm.ClassFile.FieldType.array Jvm.ClassFile.FieldType.byte))).before a0 Z = true := hw _ (List.mem_of_getElem? (i := 133) rfl)
theorem tw_134 {a0 : Array Value} {Z : State} (hw : ∀ d ∈ tables_1, d.before a0 Z = true) : (Jvm.Cond.methodLink "java/util/Arrays" (310 : Nat) ({ cls := "[B", name := "clone", desc := "()Ljava/lang/Object;" } : Jvm.MethodName)).before a0 Z = true := hw _ (List.mem_of_getElem? (i := 134) rfl)
theorem tw_135 {a0 : Array Value} {Z : State} (hw : ∀ d ∈ tables_1, d.before a0 Z = true) : (Jvm.Cond.sameMethod "[B" "java/lang/Object" "clone" "()Ljava/lang/Object;").before a0 Z = true := hw _ (List.mem_of_getElem? (i := 135) rfl)
theorem tw_137 {a0 : Array Value} {Z : State} (hw : ∀ d ∈ tables_1, d.before a0 Z = true) : (Jvm.Cond.instanceMethod ({ cls := "java/lang/Object", name := "clone", desc := "()Ljava/lang/Object;" } : Jvm.MethodName)).before a0 Z = true := hw _ (List.mem_of_getElem? (i := 137) rfl)
theorem tw_138 {a0 : Array Value} {Z : State} (hw : ∀ d ∈ tables_1, d.before a0 Z = true) : (Jvm.Cond.selects "[B" ({ cls := "[B", name := "clone", desc := "()Ljava/lang/Object;" } : Jvm.MethodName) ({ cls := "java/lang/Object", name := "clone", desc := "()Ljava/lang/Object;" } : Jvm.MethodName)).before a0 Z = true := hw _ (List.mem_of_getElem? (i := 138) rfl)
theorem tw_139 {a0 : Array Value} {Z : State} (hw : ∀ d ∈ tables_1, d.before a0 Z = true) : (Jvm.Cond.native ({ cls := "java/lang/Object", name := "clone", desc := "()Ljava/lang/Object;" } : Jvm.MethodName)).before a0 Z = true := hw _ (List.mem_of_getElem? (i := 139) rfl)
theorem tw_140 {a0 : Array Value} {Z : State} (hw : ∀ d ∈ tables_1, d.before a0 Z = true) : (Jvm.Cond.castable "[B" "java/lang/Cloneable").before a0 Z = true := hw _ (List.mem_of_getElem? (i := 140) rfl)
theorem tw_141 {a0 : Array Value} {Z : State} (hw : ∀ d ∈ tables_1, d.before a0 Z = true) : (Jvm.Cond.classLink "java/util/Arrays" (311 : Nat) "[B").before a0 Z = true := hw _ (List.mem_of_getElem? (i := 141) rfl)
theorem tw_143 {a0 : Array Value} {Z : State} (hw : ∀ d ∈ tables_1, d.before a0 Z = true) : (Jvm.Cond.methodLink "com/example/sunder/sunder/SqlTokens$Token" (32 : Nat) ({ cls := "java/lang/String", name := "equals", desc := "(Ljava/lang/Object;)Z" } : Jvm.MethodName)).before a0 Z = true := hw _ (List.mem_of_getElem? (i := 143) rfl)
theorem tw_144 {a0 : Array Value} {Z : State} (hw : ∀ d ∈ tables_1, d.before a0 Z = true) : (Jvm.Cond.declares ({ cls := "java/lang/String", name := "equals", desc := "(Ljava/lang/Object;)Z" } : Jvm.MethodName)).before a0 Z = true := hw _ (List.mem_of_getElem? (i := 144) rfl)
theorem tw_145 {a0 : Array Value} {Z : State} (hw : ∀ d ∈ tables_1, d.before a0 Z = true) : (Jvm.Cond.instanceMethod ({ cls := "java/lang/String", name := "equals", desc := "(Ljava/lang/Object;)Z" } : Jvm.MethodName)).before a0 Z = true := hw _ (List.mem_of_getElem? (i := 145) rfl)
theorem tw_146 {a0 : Array Value} {Z : State} (hw : ∀ d ∈ tables_1, d.before a0 Z = true) : (Jvm.Cond.selects "java/lang/String" ({ cls := "java/lang/String", name := "equals", desc := "(Ljava/lang/Object;)Z" } : Jvm.MethodName) ({ cls := "java/lang/String", name := "equals", desc := "(Ljava/lang/Object;)Z" } : Jvm.MethodName)).before a0 Z = true := hw _ (List.mem_of_getElem? (i := 146) rfl)
theorem tw_147 {a0 : Array Value} {Z : State} (hw : ∀ d ∈ tables_1, d.before a0 Z = true) : (Jvm.Cond.code ({ cls := "java/lang/String", name := "equals", desc := "(Ljava/lang/Object;)Z" } : Jvm.MethodName) jdk_42_method_66_code (3 : Nat) (Option.some Jvm.ClassFile.FieldType.boolean)).before a0 Z = true := hw _ (List.mem_of_getElem? (i := 147) rfl)
theorem tw_148 {a0 : Array Value} {Z : State} (hw : ∀ d ∈ tables_1, d.before a0 Z = true) : (Jvm.Cond.classLink "java/lang/String" (10 : Nat) "java/lang/String").before a0 Z = true := hw _ (List.mem_of_getElem? (i := 148) rfl)
theorem tw_149 {a0 : Array Value} {Z : State} (hw : ∀ d ∈ tables_1, d.before a0 Z = true) : (Jvm.Cond.methodLink "java/lang/String" (541 : Nat) ({ cls := "java/lang/StringLatin1", name := "equals", desc := "([B[B)Z" } : Jvm.MethodName)).before a0 Z = true := hw _ (List.mem_of_getElem? (i := 149) rfl)
theorem tw_150 {a0 : Array Value} {Z : State} (hw : ∀ d ∈ tables_1, d.before a0 Z = true) : (Jvm.Cond.static ({ cls := "java/lang/StringLatin1", name := "equals", desc := "([B[B)Z" } : Jvm.MethodName)).before a0 Z = true := hw _ (List.mem_of_getElem? (i := 150) rfl)
theorem tw_151 {a0 : Array Value} {Z : State} (hw : ∀ d ∈ tables_1, d.before a0 Z = true) : (Jvm.Cond.initialized "java/lang/StringLatin1").before a0 Z = true := hw _ (List.mem_of_getElem? (i := 151) rfl)
theorem tw_152 {a0 : Array Value} {Z : State} (hw : ∀ d ∈ tables_1, d.before a0 Z = true) : (Jvm.Cond.code ({ cls := "java/lang/StringLatin1", name := "equals", desc := "([B[B)Z" } : Jvm.MethodName) jdk_43_method_13_code (3 : Nat) (Option.some Jvm.ClassFile.FieldType.boolean)).before a0 Z = true := hw _ (List.mem_of_getElem? (i := 152) rfl)
theorem tw_153 {a0 : Array Value} {Z : State} (hw : ∀ d ∈ tables_1, d.before a0 Z = true) : (Jvm.Cond.fieldLink "com/example/sunder/sunder/TokenIsPinLaw" (56 : Nat) "com/example/sunder/sunder/SqlTokens$Kind" "NUMBER" "Lcom/example/sunder/sunder/SqlTokens$Kind;").before a0 Z = true := hw _ (List.mem_of_getElem? (i := 153) rfl)
theorem tw_154 {a0 : Array Value} {Z : State} (hw : ∀ d ∈ tables_1, d.before a0 Z = true) : (Jvm.Cond.laysStatic "com/example/sunder/sunder/SqlTokens$Kind" "NUMBER" "Lcom/example/sunder/sunder/SqlTokens$Kind;").before a0 Z = true := hw _ (List.mem_of_getElem? (i := 154) rfl)
theorem tw_155 {a0 : Array Value} {Z : State} (hw : ∀ d ∈ tables_1, d.before a0 Z = true) : (Jvm.Cond.methodLink "com/example/sunder/sunder/TokenIsPinLaw" (70 : Nat) ({ cls := "java/lang/String", name := "valueOf", desc := "(C)Ljava/lang/String;" } : Jvm.MethodName)).before a0 Z = true := hw _ (List.mem_of_getElem? (i := 155) rfl)
theorem tw_156 {a0 : Array Value} {Z : State} (hw : ∀ d ∈ tables_1, d.before a0 Z = true) : (Jvm.Cond.static ({ cls := "java/lang/String", name := "valueOf", desc := "(C)Ljava/lang/String;" } : Jvm.MethodName)).before a0 Z = true := hw _ (List.mem_of_getElem? (i := 156) rfl)
theorem tw_157 {a0 : Array Value} {Z : State} (hw : ∀ d ∈ tables_1, d.before a0 Z = true) : (Jvm.Cond.code ({ cls := "java/lang/String", name := "valueOf", desc := "(C)Ljava/lang/String;" } : Jvm.MethodName) jdk_42_method_139_code (1 : Nat) (Option.some (Jvm.ClassFile.FieldType.object "java/lang/String"))).before a0 Z = true := hw _ (List.mem_of_getElem? (i := 157) rfl)
theorem tw_158 {a0 : Array Value} {Z : State} (hw : ∀ d ∈ tables_1, d.before a0 Z = true) : (Jvm.Cond.methodLink "java/lang/String" (1015 : Nat) ({ cls := "java/lang/StringLatin1", name := "canEncode", desc := "(C)Z" } : Jvm.MethodName)).before a0 Z = true := hw _ (List.mem_of_getElem? (i := 158) rfl)
theorem tw_159 {a0 : Array Value} {Z : State} (hw : ∀ d ∈ tables_1, d.before a0 Z = true) : (Jvm.Cond.static ({ cls := "java/lang/StringLatin1", name := "canEncode", desc := "(C)Z" } : Jvm.MethodName)).before a0 Z = true := hw _ (List.mem_of_getElem? (i := 159) rfl)
theorem tw_160 {a0 : Array Value} {Z : State} (hw : ∀ d ∈ tables_1, d.before a0 Z = true) : (Jvm.Cond.code ({ cls := "java/lang/StringLatin1", name := "canEncode", desc := "(C)Z" } : Jvm.MethodName) jdk_43_method_3_code (1 : Nat) (Option.some Jvm.ClassFile.FieldType.boolean)).before a0 Z = true := hw _ (List.mem_of_getElem? (i := 160) rfl)
theorem tw_161 {a0 : Array Value} {Z : State} (hw : ∀ d ∈ tables_1, d.before a0 Z = true) : (Jvm.Cond.methodLink "java/lang/String" (1018 : Nat) ({ cls := "java/lang/StringLatin1", name := "toBytes", desc := "(C)[B" } : Jvm.MethodName)).before a0 Z = true := hw _ (List.mem_of_getElem? (i := 161) rfl)
theorem tw_162 {a0 : Array Value} {Z : State} (hw : ∀ d ∈ tables_1, d.before a0 Z = true) : (Jvm.Cond.static ({ cls := "java/lang/StringLatin1", name := "toBytes", desc := "(C)[B" } : Jvm.MethodName)).before a0 Z = true := hw _ (List.mem_of_getElem? (i := 162) rfl)
theorem tw_163 {a0 : Array Value} {Z : State} (hw : ∀ d ∈ tables_1, d.before a0 Z = true) : (Jvm.Cond.code ({ cls := "java/lang/StringLatin1", name := "toBytes", desc := "(C)[B" } : Jvm.MethodName) jdk_43_method_46_code (1 : Nat) (Option.some (Jvm.ClassFile.FieldType.array Jvm.ClassFile.FieldType.byte))).before a0 Z = true := hw _ (List.mem_of_getElem? (i := 163) rfl)
theorem tw_164 {a0 : Array Value} {Z : State} (hw : ∀ d ∈ tables_1, d.before a0 Z = true) : (Jvm.Cond.methodLink "java/lang/String" (209 : Nat) ({ cls := "java/lang/String", name := "<init>", desc := "([BB)V" } : Jvm.MethodName)).before a0 Z = true := hw _ (List.mem_of_getElem? (i := 164) rfl)
theorem tw_165 {a0 : Array Value} {Z : State} (hw : ∀ d ∈ tables_1, d.before a0 Z = true) : (Jvm.Cond.instanceMethod ({ cls := "java/lang/String", name := "<init>", desc := "([BB)V" } : Jvm.MethodName)).before a0 Z = true := hw _ (List.mem_of_getElem? (i := 165) rfl)
theorem tw_166 {a0 : Array Value} {Z : State} (hw : ∀ d ∈ tables_1, d.before a0 Z = true) : (Jvm.Cond.code ({ cls := "java/lang/String", name := "<init>", desc := "([BB)V" } : Jvm.MethodName) jdk_42_method_151_code (3 : Nat) (Option.none : Option Jvm.ClassFile.FieldType)).before a0 Z = true := hw _ (List.mem_of_getElem? (i := 166) rfl)
theorem tw_167 {a0 : Array Value} {Z : State} (hw : ∀ d ∈ tables_1, d.before a0 Z = true) : (Jvm.Cond.methodLink "com/example/sunder/sunder/SqlTokens" (44 : Nat) ({ cls := "java/lang/String", name := "charAt", desc := "(I)C" } : Jvm.MethodName)).before a0 Z = true := hw _ (List.mem_of_getElem? (i := 167) rfl)
theorem tw_168 {a0 : Array Value} {Z : State} (hw : ∀ d ∈ tables_1, d.before a0 Z = true) : (Jvm.Cond.declares ({ cls := "java/lang/String", name := "charAt", desc := "(I)C" } : Jvm.MethodName)).before a0 Z = true := hw _ (List.mem_of_getElem? (i := 168) rfl)
theorem tw_169 {a0 : Array Value} {Z : State} (hw : ∀ d ∈ tables_1, d.before a0 Z = true) : (Jvm.Cond.instanceMethod ({ cls := "java/lang/String", name := "charAt", desc := "(I)C" } : Jvm.MethodName)).before a0 Z = true := hw _ (List.mem_of_getElem? (i := 169) rfl)
theorem tw_170 {a0 : Array Value} {Z : State} (hw : ∀ d ∈ tables_1, d.before a0 Z = true) : (Jvm.Cond.selects "java/lang/String" ({ cls := "java/lang/String", name := "charAt", desc := "(I)C" } : Jvm.MethodName) ({ cls := "java/lang/String", name := "charAt", desc := "(I)C" } : Jvm.MethodName)).before a0 Z = true := hw _ (List.mem_of_getElem? (i := 170) rfl)
theorem tw_171 {a0 : Array Value} {Z : State} (hw : ∀ d ∈ tables_1, d.before a0 Z = true) : (Jvm.Cond.code ({ cls := "java/lang/String", name := "charAt", desc := "(I)C" } : Jvm.MethodName) jdk_42_method_56_code (2 : Nat) (Option.some Jvm.ClassFile.FieldType.char)).before a0 Z = true := hw _ (List.mem_of_getElem? (i := 171) rfl)
theorem tw_172 {a0 : Array Value} {Z : State} (hw : ∀ d ∈ tables_1, d.before a0 Z = true) : (Jvm.Cond.methodLink "java/lang/String" (492 : Nat) ({ cls := "java/lang/String", name := "isLatin1", desc := "()Z" } : Jvm.MethodName)).before a0 Z = true := hw _ (List.mem_of_getElem? (i := 172) rfl)
theorem tw_173 {a0 : Array Value} {Z : State} (hw : ∀ d ∈ tables_1, d.before a0 Z = true) : (Jvm.Cond.declares ({ cls := "java/lang/String", name := "isLatin1", desc := "()Z" } : Jvm.MethodName)).before a0 Z = true := hw _ (List.mem_of_getElem? (i := 173) rfl)
theorem tw_174 {a0 : Array Value} {Z : State} (hw : ∀ d ∈ tables_1, d.before a0 Z = true) : (Jvm.Cond.instanceMethod ({ cls := "java/lang/String", name := "isLatin1", desc := "()Z" } : Jvm.MethodName)).before a0 Z = true := hw _ (List.mem_of_getElem? (i := 174) rfl)
theorem tw_175 {a0 : Array Value} {Z : State} (hw : ∀ d ∈ tables_1, d.before a0 Z = true) : (Jvm.Cond.selects "java/lang/String" ({ cls := "java/lang/String", name := "isLatin1", desc := "()Z" } : Jvm.MethodName) ({ cls := "java/lang/String", name := "isLatin1", desc := "()Z" } : Jvm.MethodName)).before a0 Z = true := hw _ (List.mem_of_getElem? (i := 175) rfl)
theorem tw_176 {a0 : Array Value} {Z : State} (hw : ∀ d ∈ tables_1, d.before a0 Z = true) : (Jvm.Cond.code ({ cls := "java/lang/String", name := "isLatin1", desc := "()Z" } : Jvm.MethodName) jdk_42_method_154_code (1 : Nat) (Option.some Jvm.ClassFile.FieldType.boolean)).before a0 Z = true := hw _ (List.mem_of_getElem? (i := 176) rfl)
theorem tw_177 {a0 : Array Value} {Z : State} (hw : ∀ d ∈ tables_1, d.before a0 Z = true) : (Jvm.Cond.methodLink "java/lang/String" (495 : Nat) ({ cls := "java/lang/StringLatin1", name := "charAt", desc := "([BI)C" } : Jvm.MethodName)).before a0 Z = true := hw _ (List.mem_of_getElem? (i := 177) rfl)
theorem tw_178 {a0 : Array Value} {Z : State} (hw : ∀ d ∈ tables_1, d.before a0 Z = true) : (Jvm.Cond.static ({ cls := "java/lang/StringLatin1", name := "charAt", desc := "([BI)C" } : Jvm.MethodName)).before a0 Z = true := hw _ (List.mem_of_getElem? (i := 178) rfl)
theorem tw_179 {a0 : Array Value} {Z : State} (hw : ∀ d ∈ tables_1, d.before a0 Z = true) : (Jvm.Cond.code ({ cls := "java/lang/StringLatin1", name := "charAt", desc := "([BI)C" } : Jvm.MethodName) jdk_43_method_2_code (2 : Nat) (Option.some Jvm.ClassFile.FieldType.char)).before a0 Z = true := hw _ (List.mem_of_getElem? (i := 179) rfl)
theorem tw_180 {a0 : Array Value} {Z : State} (hw : ∀ d ∈ tables_1, d.before a0 Z = true) : (Jvm.Cond.methodLink "java/lang/StringLatin1" (9 : Nat) ({ cls := "java/lang/String", name := "checkIndex", desc := "(II)V" } : Jvm.MethodName)).before a0 Z = true := hw _ (List.mem_of_getElem? (i := 180) rfl)
theorem tw_181 {a0 : Array Value} {Z : State} (hw : ∀ d ∈ tables_1, d.before a0 Z = true) : (Jvm.Cond.static ({ cls := "java/lang/String", name := "checkIndex", desc := "(II)V" } : Jvm.MethodName)).before a0 Z = true := hw _ (List.mem_of_getElem? (i := 181) rfl)
theorem tw_182 {a0 : Array Value} {Z : State} (hw : ∀ d ∈ tables_1, d.before a0 Z = true) : (Jvm.Cond.code ({ cls := "java/lang/String", name := "checkIndex", desc := "(II)V" } : Jvm.MethodName) jdk_42_method_155_code (2 : Nat) (Option.none : Option Jvm.ClassFile.FieldType)).before a0 Z = true := hw _ (List.mem_of_getElem? (i := 182) rfl)
theorem tw_183 {a0 : Array Value} {Z : State} (hw : ∀ d ∈ tables_1, d.before a0 Z = true) : (Jvm.Cond.fieldLink "java/lang/String" (1053 : Nat) "jdk/internal/util/Preconditions" "SIOOBE_FORMATTER" "Ljava/util/function/BiFunction;").before a0 Z = true := hw _ (List.mem_of_getElem? (i := 183) rfl)
theorem tw_184 {a0 : Array Value} {Z : State} (hw : ∀ d ∈ tables_1, d.before a0 Z = true) : (Jvm.Cond.initialized "jdk/internal/util/Preconditions").before a0 Z = true := hw _ (List.mem_of_getElem? (i := 184) rfl)
theorem tw_185 {a0 : Array Value} {Z : State} (hw : ∀ d ∈ tables_1, d.before a0 Z = true) : (Jvm.Cond.methodLink "java/lang/String" (1059 : Nat) ({ cls := "jdk/internal/util/Preconditions", name := "checkIndex", desc := "(IILjava/util/function/BiFunction;)I" } : Jvm.MethodName)).before a0 Z = true := hw _ (List.mem_of_getElem? (i := 185) rfl)
theorem tw_186 {a0 : Array Value} {Z : State} (hw : ∀ d ∈ tables_1, d.before a0 Z = true) : (Jvm.Cond.static ({ cls := "jdk/internal/util/Preconditions", name := "checkIndex", desc := "(IILjava/util/function/BiFunction;)I" } : Jvm.MethodName)).before a0 Z = true := hw _ (List.mem_of_getElem? (i := 186) rfl)
theorem tw_187 {a0 : Array Value} {Z : State} (hw : ∀ d ∈ tables_1, d.before a0 Z = true) : (Jvm.Cond.code ({ cls := "jdk/internal/util/Preconditions", name := "checkIndex", desc := "(IILjava/util/function/BiFunction;)I" } : Jvm.MethodName) jdk_41_method_11_code (3 : Nat) (Option.some Jvm.ClassFile.FieldType.int)).before a0 Z = true := hw _ (List.mem_of_getElem? (i := 187) rfl)
theorem tw_188 {a0 : Array Value} {Z : State} (hw : ∀ d ∈ tables_1, d.before a0 Z = true) : (Jvm.Cond.methodLink "com/example/sunder/sunder/SqlTokens" (48 : Nat) ({ cls := "java/lang/StringBuilder", name := "append", desc := "(C)Ljava/lang/StringBuilder;" } : Jvm.MethodName)).before a0 Z = true := hw _ (List.mem_of_getElem? (i := 188) rfl)
theorem tw_189 {a0 : Array Value} {Z : State} (hw : ∀ d ∈ tables_1, d.before a0 Z = true) : (Jvm.Cond.declares ({ cls := "java/lang/StringBuilder", name := "append", desc := "(C)Ljava/lang/StringBuilder;" } : Jvm.MethodName)).before a0 Z = true := hw _ (List.mem_of_getElem? (i := 189) rfl)
theorem tw_190 {a0 : Array Value} {Z : State} (hw : ∀ d ∈ tables_1, d.before a0 Z = true) : (Jvm.Cond.instanceMethod ({ cls := "java/lang/StringBuilder", name := "append", desc := "(C)Ljava/lang/StringBuilder;" } : Jvm.MethodName)).before a0 Z = true := hw _ (List.mem_of_getElem? (i := 190) rfl)
theorem tw_191 {a0 : Array Value} {Z : State} (hw : ∀ d ∈ tables_1, d.before a0 Z = true) : (Jvm.Cond.selects "java/lang/StringBuilder" ({ cls := "java/lang/StringBuilder", name := "append", desc := "(C)Ljava/lang/StringBuilder;" } : Jvm.MethodName) ({ cls := "java/lang/StringBuilder", name := "append", desc := "(C)Ljava/lang/StringBuilder;" } : Jvm.MethodName)).before a0 Z = true := hw _ (List.mem_of_getElem? (i := 191) rfl)
theorem tw_192 {a0 : Array Value} {Z : State} (hw : ∀ d ∈ tables_1, d.before a0 Z = true) : (Jvm.Cond.code ({ cls := "java/lang/StringBuilder", name := "append", desc := "(C)Ljava/lang/StringBuilder;" } : Jvm.MethodName) jdk_67_method_14_code (2 : Nat) (Option.some (Jvm.ClassFile.FieldType.object "java/lang/StringBuilder"))).before a0 Z = true := hw _ (List.mem_of_getElem? (i := 192) rfl)
theorem tw_193 {a0 : Array Value} {Z : State} (hw : ∀ d ∈ tables_1, d.before a0 Z = true) : (Jvm.Cond.methodLink "java/lang/StringBuilder" (50 : Nat) ({ cls := "java/lang/AbstractStringBuilder", name := "append", desc := "(C)Ljava/lang/AbstractStringBuilder;" } : Jvm.MethodName)).before a0 Z = true := hw _ (List.mem_of_getElem? (i := 193) rfl)
theorem tw_194 {a0 : Array Value} {Z : State} (hw : ∀ d ∈ tables_1, d.before a0 Z = true) : (Jvm.Cond.instanceMethod ({ cls := "java/lang/AbstractStringBuilder", name := "append", desc := "(C)Ljava/lang/AbstractStringBuilder;" } : Jvm.MethodName)).before a0 Z = true := hw _ (List.mem_of_getElem? (i := 194) rfl)
theorem tw_196 {a0 : Array Value} {Z : State} (hw : ∀ d ∈ tables_1, d.before a0 Z = true) : (Jvm.Cond.code ({ cls := "java/lang/AbstractStringBuilder", name := "append", desc := "(C)Ljava/lang/AbstractStringBuilder;" } : Jvm.MethodName) jdk_68_method_31_code (2 : Nat) (Option.some (Jvm.ClassFile.FieldType.object "java/lang/AbstractStringBuilder"))).before a0 Z = true := hw _ (List.mem_of_getElem? (i := 196) rfl)
theorem tw_197 {a0 : Array Value} {Z : State} (hw : ∀ d ∈ tables_1, d.before a0 Z = true) : (Jvm.Cond.methodLink "java/lang/AbstractStringBuilder" (100 : Nat) ({ cls := "java/lang/AbstractStringBuilder", name := "ensureCapacityInternal", desc := "(I)V" } : Jvm.MethodName)).before a0 Z = true := hw _ (List.mem_of_getElem? (i := 197) rfl)
theorem tw_198 {a0 : Array Value} {Z : State} (hw : ∀ d ∈ tables_1, d.before a0 Z = true) : (Jvm.Cond.instanceMethod ({ cls := "java/lang/AbstractStringBuilder", name := "ensureCapacityInternal", desc := "(I)V" } : Jvm.MethodName)).before a0 Z = true := hw _ (List.mem_of_getElem? (i := 198) rfl)
theorem tw_200 {a0 : Array Value} {Z : State} (hw : ∀ d ∈ tables_1, d.before a0 Z = true) : (Jvm.Cond.selects "java/lang/StringBuilder" ({ cls := "java/lang/AbstractStringBuilder", name := "ensureCapacityInternal", desc := "(I)V" } : Jvm.MethodName) ({ cls := "java/lang/AbstractStringBuilder", name := "ensureCapacityInternal", desc := "(I)V" } : Jvm.MethodName)).before a0 Z = true := hw _ (List.mem_of_getElem? (i := 200) rfl)
theorem tw_201 {a0 : Array Value} {Z : State} (hw : ∀ d ∈ tables_1, d.before a0 Z = true) : (Jvm.Cond.code ({ cls := "java/lang/AbstractStringBuilder", name := "ensureCapacityInternal", desc := "(I)V" } : Jvm.MethodName) jdk_68_method_9_code (3 : Nat) (Option.none : Option Jvm.ClassFile.FieldType)).before a0 Z = true := hw _ (List.mem_of_getElem? (i := 201) rfl)
theorem tw_202 {a0 : Array Value} {Z : State} (hw : ∀ d ∈ tables_1, d.before a0 Z = true) : (Jvm.Cond.methodLink "java/lang/AbstractStringBuilder" (83 : Nat) ({ cls := "java/lang/AbstractStringBuilder", name := "isLatin1", desc := "()Z" } : Jvm.MethodName)).before a0 Z = true := hw _ (List.mem_of_getElem? (i := 202) rfl)
theorem tw_203 {a0 : Array Value} {Z : State} (hw : ∀ d ∈ tables_1, d.before a0 Z = true) : (Jvm.Cond.methodLink "java/lang/AbstractStringBuilder" (191 : Nat) ({ cls := "java/lang/StringLatin1", name := "canEncode", desc := "(C)Z" } : Jvm.MethodName)).before a0 Z = true := hw _ (List.mem_of_getElem? (i := 203) rfl)
theorem tw_204 {a0 : Array Value} {Z : State} (hw : ∀ d ∈ tables_1, d.before a0 Z = true) : (Jvm.Cond.methodLink "com/example/sunder/sunder/TokenIsPinLaw" (43 : Nat) ({ cls := "com/example/sunder/sunder/TokenIsPinLaw", name := "lower", desc := "(C)I" } : Jvm.MethodName)).before a0 Z = true := hw _ (List.mem_of_getElem? (i := 204) rfl)
theorem tw_205 {a0 : Array Value} {Z : State} (hw : ∀ d ∈ tables_1, d.before a0 Z = true) : (Jvm.Cond.static ({ cls := "com/example/sunder/sunder/TokenIsPinLaw", name := "lower", desc := "(C)I" } : Jvm.MethodName)).before a0 Z = true := hw _ (List.mem_of_getElem? (i := 205) rfl)
theorem tw_206 {a0 : Array Value} {Z : State} (hw : ∀ d ∈ tables_1, d.before a0 Z = true) : (Jvm.Cond.code ({ cls := "com/example/sunder/sunder/TokenIsPinLaw", name := "lower", desc := "(C)I" } : Jvm.MethodName) method_6_code (1 : Nat) (Option.some Jvm.ClassFile.FieldType.int)).before a0 Z = true := hw _ (List.mem_of_getElem? (i := 206) rfl)
theorem tw_207 {a0 : Array Value} {Z : State} (hw : ∀ d ∈ tables_1, d.before a0 Z = true) : (Jvm.Cond.fieldLink "com/example/sunder/sunder/TokenIsPinLaw" (50 : Nat) "com/example/sunder/sunder/SqlTokens$Kind" "STRING" "Lcom/example/sunder/sunder/SqlTokens$Kind;").before a0 Z = true := hw _ (List.mem_of_getElem? (i := 207) rfl)
theorem tw_208 {a0 : Array Value} {Z : State} (hw : ∀ d ∈ tables_1, d.before a0 Z = true) : (Jvm.Cond.laysStatic "com/example/sunder/sunder/SqlTokens$Kind" "STRING" "Lcom/example/sunder/sunder/SqlTokens$Kind;").before a0 Z = true := hw _ (List.mem_of_getElem? (i := 208) rfl)
theorem tw_209 {a0 : Array Value} {Z : State} (hw : ∀ d ∈ tables_1, d.before a0 Z = true) : (Jvm.Cond.methodLink "java/lang/String" (177 : Nat) ({ cls := "java/lang/StringUTF16", name := "compress", desc := "([CII)[B" } : Jvm.MethodName)).before a0 Z = true := hw _ (List.mem_of_getElem? (i := 209) rfl)
theorem tw_210 {a0 : Array Value} {Z : State} (hw : ∀ d ∈ tables_1, d.before a0 Z = true) : (Jvm.Cond.static ({ cls := "java/lang/StringUTF16", name := "compress", desc := "([CII)[B" } : Jvm.MethodName)).before a0 Z = true := hw _ (List.mem_of_getElem? (i := 210) rfl)
theorem tw_211 {a0 : Array Value} {Z : State} (hw : ∀ d ∈ tables_1, d.before a0 Z = true) : (Jvm.Cond.initialized "java/lang/StringUTF16").before a0 Z = true := hw _ (List.mem_of_getElem? (i := 211) rfl)
theorem tw_212 {a0 : Array Value} {Z : State} (hw : ∀ d ∈ tables_1, d.before a0 Z = true) : (Jvm.Cond.code ({ cls := "java/lang/StringUTF16", name := "compress", desc := "([CII)[B" } : Jvm.MethodName) jdk_52_method_16_code (6 : Nat) (Option.some (Jvm.ClassFile.FieldType.array Jvm.ClassFile.FieldType.byte))).before a0 Z = true := hw _ (List.mem_of_getElem? (i := 212) rfl)
theorem tw_213 {a0 : Array Value} {Z : State} (hw : ∀ d ∈ tables_1, d.before a0 Z = true) : (Jvm.Cond.methodLink "java/lang/StringUTF16" (115 : Nat) ({ cls := "java/lang/StringUTF16", name := "compress", desc := "([CI[BII)I" } : Jvm.MethodName)).before a0 Z = true := hw _ (List.mem_of_getElem? (i := 213) rfl)
theorem tw_214 {a0 : Array Value} {Z : State} (hw : ∀ d ∈ tables_1, d.before a0 Z = true) : (Jvm.Cond.static ({ cls := "java/lang/StringUTF16", name := "compress", desc := "([CI[BII)I" } : Jvm.MethodName)).before a0 Z = true := hw _ (List.mem_of_getElem? (i := 214) rfl)
theorem tw_215 {a0 : Array Value} {Z : State} (hw : ∀ d ∈ tables_1, d.before a0 Z = true) : (Jvm.Cond.code ({ cls := "java/lang/StringUTF16", name := "compress", desc := "([CI[BII)I" } : Jvm.MethodName) jdk_52_method_21_code (7 : Nat) (Option.some Jvm.ClassFile.FieldType.int)).before a0 Z = true := hw _ (List.mem_of_getElem? (i := 215) rfl)
theorem tw_216 {a0 : Array Value} {Z : State} (hw : ∀ d ∈ tables_1, d.before a0 Z = true) : (Jvm.Cond.methodLink "java/lang/StringUTF16" (119 : Nat) ({ cls := "java/lang/StringUTF16", name := "toBytes", desc := "([CII)[B" } : Jvm.MethodName)).before a0 Z = true := hw _ (List.mem_of_getElem? (i := 216) rfl)
theorem tw_217 {a0 : Array Value} {Z : State} (hw : ∀ d ∈ tables_1, d.before a0 Z = true) : (Jvm.Cond.static ({ cls := "java/lang/StringUTF16", name := "toBytes", desc := "([CII)[B" } : Jvm.MethodName)).before a0 Z = true := hw _ (List.mem_of_getElem? (i := 217) rfl)
theorem tw_218 {a0 : Array Value} {Z : State} (hw : ∀ d ∈ tables_1, d.before a0 Z = true) : (Jvm.Cond.code ({ cls := "java/lang/StringUTF16", name := "toBytes", desc := "([CII)[B" } : Jvm.MethodName) jdk_52_method_14_code (5 : Nat) (Option.some (Jvm.ClassFile.FieldType.array Jvm.ClassFile.FieldType.byte))).before a0 Z = true := hw _ (List.mem_of_getElem? (i := 218) rfl)
theorem tw_219 {a0 : Array Value} {Z : State} (hw : ∀ d ∈ tables_1, d.before a0 Z = true) : (Jvm.Cond.methodLink "java/lang/StringUTF16" (107 : Nat) ({ cls := "java/lang/StringUTF16", name := "newBytesFor", desc := "(I)[B" } : Jvm.MethodName)).before a0 Z = true := hw _ (List.mem_of_getElem? (i := 219) rfl)
theorem tw_220 {a0 : Array Value} {Z : State} (hw : ∀ d ∈ tables_1, d.before a0 Z = true) : (Jvm.Cond.static ({ cls := "java/lang/StringUTF16", name := "newBytesFor", desc := "(I)[B" } : Jvm.MethodName)).before a0 Z = true := hw _ (List.mem_of_getElem? (i := 220) rfl)
theorem tw_221 {a0 : Array Value} {Z : State} (hw : ∀ d ∈ tables_1, d.before a0 Z = true) : (Jvm.Cond.code ({ cls := "java/lang/StringUTF16", name := "newBytesFor", desc := "(I)[B" } : Jvm.MethodName) jdk_52_method_2_code (1 : Nat) (Option.some (Jvm.ClassFile.FieldType.array Jvm.ClassFile.FieldType.byte))).before a0 Z = true := hw _ (List.mem_of_getElem? (i := 221) rfl)
theorem tw_222 {a0 : Array Value} {Z : State} (hw : ∀ d ∈ tables_1, d.before a0 Z = true) : (Jvm.Cond.methodLink "java/lang/StringUTF16" (11 : Nat) ({ cls := "java/lang/StringUTF16", name := "newBytesLength", desc := "(I)I" } : Jvm.MethodName)).before a0 Z = true := hw _ (List.mem_of_getElem? (i := 222) rfl)
theorem tw_223 {a0 : Array Value} {Z : State} (hw : ∀ d ∈ tables_1, d.before a0 Z = true) : (Jvm.Cond.static ({ cls := "java/lang/StringUTF16", name := "newBytesLength", desc := "(I)I" } : Jvm.MethodName)).before a0 Z = true := hw _ (List.mem_of_getElem? (i := 223) rfl)
theorem tw_224 {a0 : Array Value} {Z : State} (hw : ∀ d ∈ tables_1, d.before a0 Z = true) : (Jvm.Cond.code ({ cls := "java/lang/StringUTF16", name := "newBytesLength", desc := "(I)I" } : Jvm.MethodName) jdk_52_method_3_code (1 : Nat) (Option.some Jvm.ClassFile.FieldType.int)).before a0 Z = true := hw _ (List.mem_of_getElem? (i := 224) rfl)
theorem tw_225 {a0 : Array Value} {Z : State} (hw : ∀ d ∈ tables_1, d.before a0 Z = true) : (Jvm.Cond.constant "java/lang/StringUTF16" (20 : Nat) (1073741823 : Int32)).before a0 Z = true := hw _ (List.mem_of_getElem? (i := 225) rfl)
theorem tw_226 {a0 : Array Value} {Z : State} (hw : ∀ d ∈ tables_1, d.before a0 Z = true) : (Jvm.Cond.methodLink "java/lang/StringUTF16" (111 : Nat) ({ cls := "java/lang/StringUTF16", name := "putChar", desc := "([BII)V" } : Jvm.MethodName)).before a0 Z = true := hw _ (List.mem_of_getElem? (i := 226) rfl)
theorem tw_227 {a0 : Array Value} {Z : State} (hw : ∀ d ∈ tables_1, d.before a0 Z = true) : (Jvm.Cond.static ({ cls := "java/lang/StringUTF16", name := "putChar", desc := "([BII)V" } : Jvm.MethodName)).before a0 Z = true := hw _ (List.mem_of_getElem? (i := 227) rfl)
theorem tw_228 {a0 : Array Value} {Z : State} (hw : ∀ d ∈ tables_1, d.before a0 Z = true) : (Jvm.Cond.code ({ cls := "java/lang/StringUTF16", name := "putChar", desc := "([BII)V" } : Jvm.MethodName) jdk_52_method_4_code (3 : Nat) (Option.none : Option Jvm.ClassFile.FieldType)).before a0 Z = true := hw _ (List.mem_of_getElem? (i := 228) rfl)
theorem tw_229 {a0 : Array Value} {Z : State} (hw : ∀ d ∈ tables_1, d.before a0 Z = true) : (Jvm.Cond.fieldLink "java/lang/StringUTF16" (44 : Nat) "java/lang/StringUTF16" "$assertionsDisabled" "Z").before a0 Z = true := hw _ (List.mem_of_getElem? (i := 229) rfl)
theorem tw_230 {a0 : Array Value} {Z : State} (hw : ∀ d ∈ tables_1, d.before a0 Z = true) : (Jvm.Cond.fieldLink "java/lang/StringUTF16" (59 : Nat) "java/lang/StringUTF16" "HI_BYTE_SHIFT" "I").before a0 Z = true := hw _ (List.mem_of_getElem? (i := 230) rfl)
theorem tw_231 {a0 : Array Value} {Z : State} (hw : ∀ d ∈ tables_1, d.before a0 Z = true) : (Jvm.Cond.fieldLink "java/lang/StringUTF16" (63 : Nat) "java/lang/StringUTF16" "LO_BYTE_SHIFT" "I").before a0 Z = true := hw _ (List.mem_of_getElem? (i := 231) rfl)
theorem tw_232 {a0 : Array Value} {Z : State} (hw : ∀ d ∈ tables_1, d.before a0 Z = true) : (Jvm.Cond.methodLink "java/lang/StringUTF16" (71 : Nat) ({ cls := "java/lang/StringUTF16", name := "getChar", desc := "([BI)C" } : Jvm.MethodName)).before a0 Z = true := hw _ (List.mem_of_getElem? (i := 232) rfl)
theorem tw_233 {a0 : Array Value} {Z : State} (hw : ∀ d ∈ tables_1, d.before a0 Z = true) : (Jvm.Cond.static ({ cls := "java/lang/StringUTF16", name := "getChar", desc := "([BI)C" } : Jvm.MethodName)).before a0 Z = true := hw _ (List.mem_of_getElem? (i := 233) rfl)
theorem tw_234 {a0 : Array Value} {Z : State} (hw : ∀ d ∈ tables_1, d.before a0 Z = true) : (Jvm.Cond.code ({ cls := "java/lang/StringUTF16", name := "getChar", desc := "([BI)C" } : Jvm.MethodName) jdk_52_method_5_code (2 : Nat) (Option.some Jvm.ClassFile.FieldType.char)).before a0 Z = true := hw _ (List.mem_of_getElem? (i := 234) rfl)
theorem tw_235 {a0 : Array Value} {Z : State} (hw : ∀ d ∈ tables_1, d.before a0 Z = true) : (Jvm.Cond.methodLink "java/lang/String" (47 : Nat) ({ cls := "java/lang/StringUTF16", name := "coderFromArrayLen", desc := "([BI)B" } : Jvm.MethodName)).before a0 Z = true := hw _ (List.mem_of_getElem? (i := 235) rfl)
theorem tw_236 {a0 : Array Value} {Z : State} (hw : ∀ d ∈ tables_1, d.before a0 Z = true) : (Jvm.Cond.static ({ cls := "java/lang/StringUTF16", name := "coderFromArrayLen", desc := "([BI)B" } : Jvm.MethodName)).before a0 Z = true := hw _ (List.mem_of_getElem? (i := 236) rfl)
theorem tw_237 {a0 : Array Value} {Z : State} (hw : ∀ d ∈ tables_1, d.before a0 Z = true) : (Jvm.Cond.code ({ cls := "java/lang/StringUTF16", name := "coderFromArrayLen", desc := "([BI)B" } : Jvm.MethodName) jdk_52_method_15_code (2 : Nat) (Option.some Jvm.ClassFile.FieldType.byte)).before a0 Z = true := hw _ (List.mem_of_getElem? (i := 237) rfl)
theorem tw_238 {a0 : Array Value} {Z : State} (hw : ∀ d ∈ tables_1, d.before a0 Z = true) : (Jvm.Cond.fieldLink "com/example/sunder/sunder/TokenIsPinLaw" (47 : Nat) "com/example/sunder/sunder/SqlTokens$Kind" "QUOTED" "Lcom/example/sunder/sunder/SqlTokens$Kind;").before a0 Z = true := hw _ (List.mem_of_getElem? (i := 238) rfl)
theorem tw_239 {a0 : Array Value} {Z : State} (hw : ∀ d ∈ tables_1, d.before a0 Z = true) : (Jvm.Cond.laysStatic "com/example/sunder/sunder/SqlTokens$Kind" "QUOTED" "Lcom/example/sunder/sunder/SqlTokens$Kind;").before a0 Z = true := hw _ (List.mem_of_getElem? (i := 239) rfl)
theorem tw_240 {a0 : Array Value} {Z : State} (hw : ∀ d ∈ tables_1, d.before a0 Z = true) : (Jvm.Cond.fieldLink "com/example/sunder/sunder/TokenIsPinLaw" (53 : Nat) "com/example/sunder/sunder/SqlTokens$Kind" "BLOB" "Lcom/example/sunder/sunder/SqlTokens$Kind;").before a0 Z = true := hw _ (List.mem_of_getElem? (i := 240) rfl)
theorem tw_241 {a0 : Array Value} {Z : State} (hw : ∀ d ∈ tables_1, d.before a0 Z = true) : (Jvm.Cond.laysStatic "com/example/sunder/sunder/SqlTokens$Kind" "BLOB" "Lcom/example/sunder/sunder/SqlTokens$Kind;").before a0 Z = true := hw _ (List.mem_of_getElem? (i := 241) rfl)
theorem tw_242 {a0 : Array Value} {Z : State} (hw : ∀ d ∈ tables_1, d.before a0 Z = true) : (Jvm.Cond.methodLink "java/lang/String" (498 : Nat) ({ cls := "java/lang/StringUTF16", name := "charAt", desc := "([BI)C" } : Jvm.MethodName)).before a0 Z = true := hw _ (List.mem_of_getElem? (i := 242) rfl)
theorem tw_243 {a0 : Array Value} {Z : State} (hw : ∀ d ∈ tables_1, d.before a0 Z = true) : (Jvm.Cond.static ({ cls := "java/lang/StringUTF16", name := "charAt", desc := "([BI)C" } : Jvm.MethodName)).before a0 Z = true := hw _ (List.mem_of_getElem? (i := 243) rfl)
theorem tw_244 {a0 : Array Value} {Z : State} (hw : ∀ d ∈ tables_1, d.before a0 Z = true) : (Jvm.Cond.code ({ cls := "java/lang/StringUTF16", name := "charAt", desc := "([BI)C" } : Jvm.MethodName) jdk_52_method_83_code (2 : Nat) (Option.some Jvm.ClassFile.FieldType.char)).before a0 Z = true := hw _ (List.mem_of_getElem? (i := 244) rfl)
theorem tw_245 {a0 : Array Value} {Z : State} (hw : ∀ d ∈ tables_1, d.before a0 Z = true) : (Jvm.Cond.methodLink "java/lang/StringUTF16" (67 : Nat) ({ cls := "java/lang/StringUTF16", name := "checkIndex", desc := "(I[B)V" } : Jvm.MethodName)).before a0 Z = true := hw _ (List.mem_of_getElem? (i := 245) rfl)
theorem tw_246 {a0 : Array Value} {Z : State} (hw : ∀ d ∈ tables_1, d.before a0 Z = true) : (Jvm.Cond.static ({ cls := "java/lang/StringUTF16", name := "checkIndex", desc := "(I[B)V" } : Jvm.MethodName)).before a0 Z = true := hw _ (List.mem_of_getElem? (i := 246) rfl)
theorem tw_247 {a0 : Array Value} {Z : State} (hw : ∀ d ∈ tables_1, d.before a0 Z = true) : (Jvm.Cond.code ({ cls := "java/lang/StringUTF16", name := "checkIndex", desc := "(I[B)V" } : Jvm.MethodName) jdk_52_method_91_code (2 : Nat) (Option.none : Option Jvm.ClassFile.FieldType)).before a0 Z = true := hw _ (List.mem_of_getElem? (i := 247) rfl)
theorem tw_248 {a0 : Array Value} {Z : State} (hw : ∀ d ∈ tables_1, d.before a0 Z = true) : (Jvm.Cond.methodLink "java/lang/StringUTF16" (48 : Nat) ({ cls := "java/lang/StringUTF16", name := "length", desc := "([B)I" } : Jvm.MethodName)).before a0 Z = true := hw _ (List.mem_of_getElem? (i := 248) rfl)
theorem tw_249 {a0 : Array Value} {Z : State} (hw : ∀ d ∈ tables_1, d.before a0 Z = true) : (Jvm.Cond.static ({ cls := "java/lang/StringUTF16", name := "length", desc := "([B)I" } : Jvm.MethodName)).before a0 Z = true := hw _ (List.mem_of_getElem? (i := 249) rfl)
theorem tw_250 {a0 : Array Value} {Z : State} (hw : ∀ d ∈ tables_1, d.before a0 Z = true) : (Jvm.Cond.code ({ cls := "java/lang/StringUTF16", name := "length", desc := "([B)I" } : Jvm.MethodName) jdk_52_method_6_code (1 : Nat) (Option.some Jvm.ClassFile.FieldType.int)).before a0 Z = true := hw _ (List.mem_of_getElem? (i := 250) rfl)
theorem tw_251 {a0 : Array Value} {Z : State} (hw : ∀ d ∈ tables_1, d.before a0 Z = true) : (Jvm.Cond.methodLink "java/lang/StringUTF16" (414 : Nat) ({ cls := "java/lang/String", name := "checkIndex", desc := "(II)V" } : Jvm.MethodName)).before a0 Z = true := hw _ (List.mem_of_getElem? (i := 251) rfl)
theorem tw_252 {a0 : Array Value} {Z : State} (hw : ∀ d ∈ tables_1, d.before a0 Z = true) : (Jvm.Cond.methodLink "java/lang/AbstractStringBuilder" (195 : Nat) ({ cls := "java/lang/AbstractStringBuilder", name := "inflate", desc := "()V" } : Jvm.MethodName)).before a0 Z = true := hw _ (List.mem_of_getElem? (i := 252) rfl)
theorem tw_253 {a0 : Array Value} {Z : State} (hw : ∀ d ∈ tables_1, d.before a0 Z = true) : (Jvm.Cond.instanceMethod ({ cls := "java/lang/AbstractStringBuilder", name := "inflate", desc := "()V" } : Jvm.MethodName)).before a0 Z = true := hw _ (List.mem_of_getElem? (i := 253) rfl)
theorem tw_255 {a0 : Array Value} {Z : State} (hw : ∀ d ∈ tables_1, d.before a0 Z = true) : (Jvm.Cond.selects "java/lang/StringBuilder" ({ cls := "java/lang/AbstractStringBuilder", name := "inflate", desc := "()V" } : Jvm.MethodName) ({ cls := "java/lang/AbstractStringBuilder", name := "inflate", desc := "()V" } : Jvm.MethodName)).before a0 Z = true := hw _ (List.mem_of_getElem? (i := 255) rfl)
theorem tw_256 {a0 : Array Value} {Z : State} (hw : ∀ d ∈ tables_1, d.before a0 Z = true) : (Jvm.Cond.code ({ cls := "java/lang/AbstractStringBuilder", name := "inflate", desc := "()V" } : Jvm.MethodName) jdk_68_method_11_code (2 : Nat) (Option.none : Option Jvm.ClassFile.FieldType)).before a0 Z = true := hw _ (List.mem_of_getElem? (i := 256) rfl)
theorem tw_257 {a0 : Array Value} {Z : State} (hw : ∀ d ∈ tables_1, d.before a0 Z = true) : (Jvm.Cond.methodLink "java/lang/AbstractStringBuilder" (26 : Nat) ({ cls := "java/lang/StringUTF16", name := "newBytesFor", desc := "(I)[B" } : Jvm.MethodName)).before a0 Z = true := hw _ (List.mem_of_getElem? (i := 257) rfl)
theorem tw_258 {a0 : Array Value} {Z : State} (hw : ∀ d ∈ tables_1, d.before a0 Z = true) : (Jvm.Cond.methodLink "java/lang/AbstractStringBuilder" (125 : Nat) ({ cls := "java/lang/StringLatin1", name := "inflate", desc := "([BI[BII)V" } : Jvm.MethodName)).before a0 Z = true := hw _ (List.mem_of_getElem? (i := 258) rfl)
theorem tw_259 {a0 : Array Value} {Z : State} (hw : ∀ d ∈ tables_1, d.before a0 Z = true) : (Jvm.Cond.static ({ cls := "java/lang/StringLatin1", name := "inflate", desc := "([BI[BII)V" } : Jvm.MethodName)).before a0 Z = true := hw _ (List.mem_of_getElem? (i := 259) rfl)
theorem tw_260 {a0 : Array Value} {Z : State} (hw : ∀ d ∈ tables_1, d.before a0 Z = true) : (Jvm.Cond.code ({ cls := "java/lang/StringLatin1", name := "inflate", desc := "([BI[BII)V" } : Jvm.MethodName) jdk_43_method_50_code (5 : Nat) (Option.none : Option Jvm.ClassFile.FieldType)).before a0 Z = true := hw _ (List.mem_of_getElem? (i := 260) rfl)
theorem tw_261 {a0 : Array Value} {Z : State} (hw : ∀ d ∈ tables_1, d.before a0 Z = true) : (Jvm.Cond.methodLink "java/lang/StringLatin1" (240 : Nat) ({ cls := "java/lang/StringUTF16", name := "inflate", desc := "([BI[BII)V" } : Jvm.MethodName)).before a0 Z = true := hw _ (List.mem_of_getElem? (i := 261) rfl)
theorem tw_262 {a0 : Array Value} {Z : State} (hw : ∀ d ∈ tables_1, d.before a0 Z = true) : (Jvm.Cond.static ({ cls := "java/lang/StringUTF16", name := "inflate", desc := "([BI[BII)V" } : Jvm.MethodName)).before a0 Z = true := hw _ (List.mem_of_getElem? (i := 262) rfl)
theorem tw_263 {a0 : Array Value} {Z : State} (hw : ∀ d ∈ tables_1, d.before a0 Z = true) : (Jvm.Cond.code ({ cls := "java/lang/StringUTF16", name := "inflate", desc := "([BI[BII)V" } : Jvm.MethodName) jdk_52_method_86_code (6 : Nat) (Option.none : Option Jvm.ClassFile.FieldType)).before a0 Z = true := hw _ (List.mem_of_getElem? (i := 263) rfl)
theorem tw_264 {a0 : Array Value} {Z : State} (hw : ∀ d ∈ tables_1, d.before a0 Z = true) : (Jvm.Cond.methodLink "java/lang/StringUTF16" (173 : Nat) ({ cls := "java/lang/StringUTF16", name := "checkBoundsOffCount", desc := "(II[B)V" } : Jvm.MethodName)).before a0 Z = true := hw _ (List.mem_of_getElem? (i := 264) rfl)
theorem tw_265 {a0 : Array Value} {Z : State} (hw : ∀ d ∈ tables_1, d.before a0 Z = true) : (Jvm.Cond.static ({ cls := "java/lang/StringUTF16", name := "checkBoundsOffCount", desc := "(II[B)V" } : Jvm.MethodName)).before a0 Z = true := hw _ (List.mem_of_getElem? (i := 265) rfl)
theorem tw_266 {a0 : Array Value} {Z : State} (hw : ∀ d ∈ tables_1, d.before a0 Z = true) : (Jvm.Cond.code ({ cls := "java/lang/StringUTF16", name := "checkBoundsOffCount", desc := "(II[B)V" } : Jvm.MethodName) jdk_52_method_94_code (3 : Nat) (Option.none : Option Jvm.ClassFile.FieldType)).before a0 Z = true := hw _ (List.mem_of_getElem? (i := 266) rfl)
theorem tw_267 {a0 : Array Value} {Z : State} (hw : ∀ d ∈ tables_1, d.before a0 Z = true) : (Jvm.Cond.methodLink "java/lang/StringUTF16" (419 : Nat) ({ cls := "java/lang/String", name := "checkBoundsOffCount", desc := "(III)I" } : Jvm.MethodName)).before a0 Z = true := hw _ (List.mem_of_getElem? (i := 267) rfl)
theorem tw_268 {a0 : Array Value} {Z : State} (hw : ∀ d ∈ tables_1, d.before a0 Z = true) : (Jvm.Cond.static ({ cls := "java/lang/String", name := "checkBoundsOffCount", desc := "(III)I" } : Jvm.MethodName)).before a0 Z = true := hw _ (List.mem_of_getElem? (i := 268) rfl)
theorem tw_269 {a0 : Array Value} {Z : State} (hw : ∀ d ∈ tables_1, d.before a0 Z = true) : (Jvm.Cond.code ({ cls := "java/lang/String", name := "checkBoundsOffCount", desc := "(III)I" } : Jvm.MethodName) jdk_42_method_157_code (3 : Nat) (Option.some Jvm.ClassFile.FieldType.int)).before a0 Z = true := hw _ (List.mem_of_getElem? (i := 269) rfl)
theorem tw_270 {a0 : Array Value} {Z : State} (hw : ∀ d ∈ tables_1, d.before a0 Z = true) : (Jvm.Cond.methodLink "java/lang/String" (1065 : Nat) ({ cls := "jdk/internal/util/Preconditions", name := "checkFromIndexSize", desc := "(IIILjava/util/function/BiFunction;)I" } : Jvm.MethodName)).before a0 Z = true := hw _ (List.mem_of_getElem? (i := 270) rfl)
theorem tw_271 {a0 : Array Value} {Z : State} (hw : ∀ d ∈ tables_1, d.before a0 Z = true) : (Jvm.Cond.static ({ cls := "jdk/internal/util/Preconditions", name := "checkFromIndexSize", desc := "(IIILjava/util/function/BiFunction;)I" } : Jvm.MethodName)).before a0 Z = true := hw _ (List.mem_of_getElem? (i := 271) rfl)
theorem tw_272 {a0 : Array Value} {Z : State} (hw : ∀ d ∈ tables_1, d.before a0 Z = true) : (Jvm.Cond.code ({ cls := "jdk/internal/util/Preconditions", name := "checkFromIndexSize", desc := "(IIILjava/util/function/BiFunction;)I" } : Jvm.MethodName) jdk_41_method_13_code (4 : Nat) (Option.some Jvm.ClassFile.FieldType.int)).before a0 Z = true := hw _ (List.mem_of_getElem? (i := 272) rfl)
theorem tw_273 {a0 : Array Value} {Z : State} (hw : ∀ d ∈ tables_1, d.before a0 Z = true) : (Jvm.Cond.methodLink "java/lang/AbstractStringBuilder" (197 : Nat) ({ cls := "java/lang/StringUTF16", name := "putCharSB", desc := "([BII)V" } : Jvm.MethodName)).before a0 Z = true := hw _ (List.mem_of_getElem? (i := 273) rfl)
theorem tw_274 {a0 : Array Value} {Z : State} (hw : ∀ d ∈ tables_1, d.before a0 Z = true) : (Jvm.Cond.static ({ cls := "java/lang/StringUTF16", name := "putCharSB", desc := "([BII)V" } : Jvm.MethodName)).before a0 Z = true := hw _ (List.mem_of_getElem? (i := 274) rfl)
theorem tw_275 {a0 : Array Value} {Z : State} (hw : ∀ d ∈ tables_1, d.before a0 Z = true) : (Jvm.Cond.code ({ cls := "java/lang/StringUTF16", name := "putCharSB", desc := "([BII)V" } : Jvm.MethodName) jdk_52_method_71_code (3 : Nat) (Option.none : Option Jvm.ClassFile.FieldType)).before a0 Z = true := hw _ (List.mem_of_getElem? (i := 275) rfl)
theorem tw_276 {a0 : Array Value} {Z : State} (hw : ∀ d ∈ tables_1, d.before a0 Z = true) : (Jvm.Cond.fieldLink "java/lang/String" (1048 : Nat) "java/lang/AbstractStringBuilder" "maybeLatin1" "Z").before a0 Z = true := hw _ (List.mem_of_getElem? (i := 276) rfl)
theorem tw_277 {a0 : Array Value} {Z : State} (hw : ∀ d ∈ tables_1, d.before a0 Z = true) : (Jvm.Cond.lays "java/lang/StringBuilder" "java/lang/AbstractStringBuilder" "maybeLatin1" "Z").before a0 Z = true := hw _ (List.mem_of_getElem? (i := 277) rfl)
theorem tw_278 {a0 : Array Value} {Z : State} (hw : ∀ d ∈ tables_1, d.before a0 Z = true) : (Jvm.Cond.methodLink "java/lang/String" (1021 : Nat) ({ cls := "java/lang/StringUTF16", name := "toBytes", desc := "(C)[B" } : Jvm.MethodName)).before a0 Z = true := hw _ (List.mem_of_getElem? (i := 278) rfl)
theorem tw_279 {a0 : Array Value} {Z : State} (hw : ∀ d ∈ tables_1, d.before a0 Z = true) : (Jvm.Cond.static ({ cls := "java/lang/StringUTF16", name := "toBytes", desc := "(C)[B" } : Jvm.MethodName)).before a0 Z = true := hw _ (List.mem_of_getElem? (i := 279) rfl)
theorem tw_280 {a0 : Array Value} {Z : State} (hw : ∀ d ∈ tables_1, d.before a0 Z = true) : (Jvm.Cond.code ({ cls := "java/lang/StringUTF16", name := "toBytes", desc := "(C)[B" } : Jvm.MethodName) jdk_52_method_24_code (2 : Nat) (Option.some (Jvm.ClassFile.FieldType.array Jvm.ClassFile.FieldType.byte))).before a0 Z = true := hw _ (List.mem_of_getElem? (i := 280) rfl)
theorem tw_281 {a0 : Array Value} {Z : State} (hw : ∀ d ∈ tables_1, d.before a0 Z = true) : (Jvm.Cond.fieldLink "com/example/sunder/sunder/TokenIsPinLaw" (59 : Nat) "com/example/sunder/sunder/SqlTokens$Kind" "SYMBOL" "Lcom/example/sunder/sunder/SqlTokens$Kind;").before a0 Z = true := hw _ (List.mem_of_getElem? (i := 281) rfl)
theorem tw_282 {a0 : Array Value} {Z : State} (hw : ∀ d ∈ tables_1, d.before a0 Z = true) : (Jvm.Cond.laysStatic "com/example/sunder/sunder/SqlTokens$Kind" "SYMBOL" "Lcom/example/sunder/sunder/SqlTokens$Kind;").before a0 Z = true := hw _ (List.mem_of_getElem? (i := 282) rfl)
theorem tw_283 {a0 : Array Value} {Z : State} (hw : ∀ d ∈ tables_1, d.before a0 Z = true) : (Jvm.Cond.fieldLink "com/example/sunder/sunder/TokenIsPinLaw" (62 : Nat) "com/example/sunder/sunder/SqlTokens$Kind" "END_OF_TEXT" "Lcom/example/sunder/sunder/SqlTokens$Kind;").before a0 Z = true := hw _ (List.mem_of_getElem? (i := 283) rfl)
theorem tw_284 {a0 : Array Value} {Z : State} (hw : ∀ d ∈ tables_1, d.before a0 Z = true) : (Jvm.Cond.laysStatic "com/example/sunder/sunder/SqlTokens$Kind" "END_OF_TEXT" "Lcom/example/sunder/sunder/SqlTokens$Kind;").before a0 Z = true := hw _ (List.mem_of_getElem? (i := 284) rfl)
theorem pd_0 : parseMethodDescriptor "(I)I" = some ⟨[.int], some .int⟩ := by decide +kernel
theorem pd_1 : parseMethodDescriptor "(I)[B" = some ⟨[.int], some (.array .byte)⟩ := by decide +kernel
theorem pd_2 : parseMethodDescriptor "([BII)V" = some ⟨[(.array .byte), .int, .int], none⟩ := by decide +kernel
theorem pd_3 : parseMethodDescriptor "([CI[BII)I" = some ⟨[(.array .char), .int, (.array .byte), .int, .int], some .int⟩ := by decide +kernel
theorem pd_4 : parseMethodDescriptor "([CII)[B" = some ⟨[(.array .char), .int, .int], some (.array .byte)⟩ := by decide +kernel
theorem pd_5 : parseMethodDescriptor "([BI)C" = some ⟨[(.array .byte), .int], some .char⟩ := by decide +kernel
theorem pd_6 : parseMethodDescriptor "([BI)B" = some ⟨[(.array .byte), .int], some .byte⟩ := by decide +kernel
theorem pd_7 : parseMethodDescriptor "([CIILjava/lang/Void;)V" = some ⟨[(.array .char), .int, .int, (.object "java/lang/Void")], none⟩ := by decide +kernel
theorem pd_8 : parseMethodDescriptor "()B" = some ⟨[], some .byte⟩ := by decide +kernel
theorem pd_9 : parseMethodDescriptor "(IILjava/util/function/BiFunction;)I" = some ⟨[.int, .int, (.object "java/util/function/BiFunction")], some .int⟩ := by decide +kernel
theorem pd_10 : parseMethodDescriptor "(II)V" = some ⟨[.int, .int], none⟩ := by decide +kernel
theorem pd_11 : parseMethodDescriptor "([B)I" = some ⟨[(.array .byte)], some .int⟩ := by decide +kernel
theorem pd_12 : parseMethodDescriptor "(I[B)V" = some ⟨[.int, (.array .byte)], none⟩ := by decide +kernel
theorem pd_13 : parseMethodDescriptor "()Z" = some ⟨[], some .boolean⟩ := by decide +kernel
theorem pd_14 : parseMethodDescriptor "([B[B)Z" = some ⟨[(.array .byte), (.array .byte)], some .boolean⟩ := by decide +kernel
theorem pd_15 : parseMethodDescriptor "(C)Z" = some ⟨[.char], some .boolean⟩ := by decide +kernel
theorem pd_16 : parseMethodDescriptor "(C)[B" = some ⟨[.char], some (.array .byte)⟩ := by decide +kernel
theorem pd_17 : parseMethodDescriptor "([BB)V" = some ⟨[(.array .byte), .byte], none⟩ := by decide +kernel
theorem pd_18 : parseMethodDescriptor "(I)V" = some ⟨[.int], none⟩ := by decide +kernel
theorem pd_19 : parseMethodDescriptor "(IIILjava/util/function/BiFunction;)I" = some ⟨[.int, .int, .int, (.object "java/util/function/BiFunction")], some .int⟩ := by decide +kernel
theorem pd_20 : parseMethodDescriptor "(III)I" = some ⟨[.int, .int, .int], some .int⟩ := by decide +kernel
theorem pd_21 : parseMethodDescriptor "(II[B)V" = some ⟨[.int, .int, (.array .byte)], none⟩ := by decide +kernel
theorem pd_22 : parseMethodDescriptor "([BI[BII)V" = some ⟨[(.array .byte), .int, (.array .byte), .int, .int], none⟩ := by decide +kernel
theorem pd_23 : parseMethodDescriptor "()I" = some ⟨[], some .int⟩ := by decide +kernel
theorem pd_24 : parseMethodDescriptor "()V" = some ⟨[], none⟩ := by decide +kernel
theorem pd_25 : parseMethodDescriptor "(C)Ljava/lang/AbstractStringBuilder;" = some ⟨[.char], some (.object "java/lang/AbstractStringBuilder")⟩ := by decide +kernel
theorem pd_26 : parseMethodDescriptor "()[B" = some ⟨[], some (.array .byte)⟩ := by decide +kernel
theorem pd_27 : parseMethodDescriptor "([BII)[B" = some ⟨[(.array .byte), .int, .int], some (.array .byte)⟩ := by decide +kernel
theorem pd_28 : parseMethodDescriptor "(Ljava/lang/AbstractStringBuilder;Ljava/lang/Void;)V" = some ⟨[(.object "java/lang/AbstractStringBuilder"), (.object "java/lang/Void")], none⟩ := by decide +kernel
theorem pd_29 : parseMethodDescriptor "(Ljava/lang/StringBuilder;)V" = some ⟨[(.object "java/lang/StringBuilder")], none⟩ := by decide +kernel
theorem pd_30 : parseMethodDescriptor "([C)V" = some ⟨[(.array .char)], none⟩ := by decide +kernel
theorem pd_31 : parseMethodDescriptor "(C)Ljava/lang/String;" = some ⟨[.char], some (.object "java/lang/String")⟩ := by decide +kernel
theorem pd_32 : parseMethodDescriptor "()Ljava/lang/String;" = some ⟨[], some (.object "java/lang/String")⟩ := by decide +kernel
theorem pd_33 : parseMethodDescriptor "(C)Ljava/lang/StringBuilder;" = some ⟨[.char], some (.object "java/lang/StringBuilder")⟩ := by decide +kernel
theorem pd_34 : parseMethodDescriptor "(I)C" = some ⟨[.int], some .char⟩ := by decide +kernel
theorem pd_35 : parseMethodDescriptor "(Ljava/lang/String;)Ljava/lang/String;" = some ⟨[(.object "java/lang/String")], some (.object "java/lang/String")⟩ := by decide +kernel
theorem pd_36 : parseMethodDescriptor "(Ljava/lang/Object;)Z" = some ⟨[(.object "java/lang/Object")], some .boolean⟩ := by decide +kernel
theorem pd_37 : parseMethodDescriptor "(I)Lcom/example/sunder/sunder/SqlTokens$Kind;" = some ⟨[.int], some (.object "com/example/sunder/sunder/SqlTokens$Kind")⟩ := by decide +kernel
theorem pd_38 : parseMethodDescriptor "(II)I" = some ⟨[.int, .int], some .int⟩ := by decide +kernel
theorem pd_39 : parseMethodDescriptor "(ICC)C" = some ⟨[.int, .char, .char], some .char⟩ := by decide +kernel
theorem pd_40 : parseMethodDescriptor "(ICC)Ljava/lang/String;" = some ⟨[.int, .char, .char], some (.object "java/lang/String")⟩ := by decide +kernel
theorem pd_41 : parseMethodDescriptor "(Lcom/example/sunder/sunder/SqlTokens$Kind;Ljava/lang/String;I)V" = some ⟨[(.object "com/example/sunder/sunder/SqlTokens$Kind"), (.object "java/lang/String"), .int], none⟩ := by decide +kernel
theorem pd_42 : parseMethodDescriptor "(Ljava/lang/String;)Z" = some ⟨[(.object "java/lang/String")], some .boolean⟩ := by decide +kernel
theorem pd_43 : parseMethodDescriptor "(C)I" = some ⟨[.char], some .int⟩ := by decide +kernel
theorem own_met_1_0 {K : own_Cx} {M : own_Mi} {Q : own_Q} {sf : List Addr} {h : Heap} {v0 : Value} (hpn : plainFor M.y = true) (hm : M.mx = 1) (c0 : v0.category = 1) (k : own_WP K M Q 0 [.val v0] [] sf h 0 0) : own_Met K M #[v0] sf h Q := own_met hpn (fun m => by rw [hm]; simp [entryFrame, mkF, argsToLocals, c0, List.replicate, Array.replicate]) k
theorem own_met_1_1 {K : own_Cx} {M : own_Mi} {Q : own_Q} {sf : List Addr} {h : Heap} {v0 : Value} (hpn : plainFor M.y = true) (hm : M.mx = 2) (c0 : v0.category = 1) (k : own_WP K M Q 0 [.val v0, .unset] [] sf h 0 0) : own_Met K M #[v0] sf h Q := own_met hpn (fun m => by rw [hm]; simp [entryFrame, mkF, argsToLocals, c0, List.replicate, Array.replicate]) k
theorem own_met_1_3 {K : own_Cx} {M : own_Mi} {Q : own_Q} {sf : List Addr} {h : Heap} {v0 : Value} (hpn : plainFor M.y = true) (hm : M.mx = 4) (c0 : v0.category = 1) (k : own_WP K M Q 0 [.val v0, .unset, .unset, .unset] [] sf h 0 0) : own_Met K M #[v0] sf h Q := own_met hpn (fun m => by rw [hm]; simp [entryFrame, mkF, argsToLocals, c0, List.replicate, Array.replicate]) k
theorem own_met_2_0 {K : own_Cx} {M : own_Mi} {Q : own_Q} {sf : List Addr} {h : Heap} {v0 v1 : Value} (hpn : plainFor M.y = true) (hm : M.mx = 2) (c0 : v0.category = 1) (c1 : v1.category = 1) (k : own_WP K M Q 0 [.val v0, .val v1] [] sf h 0 0) : own_Met K M #[v0, v1] sf h Q := own_met hpn (fun m => by rw [hm]; simp [entryFrame, mkF, argsToLocals, c0, c1, List.replicate, Array.replicate]) k
theorem own_met_2_1 {K : own_Cx} {M : own_Mi} {Q : own_Q} {sf : List Addr} {h : Heap} {v0 v1 : Value} (hpn : plainFor M.y = true) (hm : M.mx = 3) (c0 : v0.category = 1) (c1 : v1.category = 1) (k : own_WP K M Q 0 [.val v0, .val v1, .unset] [] sf h 0 0) : own_Met K M #[v0, v1] sf h Q := own_met hpn (fun m => by rw [hm]; simp [entryFrame, mkF, argsToLocals, c0, c1, List.replicate, Array.replicate]) k
theorem own_met_3_0 {K : own_Cx} {M : own_Mi} {Q : own_Q} {sf : List Addr} {h : Heap} {v0 v1 v2 : Value} (hpn : plainFor M.y = true) (hm : M.mx = 3) (c0 : v0.category = 1) (c1 : v1.category = 1) (c2 : v2.category = 1) (k : own_WP K M Q 0 [.val v0, .val v1, .val v2] [] sf h 0 0) : own_Met K M #[v0, v1, v2] sf h Q := own_met hpn (fun m => by rw [hm]; simp [entryFrame, mkF, argsToLocals, c0, c1, c2, List.replicate, Array.replicate]) k
theorem own_met_3_2 {K : own_Cx} {M : own_Mi} {Q : own_Q} {sf : List Addr} {h : Heap} {v0 v1 v2 : Value} (hpn : plainFor M.y = true) (hm : M.mx = 5) (c0 : v0.category = 1) (c1 : v1.category = 1) (c2 : v2.category = 1) (k : own_WP K M Q 0 [.val v0, .val v1, .val v2, .unset, .unset] [] sf h 0 0) : own_Met K M #[v0, v1, v2] sf h Q := own_met hpn (fun m => by rw [hm]; simp [entryFrame, mkF, argsToLocals, c0, c1, c2, List.replicate, Array.replicate]) k
theorem own_met_3_3 {K : own_Cx} {M : own_Mi} {Q : own_Q} {sf : List Addr} {h : Heap} {v0 v1 v2 : Value} (hpn : plainFor M.y = true) (hm : M.mx = 6) (c0 : v0.category = 1) (c1 : v1.category = 1) (c2 : v2.category = 1) (k : own_WP K M Q 0 [.val v0, .val v1, .val v2, .unset, .unset, .unset] [] sf h 0 0) : own_Met K M #[v0, v1, v2] sf h Q := own_met hpn (fun m => by rw [hm]; simp [entryFrame, mkF, argsToLocals, c0, c1, c2, List.replicate, Array.replicate]) k
theorem own_met_4_0 {K : own_Cx} {M : own_Mi} {Q : own_Q} {sf : List Addr} {h : Heap} {v0 v1 v2 v3 : Value} (hpn : plainFor M.y = true) (hm : M.mx = 4) (c0 : v0.category = 1) (c1 : v1.category = 1) (c2 : v2.category = 1) (c3 : v3.category = 1) (k : own_WP K M Q 0 [.val v0, .val v1, .val v2, .val v3] [] sf h 0 0) : own_Met K M #[v0, v1, v2, v3] sf h Q := own_met hpn (fun m => by rw [hm]; simp [entryFrame, mkF, argsToLocals, c0, c1, c2, c3, List.replicate, Array.replicate]) k
theorem own_met_4_11 {K : own_Cx} {M : own_Mi} {Q : own_Q} {sf : List Addr} {h : Heap} {v0 v1 v2 v3 : Value} (hpn : plainFor M.y = true) (hm : M.mx = 15) (c0 : v0.category = 1) (c1 : v1.category = 1) (c2 : v2.category = 1) (c3 : v3.category = 1) (k : own_WP K M Q 0 [.val v0, .val v1, .val v2, .val v3, .unset, .unset, .unset, .unset, .unset, .unset, .unset, .unset, .unset, .unset, .unset] [] sf h 0 0) : own_Met K M #[v0, v1, v2, v3] sf h Q := own_met hpn (fun m => by rw [hm]; simp [entryFrame, mkF, argsToLocals, c0, c1, c2, c3, List.replicate, Array.replicate]) k
theorem own_met_5_0 {K : own_Cx} {M : own_Mi} {Q : own_Q} {sf : List Addr} {h : Heap} {v0 v1 v2 v3 v4 : Value} (hpn : plainFor M.y = true) (hm : M.mx = 5) (c0 : v0.category = 1) (c1 : v1.category = 1) (c2 : v2.category = 1) (c3 : v3.category = 1) (c4 : v4.category = 1) (k : own_WP K M Q 0 [.val v0, .val v1, .val v2, .val v3, .val v4] [] sf h 0 0) : own_Met K M #[v0, v1, v2, v3, v4] sf h Q := own_met hpn (fun m => by rw [hm]; simp [entryFrame, mkF, argsToLocals, c0, c1, c2, c3, c4, List.replicate, Array.replicate]) k
theorem own_met_5_1 {K : own_Cx} {M : own_Mi} {Q : own_Q} {sf : List Addr} {h : Heap} {v0 v1 v2 v3 v4 : Value} (hpn : plainFor M.y = true) (hm : M.mx = 6) (c0 : v0.category = 1) (c1 : v1.category = 1) (c2 : v2.category = 1) (c3 : v3.category = 1) (c4 : v4.category = 1) (k : own_WP K M Q 0 [.val v0, .val v1, .val v2, .val v3, .val v4, .unset] [] sf h 0 0) : own_Met K M #[v0, v1, v2, v3, v4] sf h Q := own_met hpn (fun m => by rw [hm]; simp [entryFrame, mkF, argsToLocals, c0, c1, c2, c3, c4, List.replicate, Array.replicate]) k
theorem own_met_5_2 {K : own_Cx} {M : own_Mi} {Q : own_Q} {sf : List Addr} {h : Heap} {v0 v1 v2 v3 v4 : Value} (hpn : plainFor M.y = true) (hm : M.mx = 7) (c0 : v0.category = 1) (c1 : v1.category = 1) (c2 : v2.category = 1) (c3 : v3.category = 1) (c4 : v4.category = 1) (k : own_WP K M Q 0 [.val v0, .val v1, .val v2, .val v3, .val v4, .unset, .unset] [] sf h 0 0) : own_Met K M #[v0, v1, v2, v3, v4] sf h Q := own_met hpn (fun m => by rw [hm]; simp [entryFrame, mkF, argsToLocals, c0, c1, c2, c3, c4, List.replicate, Array.replicate]) k
/-! STRINGS: chars as ints of 0 to 65535; what a String's bytes spell -/
abbrev own_Chs (cs : List Int32) : Prop := ∀ c ∈ cs, 0 ≤ c.toInt ∧ c.toInt < 65536
def own_lat (cs : List Int32) : Bool := cs.all fun c => decide (c.toInt < 256)
def own_bt (c : Int32) : Int32 := c.toInt8.toInt32
def own_hb (c : Int32) : Int32 := (c >>> ((8 : Int32) &&& 31)).toInt8.toInt32
def own_two (cs : List Int32) : List Int32 := cs.flatMap fun c => [own_bt c, own_hb c]
def own_enc (cs : List Int32) : List Int32 := if own_lat cs then cs.map own_bt else own_two cs
def own_cod (cs : List Int32) : Int32 := if own_lat cs then 0 else 1
abbrev own_ints (xs : List Int32) : List Value := xs.map Value.int
def own_Str (Z : State) (h : Heap) (a : Addr) (cs : List Int32) : Prop := Exa Z h a "java/lang/String" ∧ own_Chs cs ∧ cs.length < 2 ^ 30 ∧ ∃ b : Addr, Fld Z h a "java/lang/String" "value" "[B" (.ref b) ∧ Fld Z h a "java/lang/String" "coder" "B" (.int (own_cod cs)) ∧ own_Ary Z h b .byte (own_ints (own_enc cs))
theorem own_Str.ext {Z : State} {h h' : Heap} {a : Addr} {cs : List Int32} (F : own_Str Z h a cs) (E : Ext h h') : own_Str Z h' a cs := by
  obtain ⟨h1, h2, h3, b, h4, h5, h6⟩ := F
  exact ⟨h1.ext E, h2, h3, b, h4.ext E, h5.ext E, h6.ext E⟩
theorem own_Str.keepO {Z : State} {h h' : Heap} {a t : Addr} {cs : List Int32} {C : String} {kk : Nat} {a0 : Array Value} (F : own_Str Z h a cs) (k : Keep h h' [t]) (E : Exa Z h t C) (hC : C ≠ "java/lang/String") (wi : (Jvm.Cond.instantiable C kk).before a0 Z = true) : own_Str Z h' a cs := by
  obtain ⟨h1, h2, h3, b, h4, h5, h6⟩ := F
  have n1 : a ∉ [t] := ninS (ne_exa h1 E (Ne.symm hC)) nin0
  have n2 : b ∉ [t] := ninS (fun q => by obtain ⟨c, A, -⟩ := h6; exact ne_arr E wi A q.symm) nin0
  exact ⟨h1.keep k, h2, h3, b, h4.keep k n1, h5.keep k n1, h6.keep k n2⟩
theorem own_Str.lt {Z : State} {h : Heap} {a : Addr} {cs : List Int32} (F : own_Str Z h a cs) : a < h.size := F.1.lt
theorem own_ext_keep {h0 h h' : Heap} {ws : List Addr} (E : Ext h0 h) (k : Keep h h' ws) (q : ∀ x ∈ ws, h0.size ≤ x) : Ext h0 h' :=
  ⟨Nat.le_trans E.1 k.1, fun x c z => k.2.1 x c (E.2 x c z) fun m => by
    have := q x m
    have := (Array.getElem?_eq_some_iff.mp z).1
    omega⟩
theorem own_lit (n : Nat) (q : n < 2 ^ 31) : (n.toInt32).toInt = n := Int32.toInt_ofNat_small q
theorem own_add {x y : Int32} {a b : Int} (hx : x.toInt = a) (hy : y.toInt = b) (h1 : -2147483648 ≤ a + b) (h2 : a + b < 2147483648) : (x + y).toInt = a + b := by
  have := c_iadd x y
  have := rng32 (x + y)
  omega
theorem own_sub {x y : Int32} {a b : Int} (hx : x.toInt = a) (hy : y.toInt = b) (h1 : -2147483648 ≤ a - b) (h2 : a - b < 2147483648) : (x - y).toInt = a - b := by
  have := c_isub x y
  have := rng32 (x - y)
  omega
theorem own_setmid {α : Type} (L : List α) (z v : α) (k : Nat) : (L ++ List.replicate (k + 1) z).set L.length v = (L ++ [v]) ++ List.replicate k z := by
  simp [List.replicate_succ]
theorem own_bt_nar (c : Int32) : nar .byte (c.toInt8.toInt32) = own_bt c := by
  show (c.toInt8.toInt32).toInt8.toInt32 = c.toInt8.toInt32
  simp
theorem own_lat_get {cs : List Int32} (q : own_lat cs = true) {i : Nat} {c : Int32} (hc : cs[i]? = some c) : c.toInt < 256 := by
  have := List.all_eq_true.mp q c (List.mem_of_getElem? hc)
  simpa using this
theorem own_lat_snoc {cs : List Int32} {i : Nat} {c : Int32} (hc : cs[i]? = some c) (q : own_lat (cs.take i) = true) (hl : c.toInt < 256) : own_lat (cs.take (i + 1)) = true := by
  have e : cs.take (i + 1) = cs.take i ++ [c] := by rw [List.take_add_one, hc]; rfl
  rw [e]
  simp only [own_lat, List.all_append, Bool.and_eq_true] at q ⊢
  exact ⟨q, by simp [hl]⟩
theorem own_lat_no {cs : List Int32} {i : Nat} {c : Int32} (hc : cs[i]? = some c) (hl : ¬ c.toInt < 256) : own_lat cs = false := by
  cases q : own_lat cs
  · rfl
  · exact absurd (own_lat_get q hc) hl
theorem own_cod_byte (cs : List Int32) : narrow .byte (.int (own_cod cs)) = .int (own_cod cs) ∧ fits .byte (.int (own_cod cs)) = true := by
  unfold own_cod; split <;> exact ⟨rfl, rfl⟩
theorem own_enc_lat {cs : List Int32} (q : own_lat cs = true) : own_enc cs = cs.map own_bt ∧ own_cod cs = 0 := by simp [own_enc, own_cod, q]
theorem own_enc_utf {cs : List Int32} (q : own_lat cs = false) : own_enc cs = own_two cs ∧ own_cod cs = 1 := by simp [own_enc, own_cod, q]
theorem own_two_len (cs : List Int32) : (own_two cs).length = 2 * cs.length := by
  induction cs with
  | nil => rfl
  | cons c r ih => simp [own_two] at ih ⊢; omega
theorem own_ushr31 {x : Int32} (q : x.toInt < 0) : XT.ushr x 31 = 1 := by
  apply Int32.toInt_inj.mp
  have := c_iushr x 31 31 (by decide) (by decide)
  have r := rng32 x
  have e : (XT.ushr x 31).toInt = (x.toInt % 4294967296) / (2 ^ 31 : Nat) := this
  rw [e]
  have : (1 : Int32).toInt = 1 := rfl
  omega
theorem own_shl1 {x : Int32} {N : Nat} (hx : x.toInt = N) (hN : N < 2 ^ 29) : (x <<< ((1 : Int32) &&& 31)).toInt = ((2 * N : Nat) : Int) := by
  have := c_ishl x 1 1 (by decide)
  have := rng32 (x <<< ((1 : Int32) &&& 31))
  omega
theorem own_shr0 (x : Int32) : x >>> ((0 : Int32) &&& 31) = x := by
  apply Int32.toInt_inj.mp
  have := c_ishr x 0 0 (by decide)
  rw [this]; simp
theorem own_shl0 (x : Int32) : x <<< ((0 : Int32) &&& 31) = x := by
  apply Int32.toInt_inj.mp
  have := c_ishl x 0 0 (by decide)
  have := rng32 (x <<< ((0 : Int32) &&& 31))
  have := rng32 x
  omega
theorem own_i2c_id {x : Int32} (h0 : 0 ≤ x.toInt) (h1 : x.toInt < 65536) : x.toUInt32.toUInt16.toUInt32.toInt32 = x := by
  apply Int32.toInt_inj.mp
  have := c_i2c x
  omega
theorem own_join {c : Int32} (h0 : 0 ≤ c.toInt) (h1 : c.toInt < 65536) : ((own_bt c &&& 255) <<< ((0 : Int32) &&& 31)) ||| ((own_hb c &&& 255) <<< ((8 : Int32) &&& 31)) = c := by
  rw [own_shl0]
  have b1 := c_mask (own_bt c) 255 8 (by decide) (by decide)
  have b2 := (c_i2b c).1
  have s1 := c_ishr c 8 8 (by decide)
  have b3 := c_mask (own_hb c) 255 8 (by decide) (by decide)
  have b4 := (c_i2b (c >>> ((8 : Int32) &&& 31))).1
  have s2 := c_ishl (own_hb c &&& 255) 8 8 (by decide)
  have r2 := rng32 ((own_hb c &&& 255) <<< ((8 : Int32) &&& 31))
  have e1 : (own_bt c &&& 255).toInt = c.toInt % 256 := by
    have : (own_bt c).toInt = c.toInt8.toInt32.toInt := rfl
    omega
  have e2 : (own_hb c &&& 255).toInt = c.toInt / 256 := by
    have : (own_hb c).toInt = (c >>> ((8 : Int32) &&& 31)).toInt8.toInt32.toInt := rfl
    omega
  have e3 : ((own_hb c &&& 255) <<< ((8 : Int32) &&& 31)).toInt = c.toInt / 256 * 256 := by omega
  have o := c_or ((own_hb c &&& 255) <<< ((8 : Int32) &&& 31)) (own_bt c &&& 255) 8 (by decide) 256 (by decide) (by omega) (by omega) (by omega)
  rw [Int32.or_comm] at o
  apply Int32.toInt_inj.mp
  have r := rng32 ((own_bt c &&& 255) ||| (own_hb c &&& 255) <<< ((8 : Int32) &&& 31))
  omega
theorem own_two_get {cs : List Int32} : ∀ {i : Nat} {c : Int32}, cs[i]? = some c → (own_two cs)[2 * i]? = some (own_bt c) ∧ (own_two cs)[2 * i + 1]? = some (own_hb c) := by
  induction cs with
  | nil => intro i c hc; simp at hc
  | cons d r ih =>
    intro i c hc
    have e : own_two (d :: r) = own_bt d :: own_hb d :: own_two r := rfl
    cases i with
    | zero => simp at hc; subst hc; rw [e]; exact ⟨rfl, rfl⟩
    | succ i =>
      simp at hc
      have := ih hc
      rw [e, show 2 * (i + 1) = 2 * i + 2 by omega]
      exact ⟨by simpa using this.1, by simpa using this.2⟩
theorem own_settwo {α : Type} (L : List α) (z x y : α) (k : Nat) : ((L ++ List.replicate (2 * (k + 1)) z).set L.length x).set (L.length + 1) y = (L ++ [x, y]) ++ List.replicate (2 * k) z := by
  have e : List.replicate (2 * (k + 1)) z = z :: z :: List.replicate (2 * k) z := by
    rw [show 2 * (k + 1) = 2 * k + 1 + 1 by omega, List.replicate_succ, List.replicate_succ]
  rw [e]
  induction L with
  | nil => rfl
  | cons a r ih => simpa using ih
theorem own_two_snoc {cs : List Int32} {i : Nat} {c : Int32} (hc : cs[i]? = some c) : own_two (cs.take (i + 1)) = own_two (cs.take i) ++ [own_bt c, own_hb c] := by
  have e : cs.take (i + 1) = cs.take i ++ [c] := by rw [List.take_add_one, hc]; rfl
  rw [e]; simp [own_two]
theorem d_cp5_0 : decode jdk_52_method_21_code 0 = .ok (.iconst 0, 1) := by decide +kernel
theorem d_cp5_1 : decode jdk_52_method_21_code 1 = .ok (.istore 5, 2) := by decide +kernel
theorem d_cp5_3 : decode jdk_52_method_21_code 3 = .ok (.iload 5, 2) := by decide +kernel
theorem d_cp5_5 : decode jdk_52_method_21_code 5 = .ok (.iload 4, 2) := by decide +kernel
theorem d_cp5_7 : decode jdk_52_method_21_code 7 = .ok (.if_icmp .ge 37, 3) := by decide +kernel
theorem d_cp5_10 : decode jdk_52_method_21_code 10 = .ok (.aload_n 0, 1) := by decide +kernel
theorem d_cp5_11 : decode jdk_52_method_21_code 11 = .ok (.iload_n 1, 1) := by decide +kernel
theorem d_cp5_12 : decode jdk_52_method_21_code 12 = .ok (.caload, 1) := by decide +kernel
theorem d_cp5_13 : decode jdk_52_method_21_code 13 = .ok (.istore 6, 2) := by decide +kernel
theorem d_cp5_15 : decode jdk_52_method_21_code 15 = .ok (.iload 6, 2) := by decide +kernel
theorem d_cp5_17 : decode jdk_52_method_21_code 17 = .ok (.sipush 255, 3) := by decide +kernel
theorem d_cp5_20 : decode jdk_52_method_21_code 20 = .ok (.if_icmp .le 6, 3) := by decide +kernel
theorem d_cp5_23 : decode jdk_52_method_21_code 23 = .ok (.iload 5, 2) := by decide +kernel
theorem d_cp5_25 : decode jdk_52_method_21_code 25 = .ok (.ireturn, 1) := by decide +kernel
theorem d_cp5_26 : decode jdk_52_method_21_code 26 = .ok (.aload_n 2, 1) := by decide +kernel
theorem d_cp5_27 : decode jdk_52_method_21_code 27 = .ok (.iload_n 3, 1) := by decide +kernel
theorem d_cp5_28 : decode jdk_52_method_21_code 28 = .ok (.iload 6, 2) := by decide +kernel
theorem d_cp5_30 : decode jdk_52_method_21_code 30 = .ok (.i2b, 1) := by decide +kernel
theorem d_cp5_31 : decode jdk_52_method_21_code 31 = .ok (.bastore, 1) := by decide +kernel
theorem d_cp5_32 : decode jdk_52_method_21_code 32 = .ok (.iinc 1 1, 3) := by decide +kernel
theorem d_cp5_35 : decode jdk_52_method_21_code 35 = .ok (.iinc 3 1, 3) := by decide +kernel
theorem d_cp5_38 : decode jdk_52_method_21_code 38 = .ok (.iinc 5 1, 3) := by decide +kernel
theorem d_cp5_41 : decode jdk_52_method_21_code 41 = .ok (.goto (-38), 3) := by decide +kernel
theorem d_cp5_44 : decode jdk_52_method_21_code 44 = .ok (.iload 4, 2) := by decide +kernel
theorem d_cp5_46 : decode jdk_52_method_21_code 46 = .ok (.ireturn, 1) := by decide +kernel
abbrev M_cp5 : own_Mi := ((⟨"java/lang/StringUTF16", "compress", "([CI[BII)I"⟩ : MethodName), jdk_52_method_21_code, 7, (Option.some FieldType.int), ({ frames := 0, cells := 0, slots := 0, locals := 0 } : Room))
theorem pn_cp5 : plainFor (own_Mi.y M_cp5) = true := plainFor_of_name (by first | (simp [plainName, overriddenIn]; done) | decide +kernel)
def Q_cp5 (K : own_Cx) (b : Addr) (n : Int32) (cs : List Int32) (h : Heap) : own_Q := own_ret fun w h' _ => ∃ r : Int32, w = .int r ∧ Keep h h' [b] ∧ ((own_lat cs = true ∧ r = n ∧ own_Ary K.Z h' b .byte (own_ints (cs.map own_bt))) ∨ (own_lat cs = false ∧ ∃ (i : Nat) (c : Int32), r.toInt = i ∧ cs[i]? = some c ∧ 256 ≤ c.toInt))
set_option maxRecDepth 65536 in
set_option maxHeartbeats 40000000 in
theorem c_cp5 (K : own_Cx) (a0 : Array Value) (hw : ∀ d ∈ tables_1, d.before a0 K.Z = true) (a b : Addr) (n : Int32) (cs : List Int32) (h : Heap) (hn : n.toInt = cs.length) (hcs : own_Chs cs) (A : own_Ary K.Z h a .char (own_ints cs)) (Bq : own_Ary K.Z h b .byte (List.replicate cs.length (.int 0))) (hab : a ≠ b) :
    own_Met K M_cp5 #[.ref a, .int 0, .ref b, .int 0, .int n] [b] h (Q_cp5 K b n cs h) := by
  have hlen := rng32 n
  refine own_met_5_2 (M := M_cp5) pn_cp5 rfl (by first | rfl | exact own_cat (by assumption)) (by first | rfl | exact own_cat (by assumption)) (by first | rfl | exact own_cat (by assumption)) (by first | rfl | exact own_cat (by assumption)) (by first | rfl | exact own_cat (by assumption)) ?_
  refine own_iconst (v := (0 : Int32)) (pc' := 1) rfl d_cp5_0 rfl ?_
  refine own_istore_5 (pc' := 3) rfl d_cp5_1 (by first | exact One.u | exact One.val rfl | assumption | exact One.val (by assumption)) ?_
  suffices key : ∀ (k i : Nat) (j : Int32) (h1 : Heap) (o : Slot), i + k = cs.length → j.toInt = i → One o → Keep h h1 [b] → own_lat (cs.take i) = true → own_Ary K.Z h1 b .byte (own_ints ((cs.take i).map own_bt) ++ List.replicate k (.int 0)) → own_WP K M_cp5 (Q_cp5 K b n cs h) 3 [.val (.ref a), .val (.int j), .val (.ref b), .val (.int j), .val (.int n), .val (.int j), o] [] [b] h1 0 0 from
    key cs.length 0 0 h .unset (by simp) rfl One.u (Keep.refl _ _) (by simp [own_lat]) (by simpa using Bq)
  intro k
  induction k with
  | zero =>
    intro i j h1 o hik hj ho hk hl hA
    refine own_iload (pc' := 5) rfl d_cp5_3 rfl ?_
    refine own_iload (pc' := 7) rfl d_cp5_5 rfl ?_
    refine own_icmpge (pcT := 44) (pcF := 10) d_cp5_7 (by decide) (by decide) rfl (fun q => ?_) (fun q => ?_)
    · skip
      refine own_iload (pc' := 46) rfl d_cp5_44 rfl ?_
      refine own_ireturn rfl d_cp5_46 rfl rfl ?_
      have e : cs.take i = cs := List.take_of_length_le (by omega)
      rw [e] at hl hA
      exact ⟨n, rfl, hk, Or.inl ⟨hl, rfl, by simpa using hA⟩⟩
    · rw [Int32.lt_iff_toInt_lt] at q
      omega
  | succ k ih =>
    intro i j h1 o hik hj ho hk hl hA
    have hi : i < cs.length := by omega
    obtain ⟨c, hc⟩ : ∃ c, cs[i]? = some c := ⟨cs[i], by simp [hi]⟩
    have hcr := hcs c (List.mem_of_getElem? hc)
    refine own_iload (pc' := 5) rfl d_cp5_3 rfl ?_
    refine own_iload (pc' := 7) rfl d_cp5_5 rfl ?_
    refine own_icmpge (pcT := 44) (pcF := 10) d_cp5_7 (by decide) (by decide) rfl (fun q => ?_) (fun q => ?_)
    · exact absurd (by rw [Int32.lt_iff_toInt_lt]; omega) q
    · skip
      refine own_aload_n (pc' := 11) rfl d_cp5_10 rfl (by first | rfl | assumption) ?_
      refine own_iload_n (pc' := 12) rfl d_cp5_11 rfl ?_
      refine own_caload (pc' := 13) rfl d_cp5_12 (A.keep hk (ninS hab nin0)) (i := i) hj (by first | exact own_ints_get hc | exact own_ints_getM hc) ?_
      refine own_istore_6 (pc' := 15) rfl d_cp5_13 (by first | exact One.u | exact One.val rfl | assumption | exact One.val (by assumption)) ?_
      refine own_iload (pc' := 17) rfl d_cp5_15 rfl ?_
      refine own_sipush (v := (255 : Int32)) (pc' := 20) rfl d_cp5_17 rfl ?_
      refine own_icmple (pcT := 26) (pcF := 23) d_cp5_20 (by decide) (by decide) rfl (fun q2 => ?_) (fun q2 => ?_)
      · have hc2 : c.toInt < 256 := by
          rw [Int32.lt_iff_toInt_lt] at q2
          have : (255 : Int32).toInt = 255 := rfl
          omega
        refine own_aload_n (pc' := 27) rfl d_cp5_26 rfl (by first | rfl | assumption) ?_
        refine own_iload_n (pc' := 28) rfl d_cp5_27 rfl ?_
        refine own_iload (pc' := 30) rfl d_cp5_28 rfl ?_
        refine own_i2b (pc' := 31) rfl d_cp5_30 ?_
        refine own_bastore (pc' := 32) rfl d_cp5_31 hA (i := i) hj (by simp; omega) (own_bt_nar c) (by simp) ?_
        intro h2 k2 hA2
        refine own_iinc_1 (z := (1 : Int32)) (pc' := 35) rfl d_cp5_32 rfl ?_
        refine own_iinc_3 (z := (1 : Int32)) (pc' := 38) rfl d_cp5_35 rfl ?_
        refine own_iinc_5 (z := (1 : Int32)) (pc' := 41) rfl d_cp5_38 rfl ?_
        refine own_goto (pc' := 3) d_cp5_41 (by decide) (by decide) ?_
        have e1 : i = (own_ints ((cs.take i).map own_bt)).length := by simp; omega
        have e2 : own_ints ((cs.take (i + 1)).map own_bt) = own_ints ((cs.take i).map own_bt) ++ [.int (own_bt c)] := by
          have e : cs.take (i + 1) = cs.take i ++ [c] := by rw [List.take_add_one, hc]; rfl
          rw [e]; simp [own_ints]
        refine ih (i + 1) (j + 1) h2 _ (by omega) (by rw [own_add hj (by rfl : (1 : Int32).toInt = 1)] <;> omega) (One.val rfl) (hk.trans k2 (fun x hx => Or.inl hx)) (own_lat_snoc hc hl hc2) ?_
        rw [e2, ← own_setmid, ← e1]
        exact hA2
      · skip
        refine own_iload (pc' := 25) rfl d_cp5_23 rfl ?_
        refine own_ireturn rfl d_cp5_25 rfl rfl ?_
        have hc2 : 256 ≤ c.toInt := by
          rw [Int32.lt_iff_toInt_lt] at q2
          have : (255 : Int32).toInt = 255 := rfl
          omega
        exact ⟨j, rfl, hk, Or.inr ⟨own_lat_no hc (by omega), i, c, hj, hc, hc2⟩⟩
theorem d_cfa_0 : decode jdk_52_method_15_code 0 = .ok (.iload_n 1, 1) := by decide +kernel
theorem d_cfa_1 : decode jdk_52_method_15_code 1 = .ok (.aload_n 0, 1) := by decide +kernel
theorem d_cfa_2 : decode jdk_52_method_15_code 2 = .ok (.arraylength, 1) := by decide +kernel
theorem d_cfa_3 : decode jdk_52_method_15_code 3 = .ok (.isub, 1) := by decide +kernel
theorem d_cfa_4 : decode jdk_52_method_15_code 4 = .ok (.bipush 31, 2) := by decide +kernel
theorem d_cfa_6 : decode jdk_52_method_15_code 6 = .ok (.iushr, 1) := by decide +kernel
theorem d_cfa_7 : decode jdk_52_method_15_code 7 = .ok (.i2b, 1) := by decide +kernel
theorem d_cfa_8 : decode jdk_52_method_15_code 8 = .ok (.ireturn, 1) := by decide +kernel
abbrev M_cfa : own_Mi := ((⟨"java/lang/StringUTF16", "coderFromArrayLen", "([BI)B"⟩ : MethodName), jdk_52_method_15_code, 2, (Option.some FieldType.byte), ({ frames := 0, cells := 0, slots := 0, locals := 0 } : Room))
theorem pn_cfa : plainFor (own_Mi.y M_cfa) = true := plainFor_of_name (by first | (simp [plainName, overriddenIn]; done) | decide +kernel)
set_option maxRecDepth 65536 in
set_option maxHeartbeats 40000000 in
theorem c_cfa (K : own_Cx) (a0 : Array Value) (hw : ∀ d ∈ tables_1, d.before a0 K.Z = true) (b : Addr) (n : Int32) (cs : List Int32) (h : Heap) (hn : n.toInt = cs.length) (hl : cs.length < 2 ^ 30) (hp : 0 < cs.length) (Bq : own_Ary K.Z h b .byte (own_ints (own_enc cs))) :
    own_Met K M_cfa #[.ref b, .int n] [] h (own_ret fun w h' _ => w = .int (own_cod cs) ∧ h' = h) := by
  cases ql : own_lat cs
  · have hz : ((2 * cs.length).toInt32).toInt = ((2 * cs.length : Nat) : Int) := own_lit _ (by omega)
    refine own_met_2_0 (M := M_cfa) pn_cfa rfl (by first | rfl | exact own_cat (by assumption)) (by first | rfl | exact own_cat (by assumption)) ?_
    refine own_iload_n (pc' := 1) rfl d_cfa_0 rfl ?_
    refine own_aload_n (pc' := 2) rfl d_cfa_1 rfl (by first | rfl | assumption) ?_
    refine own_arrlen (z := (2 * cs.length).toInt32) (pc' := 3) rfl d_cfa_2 Bq (by rw [hz]; simp [(own_enc_utf ql).1, own_two_len]) ?_
    refine own_isub (pc' := 4) rfl d_cfa_3 ?_
    refine own_bipush (v := (31 : Int32)) (pc' := 6) rfl d_cfa_4 rfl ?_
    refine own_iushr (pc' := 7) rfl d_cfa_6 ?_
    refine own_i2b (pc' := 8) rfl d_cfa_7 ?_
    have e : XT.ushr (n - (2 * cs.length).toInt32) 31 = 1 := own_ushr31 (by rw [own_sub hn hz] <;> omega)
    rw [e]
    refine own_ireturnN (t := .byte) rfl (by simp) (z' := 1) rfl d_cfa_8 rfl rfl ?_
    exact ⟨by rw [(own_enc_utf ql).2], rfl⟩
  · skip
    refine own_met_2_0 (M := M_cfa) pn_cfa rfl (by first | rfl | exact own_cat (by assumption)) (by first | rfl | exact own_cat (by assumption)) ?_
    refine own_iload_n (pc' := 1) rfl d_cfa_0 rfl ?_
    refine own_aload_n (pc' := 2) rfl d_cfa_1 rfl (by first | rfl | assumption) ?_
    refine own_arrlen (z := n) (pc' := 3) rfl d_cfa_2 Bq (by rw [hn]; simp [(own_enc_lat ql).1]) ?_
    refine own_isub (pc' := 4) rfl d_cfa_3 ?_
    refine own_bipush (v := (31 : Int32)) (pc' := 6) rfl d_cfa_4 rfl ?_
    refine own_iushr (pc' := 7) rfl d_cfa_6 ?_
    refine own_i2b (pc' := 8) rfl d_cfa_7 ?_
    have e : XT.ushr (n - n) 31 = 0 := by rw [Int32.sub_self]; decide
    rw [e]
    refine own_ireturnN (t := .byte) rfl (by simp) (z' := 0) rfl d_cfa_8 rfl rfl ?_
    exact ⟨by rw [(own_enc_lat ql).2], rfl⟩
abbrev own_uC : String := "java/lang/StringUTF16"
def own_U16 (K : own_Cx) : Prop := Sta K.Z K.Z.heap own_uC "$assertionsDisabled" "Z" (.int 1) ∧ Sta K.Z K.Z.heap own_uC "HI_BYTE_SHIFT" "I" (.int 0) ∧ Sta K.Z K.Z.heap own_uC "LO_BYTE_SHIFT" "I" (.int 8)
theorem d_nbl_0 : decode jdk_52_method_3_code 0 = .ok (.iload_n 0, 1) := by decide +kernel
theorem d_nbl_1 : decode jdk_52_method_3_code 1 = .ok (.ifCond .ge 11, 3) := by decide +kernel
theorem d_nbl_12 : decode jdk_52_method_3_code 12 = .ok (.iload_n 0, 1) := by decide +kernel
theorem d_nbl_13 : decode jdk_52_method_3_code 13 = .ok (.ldc 20, 2) := by decide +kernel
theorem d_nbl_15 : decode jdk_52_method_3_code 15 = .ok (.if_icmp .lt 40, 3) := by decide +kernel
theorem d_nbl_55 : decode jdk_52_method_3_code 55 = .ok (.iload_n 0, 1) := by decide +kernel
theorem d_nbl_56 : decode jdk_52_method_3_code 56 = .ok (.iconst 1, 1) := by decide +kernel
theorem d_nbl_57 : decode jdk_52_method_3_code 57 = .ok (.ishl, 1) := by decide +kernel
theorem d_nbl_58 : decode jdk_52_method_3_code 58 = .ok (.ireturn, 1) := by decide +kernel
abbrev M_nbl : own_Mi := ((⟨"java/lang/StringUTF16", "newBytesLength", "(I)I"⟩ : MethodName), jdk_52_method_3_code, 1, (Option.some FieldType.int), ({ frames := 0, cells := 0, slots := 0, locals := 0 } : Room))
theorem pn_nbl : plainFor (own_Mi.y M_nbl) = true := plainFor_of_name (by first | (simp [plainName, overriddenIn]; done) | decide +kernel)
set_option maxRecDepth 65536 in
set_option maxHeartbeats 40000000 in
theorem c_nbl (K : own_Cx) (a0 : Array Value) (hw : ∀ d ∈ tables_1, d.before a0 K.Z = true) (n : Int32) (N : Nat) (h : Heap) (hn : n.toInt = N) (hN : N < 2 ^ 29) :
    own_Met K M_nbl #[.int n] [] h (own_ret fun w h' _ => ∃ r : Int32, w = .int r ∧ r.toInt = ((2 * N : Nat) : Int) ∧ h' = h) := by
  refine own_met_1_0 (M := M_nbl) pn_nbl rfl (by first | rfl | exact own_cat (by assumption)) ?_
  refine own_iload_n (pc' := 1) rfl d_nbl_0 rfl ?_
  refine own_ifge (pcT := 12) (pcF := 4) d_nbl_1 (by decide) (by decide) rfl (fun q => ?_) (fun q => ?_)
  · skip
    refine own_iload_n (pc' := 13) rfl d_nbl_12 rfl ?_
    refine own_ldcI (pc' := 15) rfl d_nbl_13 (tw_225 hw) ?_
    refine own_icmplt (pcT := 55) (pcF := 18) d_nbl_15 (by decide) (by decide) rfl (fun q2 => ?_) (fun q2 => ?_)
    · skip
      refine own_iload_n (pc' := 56) rfl d_nbl_55 rfl ?_
      refine own_iconst (v := (1 : Int32)) (pc' := 57) rfl d_nbl_56 rfl ?_
      refine own_ishl (pc' := 58) rfl d_nbl_57 ?_
      refine own_ireturn rfl d_nbl_58 rfl rfl ?_
      exact ⟨_, rfl, own_shl1 hn hN, rfl⟩
    · exfalso
      rw [Int32.lt_iff_toInt_lt] at q2
      have : (1073741823 : Int32).toInt = 1073741823 := rfl
      omega
  · exfalso
    rw [Int32.lt_iff_toInt_lt] at q
    have : (0 : Int32).toInt = 0 := rfl
    omega
theorem d_nbf_0 : decode jdk_52_method_2_code 0 = .ok (.iload_n 0, 1) := by decide +kernel
theorem d_nbf_1 : decode jdk_52_method_2_code 1 = .ok (.invokestatic 11, 3) := by decide +kernel
theorem d_nbf_4 : decode jdk_52_method_2_code 4 = .ok (.newarray .byte, 2) := by decide +kernel
theorem d_nbf_6 : decode jdk_52_method_2_code 6 = .ok (.areturn, 1) := by decide +kernel
abbrev M_nbf : own_Mi := ((⟨"java/lang/StringUTF16", "newBytesFor", "(I)[B"⟩ : MethodName), jdk_52_method_2_code, 1, (Option.some (FieldType.array FieldType.byte)), ({ frames := 1, cells := 1, slots := 4, locals := 12 } : Room))
theorem pn_nbf : plainFor (own_Mi.y M_nbf) = true := plainFor_of_name (by first | (simp [plainName, overriddenIn]; done) | decide +kernel)
set_option maxRecDepth 65536 in
set_option maxHeartbeats 40000000 in
theorem c_nbf (K : own_Cx) (a0 : Array Value) (hw : ∀ d ∈ tables_1, d.before a0 K.Z = true) (n : Int32) (N : Nat) (h : Heap) (hn : n.toInt = N) (hN : N ≤ 2) :
    own_Met K M_nbf #[.int n] [] h (own_ret fun w h' xs => ∃ b : Addr, w = .ref b ∧ Ext h h' ∧ h.size ≤ b ∧ b ∈ xs ∧ own_Ary K.Z h' b .byte (List.replicate (2 * N) (.int 0))) := by
  refine own_met_1_0 (M := M_nbf) pn_nbf rfl (by first | rfl | exact own_cat (by assumption)) ?_
  refine own_iload_n (pc' := 1) rfl d_nbf_0 rfl ?_
  refine own_static1v (M' := M_nbl) d_nbf_1 (pc' := 4) rfl (tw_222 hw) (tw_223 hw) (tw_211 hw) (tw_224 hw) (by decide) rfl (own_lenOf pd_0 rfl) rfl rfl rfl rfl (c_nbl K a0 hw n N h hn (by omega)) (by simp) ?_
  rintro w h1 xs ⟨r, rfl, hr, rfl⟩
  refine own_newarray (pc' := 6) rfl d_nbf_4 (tw_33 hw) (N := (2 * N)) (cap := 4) hr (by omega) rfl rfl rfl ?_
  intro b h2 eb E2 B2
  refine own_areturn rfl rfl (by first | rfl | assumption) d_nbf_6 rfl rfl ?_
  exact ⟨b, rfl, E2, by omega, by simp, B2⟩
theorem d_pch_0 : decode jdk_52_method_4_code 0 = .ok (.getstatic 44, 3) := by decide +kernel
theorem d_pch_3 : decode jdk_52_method_4_code 3 = .ok (.ifCond .ne 25, 3) := by decide +kernel
theorem d_pch_28 : decode jdk_52_method_4_code 28 = .ok (.iload_n 1, 1) := by decide +kernel
theorem d_pch_29 : decode jdk_52_method_4_code 29 = .ok (.iconst 1, 1) := by decide +kernel
theorem d_pch_30 : decode jdk_52_method_4_code 30 = .ok (.ishl, 1) := by decide +kernel
theorem d_pch_31 : decode jdk_52_method_4_code 31 = .ok (.istore_n 1, 1) := by decide +kernel
theorem d_pch_32 : decode jdk_52_method_4_code 32 = .ok (.aload_n 0, 1) := by decide +kernel
theorem d_pch_33 : decode jdk_52_method_4_code 33 = .ok (.iload_n 1, 1) := by decide +kernel
theorem d_pch_34 : decode jdk_52_method_4_code 34 = .ok (.iinc 1 1, 3) := by decide +kernel
theorem d_pch_37 : decode jdk_52_method_4_code 37 = .ok (.iload_n 2, 1) := by decide +kernel
theorem d_pch_38 : decode jdk_52_method_4_code 38 = .ok (.getstatic 59, 3) := by decide +kernel
theorem d_pch_41 : decode jdk_52_method_4_code 41 = .ok (.ishr, 1) := by decide +kernel
theorem d_pch_42 : decode jdk_52_method_4_code 42 = .ok (.i2b, 1) := by decide +kernel
theorem d_pch_43 : decode jdk_52_method_4_code 43 = .ok (.bastore, 1) := by decide +kernel
theorem d_pch_44 : decode jdk_52_method_4_code 44 = .ok (.aload_n 0, 1) := by decide +kernel
theorem d_pch_45 : decode jdk_52_method_4_code 45 = .ok (.iload_n 1, 1) := by decide +kernel
theorem d_pch_46 : decode jdk_52_method_4_code 46 = .ok (.iload_n 2, 1) := by decide +kernel
theorem d_pch_47 : decode jdk_52_method_4_code 47 = .ok (.getstatic 63, 3) := by decide +kernel
theorem d_pch_50 : decode jdk_52_method_4_code 50 = .ok (.ishr, 1) := by decide +kernel
theorem d_pch_51 : decode jdk_52_method_4_code 51 = .ok (.i2b, 1) := by decide +kernel
theorem d_pch_52 : decode jdk_52_method_4_code 52 = .ok (.bastore, 1) := by decide +kernel
theorem d_pch_53 : decode jdk_52_method_4_code 53 = .ok (.return_, 1) := by decide +kernel
abbrev M_pch : own_Mi := ((⟨"java/lang/StringUTF16", "putChar", "([BII)V"⟩ : MethodName), jdk_52_method_4_code, 3, (Option.none : Option FieldType), ({ frames := 0, cells := 0, slots := 0, locals := 0 } : Room))
theorem pn_pch : plainFor (own_Mi.y M_pch) = true := plainFor_of_name (by first | (simp [plainName, overriddenIn]; done) | decide +kernel)
set_option maxRecDepth 65536 in
set_option maxHeartbeats 40000000 in
theorem c_pch (K : own_Cx) (a0 : Array Value) (hw : ∀ d ∈ tables_1, d.before a0 K.Z = true) (hU : own_U16 K) (b : Addr) (i c : Int32) (I : Nat) (vs : List Value) (h : Heap) (hi : i.toInt = I) (hI : 2 * I + 1 < vs.length) (hI2 : I < 2 ^ 29) (B : own_Ary K.Z h b .byte vs) :
    own_Met K M_pch #[.ref b, .int i, .int c] [b] h (own_void fun h' _ => Keep h h' [b] ∧ own_Ary K.Z h' b .byte ((vs.set (2 * I) (.int (own_bt c))).set (2 * I + 1) (.int (own_hb c)))) := by
  obtain ⟨u1, u2, u3⟩ := hU
  have hj := own_shl1 hi hI2
  refine own_met_3_0 (M := M_pch) pn_pch rfl (by first | rfl | exact own_cat (by assumption)) (by first | rfl | exact own_cat (by assumption)) (by first | rfl | exact own_cat (by assumption)) ?_
  refine own_getS (pc' := 3) rfl d_pch_0 (tw_229 hw) Via.refl (by assumption) ?_
  refine own_ifne (pcT := 28) (pcF := 6) d_pch_3 (by decide) (by decide) rfl (fun q => ?_) (fun q => ?_)
  · skip
    refine own_iload_n (pc' := 29) rfl d_pch_28 rfl ?_
    refine own_iconst (v := (1 : Int32)) (pc' := 30) rfl d_pch_29 rfl ?_
    refine own_ishl (pc' := 31) rfl d_pch_30 ?_
    refine own_istore_n1 (pc' := 32) rfl d_pch_31 (by first | exact One.u | exact One.val rfl | assumption | exact One.val (by assumption)) ?_
    refine own_aload_n (pc' := 33) rfl d_pch_32 rfl (by first | rfl | assumption) ?_
    refine own_iload_n (pc' := 34) rfl d_pch_33 rfl ?_
    refine own_iinc_1 (z := (1 : Int32)) (pc' := 37) rfl d_pch_34 rfl ?_
    refine own_iload_n (pc' := 38) rfl d_pch_37 rfl ?_
    refine own_getS (pc' := 41) rfl d_pch_38 (tw_230 hw) Via.refl (by assumption) ?_
    refine own_ishr (pc' := 42) rfl d_pch_41 ?_
    refine own_i2b (pc' := 43) rfl d_pch_42 ?_
    refine own_bastore (pc' := 44) rfl d_pch_43 B (i := (2 * I)) hj (by omega) ((congrArg (fun z : Int32 => nar .byte (z.toInt8.toInt32)) (own_shr0 c)).trans (own_bt_nar c)) (by simp) ?_
    intro h1 k1 B1
    refine own_aload_n (pc' := 45) rfl d_pch_44 rfl (by first | rfl | assumption) ?_
    refine own_iload_n (pc' := 46) rfl d_pch_45 rfl ?_
    refine own_iload_n (pc' := 47) rfl d_pch_46 rfl ?_
    refine own_getS (pc' := 50) rfl d_pch_47 (tw_231 hw) Via.refl (by assumption) ?_
    refine own_ishr (pc' := 51) rfl d_pch_50 ?_
    refine own_i2b (pc' := 52) rfl d_pch_51 ?_
    refine own_bastore (pc' := 53) rfl d_pch_52 B1 (i := (2 * I + 1)) (by rw [own_add hj (by rfl : (1 : Int32).toInt = 1)] <;> omega) (by simpa using hI) (own_bt_nar (c >>> ((8 : Int32) &&& 31))) (by simp) ?_
    intro h2 k2 B2
    refine own_return rfl d_pch_53 rfl rfl ?_
    exact ⟨k1.trans k2 (fun x hx => Or.inl hx), B2⟩
  · exact absurd q (by decide)
theorem d_tb3_0 : decode jdk_52_method_14_code 0 = .ok (.iload_n 2, 1) := by decide +kernel
theorem d_tb3_1 : decode jdk_52_method_14_code 1 = .ok (.invokestatic 107, 3) := by decide +kernel
theorem d_tb3_4 : decode jdk_52_method_14_code 4 = .ok (.astore_n 3, 1) := by decide +kernel
theorem d_tb3_5 : decode jdk_52_method_14_code 5 = .ok (.iconst 0, 1) := by decide +kernel
theorem d_tb3_6 : decode jdk_52_method_14_code 6 = .ok (.istore 4, 2) := by decide +kernel
theorem d_tb3_8 : decode jdk_52_method_14_code 8 = .ok (.iload 4, 2) := by decide +kernel
theorem d_tb3_10 : decode jdk_52_method_14_code 10 = .ok (.iload_n 2, 1) := by decide +kernel
theorem d_tb3_11 : decode jdk_52_method_14_code 11 = .ok (.if_icmp .ge 21, 3) := by decide +kernel
theorem d_tb3_14 : decode jdk_52_method_14_code 14 = .ok (.aload_n 3, 1) := by decide +kernel
theorem d_tb3_15 : decode jdk_52_method_14_code 15 = .ok (.iload 4, 2) := by decide +kernel
theorem d_tb3_17 : decode jdk_52_method_14_code 17 = .ok (.aload_n 0, 1) := by decide +kernel
theorem d_tb3_18 : decode jdk_52_method_14_code 18 = .ok (.iload_n 1, 1) := by decide +kernel
theorem d_tb3_19 : decode jdk_52_method_14_code 19 = .ok (.caload, 1) := by decide +kernel
theorem d_tb3_20 : decode jdk_52_method_14_code 20 = .ok (.invokestatic 111, 3) := by decide +kernel
theorem d_tb3_23 : decode jdk_52_method_14_code 23 = .ok (.iinc 1 1, 3) := by decide +kernel
theorem d_tb3_26 : decode jdk_52_method_14_code 26 = .ok (.iinc 4 1, 3) := by decide +kernel
theorem d_tb3_29 : decode jdk_52_method_14_code 29 = .ok (.goto (-21), 3) := by decide +kernel
theorem d_tb3_32 : decode jdk_52_method_14_code 32 = .ok (.aload_n 3, 1) := by decide +kernel
theorem d_tb3_33 : decode jdk_52_method_14_code 33 = .ok (.areturn, 1) := by decide +kernel
abbrev M_tb3 : own_Mi := ((⟨"java/lang/StringUTF16", "toBytes", "([CII)[B"⟩ : MethodName), jdk_52_method_14_code, 5, (Option.some (FieldType.array FieldType.byte)), ({ frames := 2, cells := 1, slots := 4, locals := 24 } : Room))
theorem pn_tb3 : plainFor (own_Mi.y M_tb3) = true := plainFor_of_name (by first | (simp [plainName, overriddenIn]; done) | decide +kernel)
set_option maxRecDepth 65536 in
set_option maxHeartbeats 40000000 in
theorem c_tb3 (K : own_Cx) (a0 : Array Value) (hw : ∀ d ∈ tables_1, d.before a0 K.Z = true) (hU : own_U16 K) (a : Addr) (n : Int32) (cs : List Int32) (h : Heap) (hn : n.toInt = cs.length) (hcap : cs.length ≤ 2) (hcs : own_Chs cs) (A : own_Ary K.Z h a .char (own_ints cs)) :
    own_Met K M_tb3 #[.ref a, .int 0, .int n] [] h (own_ret fun w h' _ => ∃ b : Addr, w = .ref b ∧ Ext h h' ∧ h.size ≤ b ∧ own_Ary K.Z h' b .byte (own_ints (own_two cs))) := by
  refine own_met_3_2 (M := M_tb3) pn_tb3 rfl (by first | rfl | exact own_cat (by assumption)) (by first | rfl | exact own_cat (by assumption)) (by first | rfl | exact own_cat (by assumption)) ?_
  refine own_iload_n (pc' := 1) rfl d_tb3_0 rfl ?_
  refine own_static1v (M' := M_nbf) d_tb3_1 (pc' := 4) rfl (tw_219 hw) (tw_220 hw) (tw_211 hw) (tw_221 hw) (by decide) rfl (own_lenOf pd_1 rfl) rfl rfl rfl rfl (c_nbf K a0 hw n cs.length h hn hcap) (by simp) ?_
  rintro w h1 xs ⟨b, rfl, E1, hb1, hbx, B1⟩
  refine own_astore_n3 (pc' := 5) rfl d_tb3_4 (by first | exact One.u | exact One.val rfl | assumption | exact One.val (by assumption)) (by first | rfl | assumption) ?_
  refine own_iconst (v := (0 : Int32)) (pc' := 6) rfl d_tb3_5 rfl ?_
  refine own_istore_4 (pc' := 8) rfl d_tb3_6 (by first | exact One.u | exact One.val rfl | assumption | exact One.val (by assumption)) ?_
  suffices key : ∀ (k i : Nat) (j : Int32) (h2 : Heap) (sf : List Addr), i + k = cs.length → j.toInt = i → b ∈ sf → Ext h h2 → own_Ary K.Z h2 b .byte (own_ints (own_two (cs.take i)) ++ List.replicate (2 * k) (.int 0)) → own_WP K M_tb3 (own_ret fun w h' _ => ∃ b : Addr, w = .ref b ∧ Ext h h' ∧ h.size ≤ b ∧ own_Ary K.Z h' b .byte (own_ints (own_two cs))) 8 [.val (.ref a), .val (.int j), .val (.int n), .val (.ref b), .val (.int j)] [] sf h2 1 4 from
    own_weak (key cs.length 0 0 h1 _ (by simp) rfl (by simpa using hbx) E1 (by simpa [own_two] using B1)) (fun x hx => hx) (by exact Nat.le_of_ble_eq_true rfl) (by exact Nat.le_of_ble_eq_true rfl)
  intro k
  induction k with
  | zero =>
    intro i j h2 sf hik hj hbs E2 B2
    refine own_iload (pc' := 10) rfl d_tb3_8 rfl ?_
    refine own_iload_n (pc' := 11) rfl d_tb3_10 rfl ?_
    refine own_icmpge (pcT := 32) (pcF := 14) d_tb3_11 (by decide) (by decide) rfl (fun q => ?_) (fun q => ?_)
    · skip
      refine own_aload_n (pc' := 33) rfl d_tb3_32 rfl (by first | rfl | assumption) ?_
      refine own_areturn rfl rfl (by first | rfl | assumption) d_tb3_33 rfl rfl ?_
      have e : cs.take i = cs := List.take_of_length_le (by omega)
      rw [e] at B2
      exact ⟨b, rfl, E2, hb1, by simpa using B2⟩
    · rw [Int32.lt_iff_toInt_lt] at q
      omega
  | succ k ih =>
    intro i j h2 sf hik hj hbs E2 B2
    have hi : i < cs.length := by omega
    obtain ⟨c, hc⟩ : ∃ c, cs[i]? = some c := ⟨cs[i], by simp [hi]⟩
    have e1 : (own_ints (own_two (cs.take i))).length = 2 * i := by simp [own_two_len]; omega
    refine own_iload (pc' := 10) rfl d_tb3_8 rfl ?_
    refine own_iload_n (pc' := 11) rfl d_tb3_10 rfl ?_
    refine own_icmpge (pcT := 32) (pcF := 14) d_tb3_11 (by decide) (by decide) rfl (fun q => ?_) (fun q => ?_)
    · exact absurd (by rw [Int32.lt_iff_toInt_lt]; omega) q
    · skip
      refine own_aload_n (pc' := 15) rfl d_tb3_14 rfl (by first | rfl | assumption) ?_
      refine own_iload (pc' := 17) rfl d_tb3_15 rfl ?_
      refine own_aload_n (pc' := 18) rfl d_tb3_17 rfl (by first | rfl | assumption) ?_
      refine own_iload_n (pc' := 19) rfl d_tb3_18 rfl ?_
      refine own_caload (pc' := 20) rfl d_tb3_19 (A.ext E2) (i := i) hj (by first | exact own_ints_get hc | exact own_ints_getM hc) ?_
      refine own_static3n (M' := M_pch) d_tb3_20 (pc' := 23) rfl (tw_226 hw) (tw_227 hw) (tw_211 hw) (tw_228 hw) (by decide) rfl (own_lenOf pd_2 rfl) rfl rfl rfl rfl (c_pch K a0 hw hU b j c i _ h2 hj (by rw [List.length_append, e1, List.length_replicate]; omega) (by omega) B2) (by simpa using hbs) ?_
      rintro h3 xs3 ⟨k3, B3⟩
      refine own_iinc_1 (z := (1 : Int32)) (pc' := 26) rfl d_tb3_23 rfl ?_
      refine own_iinc_4 (z := (1 : Int32)) (pc' := 29) rfl d_tb3_26 rfl ?_
      refine own_goto (pc' := 8) d_tb3_29 (by decide) (by decide) ?_
      refine own_weak (ih (i + 1) (j + 1) h3 _ (by omega) (by rw [own_add hj (by rfl : (1 : Int32).toInt = 1)] <;> omega) (List.mem_append_right _ hbs) (own_ext_keep E2 k3 (by intro x hx; cases List.mem_singleton.mp hx; omega)) ?_) (fun x hx => hx) (by exact Nat.le_of_ble_eq_true rfl) (by exact Nat.le_of_ble_eq_true rfl)
      rw [own_two_snoc hc]
      have e2 : own_ints (own_two (cs.take i) ++ [own_bt c, own_hb c]) = own_ints (own_two (cs.take i)) ++ [.int (own_bt c), .int (own_hb c)] := by simp [own_ints]
      rw [e2, ← own_settwo, e1]
      exact B3
theorem d_gc_0 : decode jdk_52_method_5_code 0 = .ok (.getstatic 44, 3) := by decide +kernel
theorem d_gc_3 : decode jdk_52_method_5_code 3 = .ok (.ifCond .ne 25, 3) := by decide +kernel
theorem d_gc_28 : decode jdk_52_method_5_code 28 = .ok (.iload_n 1, 1) := by decide +kernel
theorem d_gc_29 : decode jdk_52_method_5_code 29 = .ok (.iconst 1, 1) := by decide +kernel
theorem d_gc_30 : decode jdk_52_method_5_code 30 = .ok (.ishl, 1) := by decide +kernel
theorem d_gc_31 : decode jdk_52_method_5_code 31 = .ok (.istore_n 1, 1) := by decide +kernel
theorem d_gc_32 : decode jdk_52_method_5_code 32 = .ok (.aload_n 0, 1) := by decide +kernel
theorem d_gc_33 : decode jdk_52_method_5_code 33 = .ok (.iload_n 1, 1) := by decide +kernel
theorem d_gc_34 : decode jdk_52_method_5_code 34 = .ok (.iinc 1 1, 3) := by decide +kernel
theorem d_gc_37 : decode jdk_52_method_5_code 37 = .ok (.baload, 1) := by decide +kernel
theorem d_gc_38 : decode jdk_52_method_5_code 38 = .ok (.sipush 255, 3) := by decide +kernel
theorem d_gc_41 : decode jdk_52_method_5_code 41 = .ok (.iand, 1) := by decide +kernel
theorem d_gc_42 : decode jdk_52_method_5_code 42 = .ok (.getstatic 59, 3) := by decide +kernel
theorem d_gc_45 : decode jdk_52_method_5_code 45 = .ok (.ishl, 1) := by decide +kernel
theorem d_gc_46 : decode jdk_52_method_5_code 46 = .ok (.aload_n 0, 1) := by decide +kernel
theorem d_gc_47 : decode jdk_52_method_5_code 47 = .ok (.iload_n 1, 1) := by decide +kernel
theorem d_gc_48 : decode jdk_52_method_5_code 48 = .ok (.baload, 1) := by decide +kernel
theorem d_gc_49 : decode jdk_52_method_5_code 49 = .ok (.sipush 255, 3) := by decide +kernel
theorem d_gc_52 : decode jdk_52_method_5_code 52 = .ok (.iand, 1) := by decide +kernel
theorem d_gc_53 : decode jdk_52_method_5_code 53 = .ok (.getstatic 63, 3) := by decide +kernel
theorem d_gc_56 : decode jdk_52_method_5_code 56 = .ok (.ishl, 1) := by decide +kernel
theorem d_gc_57 : decode jdk_52_method_5_code 57 = .ok (.ior, 1) := by decide +kernel
theorem d_gc_58 : decode jdk_52_method_5_code 58 = .ok (.i2c, 1) := by decide +kernel
theorem d_gc_59 : decode jdk_52_method_5_code 59 = .ok (.ireturn, 1) := by decide +kernel
abbrev M_gc : own_Mi := ((⟨"java/lang/StringUTF16", "getChar", "([BI)C"⟩ : MethodName), jdk_52_method_5_code, 2, (Option.some FieldType.char), ({ frames := 0, cells := 0, slots := 0, locals := 0 } : Room))
theorem pn_gc : plainFor (own_Mi.y M_gc) = true := plainFor_of_name (by first | (simp [plainName, overriddenIn]; done) | decide +kernel)
set_option maxRecDepth 65536 in
set_option maxHeartbeats 40000000 in
theorem c_gc (K : own_Cx) (a0 : Array Value) (hw : ∀ d ∈ tables_1, d.before a0 K.Z = true) (hU : own_U16 K) (b : Addr) (r : Int32) (i : Nat) (c : Int32) (cs : List Int32) (h : Heap) (hr : r.toInt = i) (hc : cs[i]? = some c) (hi : i < 2 ^ 29) (hcs : own_Chs cs) (B : own_Ary K.Z h b .byte (own_ints (own_two cs))) :
    own_Met K M_gc #[.ref b, .int r] [] h (own_ret fun w h' _ => w = .int c ∧ h' = h) := by
  obtain ⟨u1, u2, u3⟩ := hU
  have hj := own_shl1 hr hi
  have g := own_two_get hc
  have hcr := hcs c (List.mem_of_getElem? hc)
  refine own_met_2_0 (M := M_gc) pn_gc rfl (by first | rfl | exact own_cat (by assumption)) (by first | rfl | exact own_cat (by assumption)) ?_
  refine own_getS (pc' := 3) rfl d_gc_0 (tw_229 hw) Via.refl (by assumption) ?_
  refine own_ifne (pcT := 28) (pcF := 6) d_gc_3 (by decide) (by decide) rfl (fun q => ?_) (fun q => ?_)
  · skip
    refine own_iload_n (pc' := 29) rfl d_gc_28 rfl ?_
    refine own_iconst (v := (1 : Int32)) (pc' := 30) rfl d_gc_29 rfl ?_
    refine own_ishl (pc' := 31) rfl d_gc_30 ?_
    refine own_istore_n1 (pc' := 32) rfl d_gc_31 (by first | exact One.u | exact One.val rfl | assumption | exact One.val (by assumption)) ?_
    refine own_aload_n (pc' := 33) rfl d_gc_32 rfl (by first | rfl | assumption) ?_
    refine own_iload_n (pc' := 34) rfl d_gc_33 rfl ?_
    refine own_iinc_1 (z := (1 : Int32)) (pc' := 37) rfl d_gc_34 rfl ?_
    refine own_baload (pc' := 38) rfl d_gc_37 B (i := (2 * i)) hj (by first | exact own_ints_get g.1 | exact own_ints_getM g.1) ?_
    refine own_sipush (v := (255 : Int32)) (pc' := 41) rfl d_gc_38 rfl ?_
    refine own_iand (pc' := 42) rfl d_gc_41 ?_
    refine own_getS (pc' := 45) rfl d_gc_42 (tw_230 hw) Via.refl (by assumption) ?_
    refine own_ishl (pc' := 46) rfl d_gc_45 ?_
    refine own_aload_n (pc' := 47) rfl d_gc_46 rfl (by first | rfl | assumption) ?_
    refine own_iload_n (pc' := 48) rfl d_gc_47 rfl ?_
    refine own_baload (pc' := 49) rfl d_gc_48 B (i := (2 * i + 1)) (by rw [own_add hj (by rfl : (1 : Int32).toInt = 1)] <;> omega) (by first | exact own_ints_get g.2 | exact own_ints_getM g.2) ?_
    refine own_sipush (v := (255 : Int32)) (pc' := 52) rfl d_gc_49 rfl ?_
    refine own_iand (pc' := 53) rfl d_gc_52 ?_
    refine own_getS (pc' := 56) rfl d_gc_53 (tw_231 hw) Via.refl (by assumption) ?_
    refine own_ishl (pc' := 57) rfl d_gc_56 ?_
    refine own_ior (pc' := 58) rfl d_gc_57 ?_
    refine own_i2c (pc' := 59) rfl d_gc_58 ?_
    rw [own_join hcr.1 hcr.2, own_i2c_id hcr.1 hcr.2]
    refine own_ireturnN (t := .char) rfl (by simp) (own_i2c_id hcr.1 hcr.2) d_gc_59 rfl rfl ?_
    exact ⟨rfl, rfl⟩
  · exact absurd q (by decide)
theorem d_cp3_0 : decode jdk_52_method_16_code 0 = .ok (.iload_n 2, 1) := by decide +kernel
theorem d_cp3_1 : decode jdk_52_method_16_code 1 = .ok (.newarray .byte, 2) := by decide +kernel
theorem d_cp3_3 : decode jdk_52_method_16_code 3 = .ok (.astore_n 3, 1) := by decide +kernel
theorem d_cp3_4 : decode jdk_52_method_16_code 4 = .ok (.aload_n 0, 1) := by decide +kernel
theorem d_cp3_5 : decode jdk_52_method_16_code 5 = .ok (.iload_n 1, 1) := by decide +kernel
theorem d_cp3_6 : decode jdk_52_method_16_code 6 = .ok (.aload_n 3, 1) := by decide +kernel
theorem d_cp3_7 : decode jdk_52_method_16_code 7 = .ok (.iconst 0, 1) := by decide +kernel
theorem d_cp3_8 : decode jdk_52_method_16_code 8 = .ok (.iload_n 2, 1) := by decide +kernel
theorem d_cp3_9 : decode jdk_52_method_16_code 9 = .ok (.invokestatic 115, 3) := by decide +kernel
theorem d_cp3_12 : decode jdk_52_method_16_code 12 = .ok (.istore 4, 2) := by decide +kernel
theorem d_cp3_14 : decode jdk_52_method_16_code 14 = .ok (.iload 4, 2) := by decide +kernel
theorem d_cp3_16 : decode jdk_52_method_16_code 16 = .ok (.iload_n 2, 1) := by decide +kernel
theorem d_cp3_17 : decode jdk_52_method_16_code 17 = .ok (.if_icmp .eq 40, 3) := by decide +kernel
theorem d_cp3_20 : decode jdk_52_method_16_code 20 = .ok (.aload_n 0, 1) := by decide +kernel
theorem d_cp3_21 : decode jdk_52_method_16_code 21 = .ok (.iload_n 1, 1) := by decide +kernel
theorem d_cp3_22 : decode jdk_52_method_16_code 22 = .ok (.iload_n 2, 1) := by decide +kernel
theorem d_cp3_23 : decode jdk_52_method_16_code 23 = .ok (.invokestatic 119, 3) := by decide +kernel
theorem d_cp3_26 : decode jdk_52_method_16_code 26 = .ok (.astore 5, 2) := by decide +kernel
theorem d_cp3_28 : decode jdk_52_method_16_code 28 = .ok (.aload 5, 2) := by decide +kernel
theorem d_cp3_30 : decode jdk_52_method_16_code 30 = .ok (.iload 4, 2) := by decide +kernel
theorem d_cp3_32 : decode jdk_52_method_16_code 32 = .ok (.invokestatic 71, 3) := by decide +kernel
theorem d_cp3_35 : decode jdk_52_method_16_code 35 = .ok (.sipush 255, 3) := by decide +kernel
theorem d_cp3_38 : decode jdk_52_method_16_code 38 = .ok (.if_icmp .gt 16, 3) := by decide +kernel
theorem d_cp3_54 : decode jdk_52_method_16_code 54 = .ok (.aload 5, 2) := by decide +kernel
theorem d_cp3_56 : decode jdk_52_method_16_code 56 = .ok (.areturn, 1) := by decide +kernel
theorem d_cp3_57 : decode jdk_52_method_16_code 57 = .ok (.aload_n 3, 1) := by decide +kernel
theorem d_cp3_58 : decode jdk_52_method_16_code 58 = .ok (.areturn, 1) := by decide +kernel
abbrev M_cp3 : own_Mi := ((⟨"java/lang/StringUTF16", "compress", "([CII)[B"⟩ : MethodName), jdk_52_method_16_code, 6, (Option.some (FieldType.array FieldType.byte)), ({ frames := 3, cells := 2, slots := 6, locals := 40 } : Room))
theorem pn_cp3 : plainFor (own_Mi.y M_cp3) = true := plainFor_of_name (by first | (simp [plainName, overriddenIn]; done) | decide +kernel)
set_option maxRecDepth 65536 in
set_option maxHeartbeats 40000000 in
theorem c_cp3 (K : own_Cx) (a0 : Array Value) (hw : ∀ d ∈ tables_1, d.before a0 K.Z = true)
    (hU : own_U16 K)
    (a : Addr) (n : Int32) (cs : List Int32) (h : Heap) (hn : n.toInt = cs.length) (hcap : cs.length ≤ 2) (hcs : own_Chs cs) (A : own_Ary K.Z h a .char (own_ints cs))
    : own_Met K M_cp3 #[.ref a, .int 0, .int n] [] h (own_ret fun w h' _ => ∃ b : Addr, w = .ref b ∧ Ext h h' ∧ h.size ≤ b ∧ own_Ary K.Z h' b .byte (own_ints (own_enc cs))) := by
  refine own_met_3_3 (M := M_cp3) pn_cp3 rfl (by first | rfl | exact own_cat (by assumption)) (by first | rfl | exact own_cat (by assumption)) (by first | rfl | exact own_cat (by assumption)) ?_
  refine own_iload_n (pc' := 1) rfl d_cp3_0 rfl ?_
  refine own_newarray (pc' := 3) rfl d_cp3_1 (tw_33 hw) (N := cs.length) (cap := 2) hn hcap rfl rfl rfl ?_
  intro b h1 eb E1 B1
  have hab : a ≠ b := by show @Ne Nat a b; have : @LT.lt Nat _ _ _ := A.lt; omega
  refine own_astore_n3 (pc' := 4) rfl d_cp3_3 (by first | exact One.u | exact One.val rfl | assumption | exact One.val (by assumption)) (by first | rfl | assumption) ?_
  refine own_aload_n (pc' := 5) rfl d_cp3_4 rfl (by first | rfl | assumption) ?_
  refine own_iload_n (pc' := 6) rfl d_cp3_5 rfl ?_
  refine own_aload_n (pc' := 7) rfl d_cp3_6 rfl (by first | rfl | assumption) ?_
  refine own_iconst (v := (0 : Int32)) (pc' := 8) rfl d_cp3_7 rfl ?_
  refine own_iload_n (pc' := 9) rfl d_cp3_8 rfl ?_
  refine own_static5v (M' := M_cp5) d_cp3_9 (pc' := 12) rfl (tw_213 hw) (tw_214 hw) (tw_211 hw) (tw_215 hw) (by decide) rfl (own_lenOf pd_3 rfl) rfl rfl rfl rfl (c_cp5 K a0 hw a b n cs h1 hn hcs (A.ext E1) B1 hab) (by simp) ?_
  rintro w h2 xs ⟨r, rfl, k2, q⟩
  have E2 := own_ext_keep E1 k2 (by intro x hx; cases List.mem_singleton.mp hx; omega)
  refine own_istore_4 (pc' := 14) rfl d_cp3_12 (by first | exact One.u | exact One.val rfl | assumption | exact One.val (by assumption)) ?_
  refine own_iload (pc' := 16) rfl d_cp3_14 rfl ?_
  refine own_iload_n (pc' := 17) rfl d_cp3_16 rfl ?_
  refine own_icmpeq (pcT := 57) (pcF := 20) d_cp3_17 (by decide) (by decide) rfl (fun z => ?_) (fun z => ?_)
  · rcases q with ⟨q1, q2, q3⟩ | ⟨q1, i, c, q2, q3, q4⟩
    · skip
      refine own_aload_n (pc' := 58) rfl d_cp3_57 rfl (by first | rfl | assumption) ?_
      refine own_areturn rfl rfl (by first | rfl | assumption) d_cp3_58 rfl rfl ?_
      exact ⟨b, rfl, E2, by omega, by rw [(own_enc_lat q1).1]; exact q3⟩
    · have := (List.getElem?_eq_some_iff.mp q3).1
      rw [z] at q2
      omega
  · rcases q with ⟨q1, q2, q3⟩ | ⟨q1, i, c, q2, q3, q4⟩
    · exact absurd q2 z
    have hil := (List.getElem?_eq_some_iff.mp q3).1
    refine own_aload_n (pc' := 21) rfl d_cp3_20 rfl (by first | rfl | assumption) ?_
    refine own_iload_n (pc' := 22) rfl d_cp3_21 rfl ?_
    refine own_iload_n (pc' := 23) rfl d_cp3_22 rfl ?_
    refine own_static3v (M' := M_tb3) d_cp3_23 (pc' := 26) rfl (tw_216 hw) (tw_217 hw) (tw_211 hw) (tw_218 hw) (by decide) rfl (own_lenOf pd_4 rfl) rfl rfl rfl rfl (c_tb3 K a0 hw hU a n cs h2 hn hcap hcs (A.ext E2)) (by simp) ?_
    rintro w h3 xs3 ⟨b3, rfl, E3, hb3, B3⟩
    refine own_astore_5 (pc' := 28) rfl d_cp3_26 (by first | exact One.u | exact One.val rfl | assumption | exact One.val (by assumption)) (by first | rfl | assumption) ?_
    refine own_aload (pc' := 30) rfl d_cp3_28 rfl (by first | rfl | assumption) ?_
    refine own_iload (pc' := 32) rfl d_cp3_30 rfl ?_
    refine own_static2v (M' := M_gc) d_cp3_32 (pc' := 35) rfl (tw_232 hw) (tw_233 hw) (tw_211 hw) (tw_234 hw) (by decide) rfl (own_lenOf pd_5 rfl) rfl rfl rfl rfl (c_gc K a0 hw hU b3 r i c cs h3 q2 q3 (by omega) hcs B3) (by simp) ?_
    rintro w h4 xs4 ⟨rfl, rfl⟩
    refine own_sipush (v := (255 : Int32)) (pc' := 38) rfl d_cp3_35 rfl ?_
    refine own_icmpgt (pcT := 54) (pcF := 41) d_cp3_38 (by decide) (by decide) rfl (fun z2 => ?_) (fun z2 => ?_)
    · skip
      refine own_aload (pc' := 56) rfl d_cp3_54 rfl (by first | rfl | assumption) ?_
      refine own_areturn rfl rfl (by first | rfl | assumption) d_cp3_56 rfl rfl ?_
      exact ⟨b3, rfl, own_ext_trans E2 E3, by have := E2.1; omega, by rw [(own_enc_utf q1).1]; exact B3⟩
    · exfalso
      rw [Int32.lt_iff_toInt_lt] at z2
      have : (255 : Int32).toInt = 255 := rfl
      omega
theorem own_atoms {a0 : Array Value} {Z : State} (hw : ∀ d ∈ tables_1, d.before a0 Z = true) : ∀ a ∈ Bundle.stringAtoms, a.before a0 Z = true := by
  intro a ha
  simp only [Bundle.stringAtoms, List.mem_cons, List.not_mem_nil, or_false] at ha
  rcases ha with rfl | rfl | rfl | rfl | rfl | rfl | rfl
  · exact (tw_20 hw)
  · exact (tw_19 hw)
  · exact (tw_33 hw)
  · exact (tw_34 hw)
  · exact (tw_35 hw)
  · exact (tw_36 hw)
  · exact (tw_37 hw)
theorem own_ofArv {Z : State} {h : Heap} {b : Addr} {k : ClassId} {ty : FieldType} {z : Int32} {vs : List Value} {d : Value} (A : Arv Z h b k ty z vs d) (hl : z.toNatClampNeg = vs.length) : own_Ary Z h b ty vs := by
  obtain ⟨c, h1, -, h3, h4, h5, -⟩ := A
  refine ⟨c, h1, ?_, by rw [← hl]; exact (back32 h4).2⟩
  apply Array.ext
  · simp [h3, hl]
  · intro i hi1 hi2
    have := h5 i hi1
    have hi3 : i < vs.length := by simpa using hi2
    simp [hi1, hi3] at this
    simpa using this
/-- what a constant's text spells -/
def own_us (text : String) : List Int32 := text.toList.map fun c => c.toNat.toInt32
theorem own_ldcS {K : own_Cx} {M : own_Mi} {Q : own_Q} {pc pc' : Nat} {Ls : List Slot} {St : List Value} {sf : List Addr} {h : Heap} {cs sl : Nat} {a0 : Array Value} {index n : Nat} {text : String}
    (hnw : K.nw = false) (hp : pc + 2 = pc') (hd : decode M.b pc = .ok (.ldc index, 2)) (w : (Jvm.Cond.stringLink M.y.cls index text).before a0 K.Z = true) (wS : ∀ a ∈ Bundle.stringAtoms, a.before a0 K.Z = true) (hEL : EW K.Z a0 K.E) (hmem : (M.y.cls, index) ∈ K.E)
    (ht : (∀ c ∈ text.toList, c.toNat < 256) ∧ text.toList.map (fun c => Value.int (Jvm.Lit.byteI c.toNat.toUInt16)) = own_ints (own_enc (own_us text))) (hlat : own_lat (own_us text) = true) (hcs : own_Chs (own_us text)) (hz : ¬ ((own_us text).length.toInt32) < 0) (hl : ((own_us text).length.toInt32).toNatClampNeg = (own_ints (own_enc (own_us text))).length) (hlen : (own_us text).length < 2 ^ 30)
    (hn : Nat.ble (4 * text.toList.length) n = true) (hbig : Nat.ble n 536870912 = true) (hc : Nat.ble (cs + 2) M.R.cells = true) (hs : Nat.ble (sl + (n + 4)) M.R.slots = true)
    (k : ∀ (a : Addr) (h' : Heap), Ext h h' → own_Str K.Z h' a (own_us text) → own_WP K M Q pc' Ls (.ref a :: St) sf h' (cs + 2) (sl + (n + 4))) : own_WP K M Q pc Ls St sf h cs sl := by
  subst hp
  intro p e s vm0 k0 m args below meth c T locs cs' sl' B X hc' hs' eT N I
  obtain ⟨i1, i2, i3, i4, i5, i6⟩ := I
  obtain ⟨b1, b2, b3, b4, b5, b6, b7, b8, b9⟩ := B
  have q3 := Nat.le_of_ble_eq_true hc
  have q4 := Nat.le_of_ble_eq_true hs
  obtain ⟨a, T', h', k1, b, kk, X', e', E, S', hk', Z', O', A1, A2, A3, A4, -, -, C, -, -, st⟩ := ldcCH X b1 b8 b4 w wS eT i1 i2 hEL hmem i4.1 ht hz hl (g := mkF m pc Ls.toArray St) rfl (hb b2 hd) (Nat.le_of_ble_eq_true hn) (Nat.le_of_ble_eq_true hbig) (by omega) (by omega)
  obtain ⟨s₂, o, h1, r⟩ := k a h' E ⟨A1, hcs, hlen, b, A3, by rw [(own_enc_lat hlat).2]; exact A2, own_ofArv A4 hl⟩ p e s T'.vm k1 m args below meth c T' locs _ _ ⟨b1, b2, b3, O', b5, b6, b7, Z', b9⟩ X' (by omega) (by omega) e' N
    ⟨S', hk', (fun q => by rw [hnw] at q; cases q), i4.trans C, fun x hx => ⟨(i5 x hx).1, Nat.lt_of_lt_of_le (i5 x hx).2.1 C.2.1, C.safe (i5 x hx).2.1 (i5 x hx).2.2⟩, own_ext_trans i6 E⟩
  exact ⟨s₂, o, st _ h1, r⟩
theorem d_si4_0 : decode jdk_42_method_149_code 0 = .ok (.aload_n 0, 1) := by decide +kernel
theorem d_si4_1 : decode jdk_42_method_149_code 1 = .ok (.invokespecial 1, 3) := by decide +kernel
theorem d_si4_4 : decode jdk_42_method_149_code 4 = .ok (.iload_n 3, 1) := by decide +kernel
theorem d_si4_5 : decode jdk_42_method_149_code 5 = .ok (.ifCond .ne 22, 3) := by decide +kernel
theorem d_si4_8 : decode jdk_42_method_149_code 8 = .ok (.aload_n 0, 1) := by decide +kernel
theorem d_si4_9 : decode jdk_42_method_149_code 9 = .ok (.ldc 7, 2) := by decide +kernel
theorem d_si4_11 : decode jdk_42_method_149_code 11 = .ok (.getfield 9, 3) := by decide +kernel
theorem d_si4_14 : decode jdk_42_method_149_code 14 = .ok (.putfield 9, 3) := by decide +kernel
theorem d_si4_17 : decode jdk_42_method_149_code 17 = .ok (.aload_n 0, 1) := by decide +kernel
theorem d_si4_18 : decode jdk_42_method_149_code 18 = .ok (.ldc 7, 2) := by decide +kernel
theorem d_si4_20 : decode jdk_42_method_149_code 20 = .ok (.getfield 15, 3) := by decide +kernel
theorem d_si4_23 : decode jdk_42_method_149_code 23 = .ok (.putfield 15, 3) := by decide +kernel
theorem d_si4_26 : decode jdk_42_method_149_code 26 = .ok (.return_, 1) := by decide +kernel
theorem d_si4_27 : decode jdk_42_method_149_code 27 = .ok (.getstatic 38, 3) := by decide +kernel
theorem d_si4_30 : decode jdk_42_method_149_code 30 = .ok (.ifCond .eq 28, 3) := by decide +kernel
theorem d_si4_33 : decode jdk_42_method_149_code 33 = .ok (.aload_n 1, 1) := by decide +kernel
theorem d_si4_34 : decode jdk_42_method_149_code 34 = .ok (.iload_n 2, 1) := by decide +kernel
theorem d_si4_35 : decode jdk_42_method_149_code 35 = .ok (.iload_n 3, 1) := by decide +kernel
theorem d_si4_36 : decode jdk_42_method_149_code 36 = .ok (.invokestatic 177, 3) := by decide +kernel
theorem d_si4_39 : decode jdk_42_method_149_code 39 = .ok (.astore 5, 2) := by decide +kernel
theorem d_si4_41 : decode jdk_42_method_149_code 41 = .ok (.aload_n 0, 1) := by decide +kernel
theorem d_si4_42 : decode jdk_42_method_149_code 42 = .ok (.aload 5, 2) := by decide +kernel
theorem d_si4_44 : decode jdk_42_method_149_code 44 = .ok (.iload_n 3, 1) := by decide +kernel
theorem d_si4_45 : decode jdk_42_method_149_code 45 = .ok (.invokestatic 47, 3) := by decide +kernel
theorem d_si4_48 : decode jdk_42_method_149_code 48 = .ok (.putfield 15, 3) := by decide +kernel
theorem d_si4_51 : decode jdk_42_method_149_code 51 = .ok (.aload_n 0, 1) := by decide +kernel
theorem d_si4_52 : decode jdk_42_method_149_code 52 = .ok (.aload 5, 2) := by decide +kernel
theorem d_si4_54 : decode jdk_42_method_149_code 54 = .ok (.putfield 9, 3) := by decide +kernel
theorem d_si4_57 : decode jdk_42_method_149_code 57 = .ok (.return_, 1) := by decide +kernel
abbrev M_si4 : own_Mi := ((⟨"java/lang/String", "<init>", "([CIILjava/lang/Void;)V"⟩ : MethodName), jdk_42_method_149_code, 6, (Option.none : Option FieldType), ({ frames := 4, cells := 4, slots := 8, locals := 57 } : Room))
theorem pn_si4 : plainFor (own_Mi.y M_si4) = true := plainFor_of_name (by first | (simp [plainName, overriddenIn]; done) | decide +kernel)
set_option maxRecDepth 65536 in
set_option maxHeartbeats 40000000 in
theorem c_si4 (K : own_Cx) (a0 : Array Value) (hw : ∀ d ∈ tables_1, d.before a0 K.Z = true)
    (hU : own_U16 K)
    (hnw : K.nw = false) (hEL : EW K.Z a0 K.E) (hme : ("java/lang/String", 7) ∈ K.E)
    (x a : Addr) (n g : Int32) (cs : List Int32) (h : Heap) (hn : n.toInt = cs.length)
    (hcap : cs.length ≤ 2) (hcs : own_Chs cs) (A : own_Ary K.Z h a .char (own_ints cs))
    (E : Exa K.Z h x "java/lang/String") (FV : Fld K.Z h x "java/lang/String" "value" "[B" .null) (FC : Fld K.Z h x "java/lang/String" "coder" "B" (.int 0)) (SC : Sta K.Z K.Z.heap "java/lang/String" "COMPACT_STRINGS" "Z" (.int g)) (hg : ¬ g = 0)
    : own_Met K M_si4 #[.ref x, .ref a, .int 0, .int n, .null] [x] h (own_void fun h' _ => Keep h h' [x] ∧ own_Str K.Z h' x cs) := by
  refine own_met_5_1 (M := M_si4) pn_si4 rfl (by first | rfl | exact own_cat (by assumption)) (by first | rfl | exact own_cat (by assumption)) (by first | rfl | exact own_cat (by assumption)) (by first | rfl | exact own_cat (by assumption)) (by first | rfl | exact own_cat (by assumption)) ?_
  refine own_aload_n (pc' := 1) rfl d_si4_0 rfl (by first | rfl | assumption) ?_
  refine own_initO (pc' := 4) rfl d_si4_1 (tw_29 hw) (tw_30 hw) (tw_31 hw) rfl rfl rfl ?_
  refine own_iload_n (pc' := 5) rfl d_si4_4 rfl ?_
  refine own_ifne (pcT := 27) (pcF := 8) d_si4_5 (by decide) (by decide) rfl (fun z => ?_) (fun z => ?_)
  · skip
    refine own_getS (pc' := 30) rfl d_si4_27 (tw_81 hw) Via.refl (by assumption) ?_
    refine own_ifeq (pcT := 58) (pcF := 33) d_si4_30 (by decide) (by decide) rfl (fun z2 => ?_) (fun z2 => ?_)
    · exact absurd z2 hg
    · skip
      refine own_aload_n (pc' := 34) rfl d_si4_33 rfl (by first | rfl | assumption) ?_
      refine own_iload_n (pc' := 35) rfl d_si4_34 rfl ?_
      refine own_iload_n (pc' := 36) rfl d_si4_35 rfl ?_
      refine own_static3v (M' := M_cp3) d_si4_36 (pc' := 39) rfl (tw_209 hw) (tw_210 hw) (tw_211 hw) (tw_212 hw) (by decide) rfl (own_lenOf pd_4 rfl) rfl rfl rfl rfl (c_cp3 K a0 hw hU a n cs h hn hcap hcs A) (by simp) ?_
      rintro w h1 xs ⟨b, rfl, E1, hb1, B1⟩
      have hxb : b ≠ x := by show @Ne Nat b x; have : @LT.lt Nat _ _ _ := E.lt; omega
      refine own_astore_5 (pc' := 41) rfl d_si4_39 (by first | exact One.u | exact One.val rfl | assumption | exact One.val (by assumption)) (by first | rfl | assumption) ?_
      refine own_aload_n (pc' := 42) rfl d_si4_41 rfl (by first | rfl | assumption) ?_
      refine own_aload (pc' := 44) rfl d_si4_42 rfl (by first | rfl | assumption) ?_
      refine own_iload_n (pc' := 45) rfl d_si4_44 rfl ?_
      have hp : 0 < cs.length := by
        rcases Nat.eq_zero_or_pos cs.length with e | e
        · exact absurd (Int32.toInt_inj.mp (by rw [hn, e]; rfl)) z
        · exact e
      refine own_static2v (M' := M_cfa) d_si4_45 (pc' := 48) rfl (tw_235 hw) (tw_236 hw) (tw_211 hw) (tw_237 hw) (by decide) rfl (own_lenOf pd_6 rfl) rfl rfl rfl rfl (c_cfa K a0 hw b n cs h1 hn (by omega) hp B1) (by simp) ?_
      rintro w h2 xs2 ⟨rfl, rfl⟩
      refine own_putF (pc' := 51) rfl d_si4_48 (tw_39 hw) Via.refl (Or.inr ⟨(tw_35 hw), rfl, rfl⟩) (tw_19 hw) (ty := .byte) (by decide) (own_cod_byte cs).1 (own_cod_byte cs).2 (FC.ext E1) (E.ext E1) (by simp) ?_
      intro h3 W3
      have sne : RoadKit.slotOf K.Z "java/lang/String" "value" "[B" ≠ RoadKit.slotOf K.Z "java/lang/String" "coder" "B" := slot_ne (Or.inr (tw_34 hw)) (Or.inr (tw_35 hw)) (by decide) (t := .array .byte) (t' := .byte) (by decide) (by decide)
      have FV3 := (FV.ext E1).other W3 (Or.inr sne)
      have FC3 := (FC.ext E1).same W3
      have E3 := (E.ext E1).wr W3
      have B3 := B1.other W3 hxb
      refine own_aload_n (pc' := 52) rfl d_si4_51 rfl (by first | rfl | assumption) ?_
      refine own_aload (pc' := 54) rfl d_si4_52 rfl (by first | rfl | assumption) ?_
      refine own_putF (pc' := 57) rfl d_si4_54 (tw_38 hw) Via.refl (Or.inr ⟨(tw_34 hw), rfl, rfl⟩) (tw_19 hw) (ty := (.array .byte)) (by decide) rfl rfl FV3 E3 (by simp) ?_
      intro h4 W4
      refine own_return rfl d_si4_57 rfl rfl ?_
      refine ⟨(((Keep.refl h [x]).ext E1).wr W3 (Or.inl (List.mem_singleton.mpr rfl))).wr W4 (Or.inl (List.mem_singleton.mpr rfl)), E3.wr W4, hcs, by omega, b, FV3.same W4, FC3.other W4 (Or.inr (Ne.symm sne)), B3.other W4 hxb⟩
  · have hcs0 : cs = [] := by
      rw [z] at hn
      have : (0 : Int32).toInt = 0 := rfl
      exact List.eq_nil_of_length_eq_zero (by omega)
    subst hcs0
    have hen : own_ints (own_enc []) = [] := rfl
    refine own_aload_n (pc' := 9) rfl d_si4_8 rfl (by first | rfl | assumption) ?_
    refine own_ldcS (n := 0) hnw (pc' := 11) rfl d_si4_9 (hw _ (List.mem_of_getElem? (i := 32) rfl)) (own_atoms hw) hEL hme (by decide +kernel) (by decide +kernel) (by decide +kernel) (by decide +kernel) (by decide +kernel) (by decide +kernel) (by decide +kernel) rfl rfl rfl ?_
    intro e1 h1 E1 S1
    obtain ⟨G1, -, -, b1, GV1, GC1, GB1⟩ := S1
    refine own_getF (pc' := 14) rfl d_si4_11 (tw_38 hw) Via.refl GV1 ?_
    refine own_putF (pc' := 17) rfl d_si4_14 (tw_38 hw) Via.refl (Or.inr ⟨(tw_34 hw), rfl, rfl⟩) (tw_19 hw) (ty := (.array .byte)) (by decide) rfl rfl (FV.ext E1) (E.ext E1) (by simp) ?_
    intro h2 W2
    have sne : RoadKit.slotOf K.Z "java/lang/String" "value" "[B" ≠ RoadKit.slotOf K.Z "java/lang/String" "coder" "B" := slot_ne (Or.inr (tw_34 hw)) (Or.inr (tw_35 hw)) (by decide) (t := .array .byte) (t' := .byte) (by decide) (by decide)
    have FV2 := (FV.ext E1).same W2
    have FC2 := (FC.ext E1).other W2 (Or.inr (Ne.symm sne))
    have E2 := (E.ext E1).wr W2
    have hxb : b1 ≠ x := by obtain ⟨c, A, -⟩ := GB1; exact fun q => ne_arr (E.ext E1) (tw_19 hw) A q.symm
    have B2 := GB1.other W2 hxb
    refine own_aload_n (pc' := 18) rfl d_si4_17 rfl (by first | rfl | assumption) ?_
    refine own_ldcS (n := 0) hnw (pc' := 20) rfl d_si4_18 (hw _ (List.mem_of_getElem? (i := 32) rfl)) (own_atoms hw) hEL hme (by decide +kernel) (by decide +kernel) (by decide +kernel) (by decide +kernel) (by decide +kernel) (by decide +kernel) (by decide +kernel) rfl rfl rfl ?_
    intro e3 h3 E3 S3
    obtain ⟨G3, -, -, b3, GV3, GC3, GB3⟩ := S3
    refine own_getF (pc' := 23) rfl d_si4_20 (tw_39 hw) Via.refl GC3 ?_
    refine own_putF (pc' := 26) rfl d_si4_23 (tw_39 hw) Via.refl (Or.inr ⟨(tw_35 hw), rfl, rfl⟩) (tw_19 hw) (ty := .byte) (by decide) rfl rfl (FC2.ext E3) (E2.ext E3) (by simp) ?_
    intro h4 W4
    refine own_return rfl d_si4_26 rfl rfl ?_
    exact ⟨(((((Keep.refl h [x]).ext E1).wr W2 (Or.inl (List.mem_singleton.mpr rfl))).ext E3).wr W4 (Or.inl (List.mem_singleton.mpr rfl))), (E2.ext E3).wr W4, hcs, by simp, b1, (FV2.ext E3).other W4 (Or.inr sne), (FC2.ext E3).same W4, (B2.ext E3).other W4 hxb⟩
theorem d_si1_0 : decode jdk_42_method_3_code 0 = .ok (.aload_n 0, 1) := by decide +kernel
theorem d_si1_1 : decode jdk_42_method_3_code 1 = .ok (.aload_n 1, 1) := by decide +kernel
theorem d_si1_2 : decode jdk_42_method_3_code 2 = .ok (.iconst 0, 1) := by decide +kernel
theorem d_si1_3 : decode jdk_42_method_3_code 3 = .ok (.aload_n 1, 1) := by decide +kernel
theorem d_si1_4 : decode jdk_42_method_3_code 4 = .ok (.arraylength, 1) := by decide +kernel
theorem d_si1_5 : decode jdk_42_method_3_code 5 = .ok (.aconst_null, 1) := by decide +kernel
theorem d_si1_6 : decode jdk_42_method_3_code 6 = .ok (.invokespecial 27, 3) := by decide +kernel
theorem d_si1_9 : decode jdk_42_method_3_code 9 = .ok (.return_, 1) := by decide +kernel
abbrev M_si1 : own_Mi := ((⟨"java/lang/String", "<init>", "([C)V"⟩ : MethodName), jdk_42_method_3_code, 2, (Option.none : Option FieldType), ({ frames := 5, cells := 4, slots := 8, locals := 74 } : Room))
theorem pn_si1 : plainFor (own_Mi.y M_si1) = true := plainFor_of_name (by first | (simp [plainName, overriddenIn]; done) | decide +kernel)
set_option maxRecDepth 65536 in
set_option maxHeartbeats 40000000 in
theorem c_si1 (K : own_Cx) (a0 : Array Value) (hw : ∀ d ∈ tables_1, d.before a0 K.Z = true)
    (hU : own_U16 K)
    (hnw : K.nw = false) (hEL : EW K.Z a0 K.E) (hme : ("java/lang/String", 7) ∈ K.E)
    (x a : Addr) (g : Int32) (cs : List Int32) (h : Heap)
    (hcap : cs.length ≤ 2) (hcs : own_Chs cs) (A : own_Ary K.Z h a .char (own_ints cs))
    (E : Exa K.Z h x "java/lang/String") (FV : Fld K.Z h x "java/lang/String" "value" "[B" .null) (FC : Fld K.Z h x "java/lang/String" "coder" "B" (.int 0)) (SC : Sta K.Z K.Z.heap "java/lang/String" "COMPACT_STRINGS" "Z" (.int g)) (hg : ¬ g = 0)
    : own_Met K M_si1 #[.ref x, .ref a] [x] h (own_void fun h' _ => Keep h h' [x] ∧ own_Str K.Z h' x cs) := by
  have hz : (cs.length.toInt32).toInt = cs.length := own_lit _ (by omega)
  refine own_met_2_0 (M := M_si1) pn_si1 rfl (by first | rfl | exact own_cat (by assumption)) (by first | rfl | exact own_cat (by assumption)) ?_
  refine own_aload_n (pc' := 1) rfl d_si1_0 rfl (by first | rfl | assumption) ?_
  refine own_aload_n (pc' := 2) rfl d_si1_1 rfl (by first | rfl | assumption) ?_
  refine own_iconst (v := (0 : Int32)) (pc' := 3) rfl d_si1_2 rfl ?_
  refine own_aload_n (pc' := 4) rfl d_si1_3 rfl (by first | rfl | assumption) ?_
  refine own_arrlen (z := cs.length.toInt32) (pc' := 5) rfl d_si1_4 A (by rw [hz]; simp) ?_
  refine own_aconst_null (pc' := 6) rfl d_si1_5 ?_
  refine own_special4n (M' := M_si4) d_si1_6 (pc' := 9) rfl rfl rfl (tw_25 hw) (tw_26 hw) (tw_20 hw) (tw_28 hw) (by decide) rfl (own_lenOf pd_7 rfl) rfl rfl rfl rfl (c_si4 K a0 hw hU hnw hEL hme x a _ g cs h hz  hcap hcs A E FV FC SC hg ) (by simp) ?_
  intro h1 xs q
  refine own_return rfl d_si1_9 rfl rfl ?_
  exact q
def own_ch (c : Int32) : Int32 := c.toUInt32.toUInt16.toUInt32.toInt32
theorem own_ch_r (c : Int32) : 0 ≤ (own_ch c).toInt ∧ (own_ch c).toInt < 65536 := (c_i2c c).2
theorem own_ch_nar (c : Int32) : nar .char (c.toUInt32.toUInt16.toUInt32.toInt32) = own_ch c := own_i2c_id (own_ch_r c).1 (own_ch_r c).2
/-! STRINGS, their methods -/
abbrev own_sC : String := "java/lang/String"
theorem own_len_enc {cs : List Int32} : (own_lat cs = true → (own_ints (own_enc cs)).length = cs.length) ∧ (own_lat cs = false → (own_ints (own_enc cs)).length = 2 * cs.length) :=
  ⟨fun q => by simp [(own_enc_lat q).1], fun q => by simp [(own_enc_utf q).1, own_two_len]⟩
theorem own_lat_byte {c : Int32} (h0 : 0 ≤ c.toInt) (h1 : c.toInt < 256) : own_bt c &&& 255 = c := by
  apply Int32.toInt_inj.mp
  have b1 := c_mask (own_bt c) 255 8 (by decide) (by decide)
  have b2 := (c_i2b c).1
  have : (own_bt c).toInt = c.toInt8.toInt32.toInt := rfl
  omega
theorem d_cdr_0 : decode jdk_42_method_152_code 0 = .ok (.getstatic 38, 3) := by decide +kernel
theorem d_cdr_3 : decode jdk_42_method_152_code 3 = .ok (.ifCond .eq 10, 3) := by decide +kernel
theorem d_cdr_6 : decode jdk_42_method_152_code 6 = .ok (.aload_n 0, 1) := by decide +kernel
theorem d_cdr_7 : decode jdk_42_method_152_code 7 = .ok (.getfield 15, 3) := by decide +kernel
theorem d_cdr_10 : decode jdk_42_method_152_code 10 = .ok (.goto 4, 3) := by decide +kernel
theorem d_cdr_14 : decode jdk_42_method_152_code 14 = .ok (.ireturn, 1) := by decide +kernel
abbrev M_cdr : own_Mi := ((⟨"java/lang/String", "coder", "()B"⟩ : MethodName), jdk_42_method_152_code, 1, (Option.some FieldType.byte), ({ frames := 0, cells := 0, slots := 0, locals := 0 } : Room))
theorem pn_cdr : plainFor (own_Mi.y M_cdr) = true := plainFor_of_name (by first | (simp [plainName, overriddenIn]; done) | decide +kernel)
set_option maxRecDepth 65536 in
set_option maxHeartbeats 40000000 in
theorem c_cdr (K : own_Cx) (a0 : Array Value) (hw : ∀ d ∈ tables_1, d.before a0 K.Z = true) (g : Int32) (SC : Sta K.Z K.Z.heap own_sC "COMPACT_STRINGS" "Z" (.int g)) (hg : ¬ g = 0) (x : Addr) (cs : List Int32) (h : Heap) (S : own_Str K.Z h x cs) :
    own_Met K M_cdr #[.ref x] [] h (own_ret fun w h' _ => w = .int (own_cod cs) ∧ h' = h) := by
  obtain ⟨E, hcs, hl, b, FV, FC, B⟩ := S
  refine own_met_1_0 (M := M_cdr) pn_cdr rfl (by first | rfl | exact own_cat (by assumption)) ?_
  refine own_getS (pc' := 3) rfl d_cdr_0 (tw_81 hw) Via.refl (by assumption) ?_
  refine own_ifeq (pcT := 13) (pcF := 6) d_cdr_3 (by decide) (by decide) rfl (fun q => ?_) (fun q => ?_)
  · exact absurd q hg
  · skip
    refine own_aload_n (pc' := 7) rfl d_cdr_6 rfl (by first | rfl | assumption) ?_
    refine own_getF (pc' := 10) rfl d_cdr_7 (tw_39 hw) Via.refl (by assumption) ?_
    refine own_goto (pc' := 14) d_cdr_10 (by decide) (by decide) ?_
    refine own_ireturnN (t := .byte) rfl (by simp) (z' := own_cod cs) (by unfold own_cod; split <;> rfl) d_cdr_14 rfl rfl ?_
    exact ⟨rfl, rfl⟩
theorem d_sl_0 : decode jdk_42_method_54_code 0 = .ok (.aload_n 0, 1) := by decide +kernel
theorem d_sl_1 : decode jdk_42_method_54_code 1 = .ok (.getfield 9, 3) := by decide +kernel
theorem d_sl_4 : decode jdk_42_method_54_code 4 = .ok (.arraylength, 1) := by decide +kernel
theorem d_sl_5 : decode jdk_42_method_54_code 5 = .ok (.aload_n 0, 1) := by decide +kernel
theorem d_sl_6 : decode jdk_42_method_54_code 6 = .ok (.invokevirtual 335, 3) := by decide +kernel
theorem d_sl_9 : decode jdk_42_method_54_code 9 = .ok (.ishr, 1) := by decide +kernel
theorem d_sl_10 : decode jdk_42_method_54_code 10 = .ok (.ireturn, 1) := by decide +kernel
abbrev M_sl : own_Mi := ((⟨"java/lang/String", "length", "()I"⟩ : MethodName), jdk_42_method_54_code, 1, (Option.some FieldType.int), ({ frames := 1, cells := 0, slots := 0, locals := 14 } : Room))
theorem pn_sl : plainFor (own_Mi.y M_sl) = true := plainFor_of_name (by first | (simp [plainName, overriddenIn]; done) | decide +kernel)
set_option maxRecDepth 65536 in
set_option maxHeartbeats 40000000 in
theorem c_sl (K : own_Cx) (a0 : Array Value) (hw : ∀ d ∈ tables_1, d.before a0 K.Z = true) (g : Int32) (SC : Sta K.Z K.Z.heap own_sC "COMPACT_STRINGS" "Z" (.int g)) (hg : ¬ g = 0) (x : Addr) (cs : List Int32) (h : Heap) (S : own_Str K.Z h x cs) :
    own_Met K M_sl #[.ref x] [] h (own_ret fun w h' _ => w = .int cs.length.toInt32 ∧ h' = h) := by
  have S' := S
  obtain ⟨E, hcs, hl, b, FV, FC, B⟩ := S'
  have hn : (cs.length.toInt32).toInt = cs.length := own_lit _ (by omega)
  cases ql : own_lat cs
  · have hz : ((2 * cs.length).toInt32).toInt = ((2 * cs.length : Nat) : Int) := own_lit _ (by omega)
    refine own_met_1_0 (M := M_sl) pn_sl rfl (by first | rfl | exact own_cat (by assumption)) ?_
    refine own_aload_n (pc' := 1) rfl d_sl_0 rfl (by first | rfl | assumption) ?_
    refine own_getF (pc' := 4) rfl d_sl_1 (tw_38 hw) Via.refl (by assumption) ?_
    refine own_arrlen (z := (2 * cs.length).toInt32) (pc' := 5) rfl d_sl_4 B (by rw [hz, own_len_enc.2 ql]) ?_
    refine own_aload_n (pc' := 6) rfl d_sl_5 rfl (by first | rfl | assumption) ?_
    refine own_virtual0v (M' := M_cdr) d_sl_6 (pc' := 9) rfl (tw_76 hw) (tw_77 hw) (tw_79 hw) (tw_78 hw) (tw_20 hw) (tw_80 hw) (by decide) rfl (own_lenOf pd_8 rfl) rfl rfl rfl rfl E (c_cdr K a0 hw g SC hg x cs h S) (by simp) ?_
    rintro w h1 xs ⟨rfl, rfl⟩
    refine own_ishr (pc' := 10) rfl d_sl_9 ?_
    refine own_ireturn rfl d_sl_10 rfl rfl ?_
    refine ⟨?_, rfl⟩
    rw [(own_enc_utf ql).2]
    congr 1
    apply Int32.toInt_inj.mp
    have := c_ishr (2 * cs.length).toInt32 1 1 (by decide)
    rw [this, hn, hz]
    omega
  · skip
    refine own_met_1_0 (M := M_sl) pn_sl rfl (by first | rfl | exact own_cat (by assumption)) ?_
    refine own_aload_n (pc' := 1) rfl d_sl_0 rfl (by first | rfl | assumption) ?_
    refine own_getF (pc' := 4) rfl d_sl_1 (tw_38 hw) Via.refl (by assumption) ?_
    refine own_arrlen (z := cs.length.toInt32) (pc' := 5) rfl d_sl_4 B (by rw [hn, own_len_enc.1 ql]) ?_
    refine own_aload_n (pc' := 6) rfl d_sl_5 rfl (by first | rfl | assumption) ?_
    refine own_virtual0v (M' := M_cdr) d_sl_6 (pc' := 9) rfl (tw_76 hw) (tw_77 hw) (tw_79 hw) (tw_78 hw) (tw_20 hw) (tw_80 hw) (by decide) rfl (own_lenOf pd_8 rfl) rfl rfl rfl rfl E (c_cdr K a0 hw g SC hg x cs h S) (by simp) ?_
    rintro w h1 xs ⟨rfl, rfl⟩
    refine own_ishr (pc' := 10) rfl d_sl_9 ?_
    refine own_ireturn rfl d_sl_10 rfl rfl ?_
    exact ⟨by rw [(own_enc_lat ql).2, own_shr0], rfl⟩
theorem d_isl_0 : decode jdk_42_method_154_code 0 = .ok (.getstatic 38, 3) := by decide +kernel
theorem d_isl_3 : decode jdk_42_method_154_code 3 = .ok (.ifCond .eq 14, 3) := by decide +kernel
theorem d_isl_6 : decode jdk_42_method_154_code 6 = .ok (.aload_n 0, 1) := by decide +kernel
theorem d_isl_7 : decode jdk_42_method_154_code 7 = .ok (.getfield 15, 3) := by decide +kernel
theorem d_isl_10 : decode jdk_42_method_154_code 10 = .ok (.ifCond .ne 7, 3) := by decide +kernel
theorem d_isl_13 : decode jdk_42_method_154_code 13 = .ok (.iconst 1, 1) := by decide +kernel
theorem d_isl_14 : decode jdk_42_method_154_code 14 = .ok (.goto 4, 3) := by decide +kernel
theorem d_isl_17 : decode jdk_42_method_154_code 17 = .ok (.iconst 0, 1) := by decide +kernel
theorem d_isl_18 : decode jdk_42_method_154_code 18 = .ok (.ireturn, 1) := by decide +kernel
abbrev M_isl : own_Mi := ((⟨"java/lang/String", "isLatin1", "()Z"⟩ : MethodName), jdk_42_method_154_code, 1, (Option.some FieldType.boolean), ({ frames := 0, cells := 0, slots := 0, locals := 0 } : Room))
theorem pn_isl : plainFor (own_Mi.y M_isl) = true := plainFor_of_name (by first | (simp [plainName, overriddenIn]; done) | decide +kernel)
set_option maxRecDepth 65536 in
set_option maxHeartbeats 40000000 in
theorem c_isl (K : own_Cx) (a0 : Array Value) (hw : ∀ d ∈ tables_1, d.before a0 K.Z = true) (g : Int32) (SC : Sta K.Z K.Z.heap own_sC "COMPACT_STRINGS" "Z" (.int g)) (hg : ¬ g = 0) (x : Addr) (cs : List Int32) (h : Heap) (S : own_Str K.Z h x cs) :
    own_Met K M_isl #[.ref x] [] h (own_ret fun w h' _ => w = .int (if own_lat cs then 1 else 0) ∧ h' = h) := by
  obtain ⟨E, hcs, hl, b, FV, FC, B⟩ := S
  refine own_met_1_0 (M := M_isl) pn_isl rfl (by first | rfl | exact own_cat (by assumption)) ?_
  refine own_getS (pc' := 3) rfl d_isl_0 (tw_81 hw) Via.refl (by assumption) ?_
  refine own_ifeq (pcT := 17) (pcF := 6) d_isl_3 (by decide) (by decide) rfl (fun q => ?_) (fun q => ?_)
  · exact absurd q hg
  · skip
    refine own_aload_n (pc' := 7) rfl d_isl_6 rfl (by first | rfl | assumption) ?_
    refine own_getF (pc' := 10) rfl d_isl_7 (tw_39 hw) Via.refl (by assumption) ?_
    refine own_ifne (pcT := 17) (pcF := 13) d_isl_10 (by decide) (by decide) rfl (fun q2 => ?_) (fun q2 => ?_)
    · skip
      refine own_iconst (v := (0 : Int32)) (pc' := 18) rfl d_isl_17 rfl ?_
      refine own_ireturnN (t := .boolean) rfl (by simp) (by first | exact own_nb0 | exact own_nb1 | rfl) d_isl_18 rfl rfl ?_
      refine ⟨?_, rfl⟩
      cases ql : own_lat cs
      · rfl
      · exact absurd (own_enc_lat ql).2 q2
    · skip
      refine own_iconst (v := (1 : Int32)) (pc' := 14) rfl d_isl_13 rfl ?_
      refine own_goto (pc' := 18) d_isl_14 (by decide) (by decide) ?_
      refine own_ireturnN (t := .boolean) rfl (by simp) (by first | exact own_nb0 | exact own_nb1 | rfl) d_isl_18 rfl rfl ?_
      refine ⟨?_, rfl⟩
      cases ql : own_lat cs
      · rw [(own_enc_utf ql).2] at q2; cases q2
      · rfl
theorem d_ul_0 : decode jdk_52_method_6_code 0 = .ok (.aload_n 0, 1) := by decide +kernel
theorem d_ul_1 : decode jdk_52_method_6_code 1 = .ok (.arraylength, 1) := by decide +kernel
theorem d_ul_2 : decode jdk_52_method_6_code 2 = .ok (.iconst 1, 1) := by decide +kernel
theorem d_ul_3 : decode jdk_52_method_6_code 3 = .ok (.ishr, 1) := by decide +kernel
theorem d_ul_4 : decode jdk_52_method_6_code 4 = .ok (.ireturn, 1) := by decide +kernel
abbrev M_ul : own_Mi := ((⟨"java/lang/StringUTF16", "length", "([B)I"⟩ : MethodName), jdk_52_method_6_code, 1, (Option.some FieldType.int), ({ frames := 0, cells := 0, slots := 0, locals := 0 } : Room))
theorem pn_ul : plainFor (own_Mi.y M_ul) = true := plainFor_of_name (by first | (simp [plainName, overriddenIn]; done) | decide +kernel)
set_option maxRecDepth 65536 in
set_option maxHeartbeats 40000000 in
theorem c_ul (K : own_Cx) (a0 : Array Value) (hw : ∀ d ∈ tables_1, d.before a0 K.Z = true) (b : Addr) (cs : List Int32) (h : Heap) (hl : cs.length < 2 ^ 30) (B : own_Ary K.Z h b .byte (own_ints (own_two cs))) :
    own_Met K M_ul #[.ref b] [] h (own_ret fun w h' _ => w = .int cs.length.toInt32 ∧ h' = h) := by
  have hn : (cs.length.toInt32).toInt = cs.length := own_lit _ (by omega)
  have hz : ((2 * cs.length).toInt32).toInt = ((2 * cs.length : Nat) : Int) := own_lit _ (by omega)
  refine own_met_1_0 (M := M_ul) pn_ul rfl (by first | rfl | exact own_cat (by assumption)) ?_
  refine own_aload_n (pc' := 1) rfl d_ul_0 rfl (by first | rfl | assumption) ?_
  refine own_arrlen (z := (2 * cs.length).toInt32) (pc' := 2) rfl d_ul_1 B (by rw [hz]; simp [own_two_len]) ?_
  refine own_iconst (v := (1 : Int32)) (pc' := 3) rfl d_ul_2 rfl ?_
  refine own_ishr (pc' := 4) rfl d_ul_3 ?_
  refine own_ireturn rfl d_ul_4 rfl rfl ?_
  refine ⟨?_, rfl⟩
  congr 1
  apply Int32.toInt_inj.mp
  have := c_ishr (2 * cs.length).toInt32 1 1 (by decide)
  rw [this, hn, hz]
  omega
theorem d_pci_0 : decode jdk_41_method_11_code 0 = .ok (.iload_n 0, 1) := by decide +kernel
theorem d_pci_1 : decode jdk_41_method_11_code 1 = .ok (.ifCond .lt 8, 3) := by decide +kernel
theorem d_pci_4 : decode jdk_41_method_11_code 4 = .ok (.iload_n 0, 1) := by decide +kernel
theorem d_pci_5 : decode jdk_41_method_11_code 5 = .ok (.iload_n 1, 1) := by decide +kernel
theorem d_pci_6 : decode jdk_41_method_11_code 6 = .ok (.if_icmp .lt 10, 3) := by decide +kernel
theorem d_pci_16 : decode jdk_41_method_11_code 16 = .ok (.iload_n 0, 1) := by decide +kernel
theorem d_pci_17 : decode jdk_41_method_11_code 17 = .ok (.ireturn, 1) := by decide +kernel
abbrev M_pci : own_Mi := ((⟨"jdk/internal/util/Preconditions", "checkIndex", "(IILjava/util/function/BiFunction;)I"⟩ : MethodName), jdk_41_method_11_code, 3, (Option.some FieldType.int), ({ frames := 0, cells := 0, slots := 0, locals := 0 } : Room))
theorem pn_pci : plainFor (own_Mi.y M_pci) = true := plainFor_of_name (by first | (simp [plainName, overriddenIn]; done) | decide +kernel)
set_option maxRecDepth 65536 in
set_option maxHeartbeats 40000000 in
theorem c_pci (K : own_Cx) (a0 : Array Value) (hw : ∀ d ∈ tables_1, d.before a0 K.Z = true) (rf : Value) (hrf : rf.isRef = true) (i n : Int32) (h : Heap) (h0 : 0 ≤ i.toInt) (h1 : i.toInt < n.toInt) :
    own_Met K M_pci #[.int i, .int n, rf] [] h (own_ret fun w h' _ => w = .int i ∧ h' = h) := by
  have z0 : (0 : Int32).toInt = 0 := rfl
  rcases ref_cases hrf with rfl | ⟨r, rfl⟩
  all_goals
    refine own_met_3_0 (M := M_pci) pn_pci rfl (by first | rfl | exact own_cat (by assumption)) (by first | rfl | exact own_cat (by assumption)) (by first | rfl | exact own_cat (by assumption)) ?_
    refine own_iload_n (pc' := 1) rfl d_pci_0 rfl ?_
    refine own_iflt (pcT := 9) (pcF := 4) d_pci_1 (by decide) (by decide) rfl (fun q => ?_) (fun q => ?_)
    · rw [Int32.lt_iff_toInt_lt] at q; omega
    · skip
      refine own_iload_n (pc' := 5) rfl d_pci_4 rfl ?_
      refine own_iload_n (pc' := 6) rfl d_pci_5 rfl ?_
      refine own_icmplt (pcT := 16) (pcF := 9) d_pci_6 (by decide) (by decide) rfl (fun q2 => ?_) (fun q2 => ?_)
      · skip
        refine own_iload_n (pc' := 17) rfl d_pci_16 rfl ?_
        refine own_ireturn rfl d_pci_17 rfl rfl ?_
        exact ⟨rfl, rfl⟩
      · rw [Int32.lt_iff_toInt_lt] at q2; omega
theorem d_ski_0 : decode jdk_42_method_155_code 0 = .ok (.iload_n 0, 1) := by decide +kernel
theorem d_ski_1 : decode jdk_42_method_155_code 1 = .ok (.iload_n 1, 1) := by decide +kernel
theorem d_ski_2 : decode jdk_42_method_155_code 2 = .ok (.getstatic 1053, 3) := by decide +kernel
theorem d_ski_5 : decode jdk_42_method_155_code 5 = .ok (.invokestatic 1059, 3) := by decide +kernel
theorem d_ski_8 : decode jdk_42_method_155_code 8 = .ok (.pop, 1) := by decide +kernel
theorem d_ski_9 : decode jdk_42_method_155_code 9 = .ok (.return_, 1) := by decide +kernel
abbrev M_ski : own_Mi := ((⟨"java/lang/String", "checkIndex", "(II)V"⟩ : MethodName), jdk_42_method_155_code, 2, (Option.none : Option FieldType), ({ frames := 1, cells := 0, slots := 0, locals := 14 } : Room))
theorem pn_ski : plainFor (own_Mi.y M_ski) = true := plainFor_of_name (by first | (simp [plainName, overriddenIn]; done) | decide +kernel)
set_option maxRecDepth 65536 in
set_option maxHeartbeats 40000000 in
theorem c_ski (K : own_Cx) (a0 : Array Value) (hw : ∀ d ∈ tables_1, d.before a0 K.Z = true) (rf : Value) (hrf : rf.isRef = true) (SF : Sta K.Z K.Z.heap "jdk/internal/util/Preconditions" "SIOOBE_FORMATTER" "Ljava/util/function/BiFunction;" rf) (i n : Int32) (h : Heap) (h0 : 0 ≤ i.toInt) (h1 : i.toInt < n.toInt) :
    own_Met K M_ski #[.int i, .int n] [] h (own_void fun h' _ => h' = h) := by
  refine own_met_2_0 (M := M_ski) pn_ski rfl (by first | rfl | exact own_cat (by assumption)) (by first | rfl | exact own_cat (by assumption)) ?_
  refine own_iload_n (pc' := 1) rfl d_ski_0 rfl ?_
  refine own_iload_n (pc' := 2) rfl d_ski_1 rfl ?_
  refine own_getS (pc' := 5) rfl d_ski_2 (tw_183 hw) Via.refl (by assumption) ?_
  refine own_static3v (M' := M_pci) d_ski_5 (pc' := 8) rfl (tw_185 hw) (tw_186 hw) (tw_184 hw) (tw_187 hw) (by decide) rfl (own_lenOf pd_9 rfl) rfl rfl rfl rfl (c_pci K a0 hw rf hrf i n h h0 h1) (by simp) ?_
  rintro w h2 xs ⟨rfl, rfl⟩
  refine own_pop (pc' := 9) rfl d_ski_8 (by first | rfl | assumption) ?_
  refine own_return rfl d_ski_9 rfl rfl ?_
  rfl
theorem d_lca_0 : decode jdk_43_method_2_code 0 = .ok (.iload_n 1, 1) := by decide +kernel
theorem d_lca_1 : decode jdk_43_method_2_code 1 = .ok (.aload_n 0, 1) := by decide +kernel
theorem d_lca_2 : decode jdk_43_method_2_code 2 = .ok (.arraylength, 1) := by decide +kernel
theorem d_lca_3 : decode jdk_43_method_2_code 3 = .ok (.invokestatic 9, 3) := by decide +kernel
theorem d_lca_6 : decode jdk_43_method_2_code 6 = .ok (.aload_n 0, 1) := by decide +kernel
theorem d_lca_7 : decode jdk_43_method_2_code 7 = .ok (.iload_n 1, 1) := by decide +kernel
theorem d_lca_8 : decode jdk_43_method_2_code 8 = .ok (.baload, 1) := by decide +kernel
theorem d_lca_9 : decode jdk_43_method_2_code 9 = .ok (.sipush 255, 3) := by decide +kernel
theorem d_lca_12 : decode jdk_43_method_2_code 12 = .ok (.iand, 1) := by decide +kernel
theorem d_lca_13 : decode jdk_43_method_2_code 13 = .ok (.i2c, 1) := by decide +kernel
theorem d_lca_14 : decode jdk_43_method_2_code 14 = .ok (.ireturn, 1) := by decide +kernel
abbrev M_lca : own_Mi := ((⟨"java/lang/StringLatin1", "charAt", "([BI)C"⟩ : MethodName), jdk_43_method_2_code, 2, (Option.some FieldType.char), ({ frames := 2, cells := 0, slots := 0, locals := 27 } : Room))
theorem pn_lca : plainFor (own_Mi.y M_lca) = true := plainFor_of_name (by first | (simp [plainName, overriddenIn]; done) | decide +kernel)
set_option maxRecDepth 65536 in
set_option maxHeartbeats 40000000 in
theorem c_lca (K : own_Cx) (a0 : Array Value) (hw : ∀ d ∈ tables_1, d.before a0 K.Z = true) (rf : Value) (hrf : rf.isRef = true) (SF : Sta K.Z K.Z.heap "jdk/internal/util/Preconditions" "SIOOBE_FORMATTER" "Ljava/util/function/BiFunction;" rf) (b : Addr) (cs : List Int32) (j : Int32) (i : Nat) (c : Int32) (h : Heap) (hcs : own_Chs cs) (hl : cs.length < 2 ^ 30) (ql : own_lat cs = true) (B : own_Ary K.Z h b .byte (own_ints (cs.map own_bt))) (hj : j.toInt = i) (hc : cs[i]? = some c) :
    own_Met K M_lca #[.ref b, .int j] [] h (own_ret fun w h' _ => w = .int c ∧ h' = h) := by
  have hi := (List.getElem?_eq_some_iff.mp hc).1
  have hn : (cs.length.toInt32).toInt = cs.length := own_lit _ (by omega)
  have hcr := hcs c (List.mem_of_getElem? hc)
  have hc2 := own_lat_get ql hc
  refine own_met_2_0 (M := M_lca) pn_lca rfl (by first | rfl | exact own_cat (by assumption)) (by first | rfl | exact own_cat (by assumption)) ?_
  refine own_iload_n (pc' := 1) rfl d_lca_0 rfl ?_
  refine own_aload_n (pc' := 2) rfl d_lca_1 rfl (by first | rfl | assumption) ?_
  refine own_arrlen (z := cs.length.toInt32) (pc' := 3) rfl d_lca_2 B (by rw [hn]; simp) ?_
  refine own_static2n (M' := M_ski) d_lca_3 (pc' := 6) rfl (tw_180 hw) (tw_181 hw) (tw_20 hw) (tw_182 hw) (by decide) rfl (own_lenOf pd_10 rfl) rfl rfl rfl rfl (c_ski K a0 hw rf hrf SF j _ h (by omega) (by omega)) (by simp) ?_
  rintro h1 xs rfl
  refine own_aload_n (pc' := 7) rfl d_lca_6 rfl (by first | rfl | assumption) ?_
  refine own_iload_n (pc' := 8) rfl d_lca_7 rfl ?_
  refine own_baload (pc' := 9) rfl d_lca_8 B (i := i) hj (by first | exact own_ints_get hc | exact own_ints_getM hc) ?_
  refine own_sipush (v := (255 : Int32)) (pc' := 12) rfl d_lca_9 rfl ?_
  refine own_iand (pc' := 13) rfl d_lca_12 ?_
  refine own_i2c (pc' := 14) rfl d_lca_13 ?_
  rw [own_lat_byte hcr.1 hc2, own_i2c_id hcr.1 hcr.2]
  refine own_ireturnN (t := .char) rfl (by simp) (own_i2c_id hcr.1 hcr.2) d_lca_14 rfl rfl ?_
  exact ⟨rfl, rfl⟩
theorem d_uci_0 : decode jdk_52_method_91_code 0 = .ok (.iload_n 0, 1) := by decide +kernel
theorem d_uci_1 : decode jdk_52_method_91_code 1 = .ok (.aload_n 1, 1) := by decide +kernel
theorem d_uci_2 : decode jdk_52_method_91_code 2 = .ok (.invokestatic 48, 3) := by decide +kernel
theorem d_uci_5 : decode jdk_52_method_91_code 5 = .ok (.invokestatic 414, 3) := by decide +kernel
theorem d_uci_8 : decode jdk_52_method_91_code 8 = .ok (.return_, 1) := by decide +kernel
abbrev M_uci : own_Mi := ((⟨"java/lang/StringUTF16", "checkIndex", "(I[B)V"⟩ : MethodName), jdk_52_method_91_code, 2, (Option.none : Option FieldType), ({ frames := 2, cells := 0, slots := 0, locals := 27 } : Room))
theorem pn_uci : plainFor (own_Mi.y M_uci) = true := plainFor_of_name (by first | (simp [plainName, overriddenIn]; done) | decide +kernel)
set_option maxRecDepth 65536 in
set_option maxHeartbeats 40000000 in
theorem c_uci (K : own_Cx) (a0 : Array Value) (hw : ∀ d ∈ tables_1, d.before a0 K.Z = true) (rf : Value) (hrf : rf.isRef = true) (SF : Sta K.Z K.Z.heap "jdk/internal/util/Preconditions" "SIOOBE_FORMATTER" "Ljava/util/function/BiFunction;" rf) (b : Addr) (cs : List Int32) (j : Int32) (i : Nat) (h : Heap) (hl : cs.length < 2 ^ 30) (B : own_Ary K.Z h b .byte (own_ints (own_two cs))) (hj : j.toInt = i) (hi : i < cs.length) :
    own_Met K M_uci #[.int j, .ref b] [] h (own_void fun h' _ => h' = h) := by
  have hn : (cs.length.toInt32).toInt = cs.length := own_lit _ (by omega)
  refine own_met_2_0 (M := M_uci) pn_uci rfl (by first | rfl | exact own_cat (by assumption)) (by first | rfl | exact own_cat (by assumption)) ?_
  refine own_iload_n (pc' := 1) rfl d_uci_0 rfl ?_
  refine own_aload_n (pc' := 2) rfl d_uci_1 rfl (by first | rfl | assumption) ?_
  refine own_static1v (M' := M_ul) d_uci_2 (pc' := 5) rfl (tw_248 hw) (tw_249 hw) (tw_211 hw) (tw_250 hw) (by decide) rfl (own_lenOf pd_11 rfl) rfl rfl rfl rfl (c_ul K a0 hw b cs h hl B) (by simp) ?_
  rintro w h1 xs ⟨rfl, rfl⟩
  refine own_static2n (M' := M_ski) d_uci_5 (pc' := 8) rfl (tw_251 hw) (tw_181 hw) (tw_20 hw) (tw_182 hw) (by decide) rfl (own_lenOf pd_10 rfl) rfl rfl rfl rfl (c_ski K a0 hw rf hrf SF j _ h1 (by omega) (by omega)) (by simp) ?_
  rintro h2 xs2 rfl
  refine own_return rfl d_uci_8 rfl rfl ?_
  rfl
theorem d_uca_0 : decode jdk_52_method_83_code 0 = .ok (.iload_n 1, 1) := by decide +kernel
theorem d_uca_1 : decode jdk_52_method_83_code 1 = .ok (.aload_n 0, 1) := by decide +kernel
theorem d_uca_2 : decode jdk_52_method_83_code 2 = .ok (.invokestatic 67, 3) := by decide +kernel
theorem d_uca_5 : decode jdk_52_method_83_code 5 = .ok (.aload_n 0, 1) := by decide +kernel
theorem d_uca_6 : decode jdk_52_method_83_code 6 = .ok (.iload_n 1, 1) := by decide +kernel
theorem d_uca_7 : decode jdk_52_method_83_code 7 = .ok (.invokestatic 71, 3) := by decide +kernel
theorem d_uca_10 : decode jdk_52_method_83_code 10 = .ok (.ireturn, 1) := by decide +kernel
abbrev M_uca : own_Mi := ((⟨"java/lang/StringUTF16", "charAt", "([BI)C"⟩ : MethodName), jdk_52_method_83_code, 2, (Option.some FieldType.char), ({ frames := 3, cells := 0, slots := 0, locals := 40 } : Room))
theorem pn_uca : plainFor (own_Mi.y M_uca) = true := plainFor_of_name (by first | (simp [plainName, overriddenIn]; done) | decide +kernel)
set_option maxRecDepth 65536 in
set_option maxHeartbeats 40000000 in
theorem c_uca (K : own_Cx) (a0 : Array Value) (hw : ∀ d ∈ tables_1, d.before a0 K.Z = true) (hU : own_U16 K) (rf : Value) (hrf : rf.isRef = true) (SF : Sta K.Z K.Z.heap "jdk/internal/util/Preconditions" "SIOOBE_FORMATTER" "Ljava/util/function/BiFunction;" rf) (b : Addr) (cs : List Int32) (j : Int32) (i : Nat) (c : Int32) (h : Heap) (hcs : own_Chs cs) (hl : cs.length < 2 ^ 29) (B : own_Ary K.Z h b .byte (own_ints (own_two cs))) (hj : j.toInt = i) (hc : cs[i]? = some c) :
    own_Met K M_uca #[.ref b, .int j] [] h (own_ret fun w h' _ => w = .int c ∧ h' = h) := by
  have hi := (List.getElem?_eq_some_iff.mp hc).1
  have hcr := hcs c (List.mem_of_getElem? hc)
  refine own_met_2_0 (M := M_uca) pn_uca rfl (by first | rfl | exact own_cat (by assumption)) (by first | rfl | exact own_cat (by assumption)) ?_
  refine own_iload_n (pc' := 1) rfl d_uca_0 rfl ?_
  refine own_aload_n (pc' := 2) rfl d_uca_1 rfl (by first | rfl | assumption) ?_
  refine own_static2n (M' := M_uci) d_uca_2 (pc' := 5) rfl (tw_245 hw) (tw_246 hw) (tw_211 hw) (tw_247 hw) (by decide) rfl (own_lenOf pd_12 rfl) rfl rfl rfl rfl (c_uci K a0 hw rf hrf SF b cs j i h (by omega) B hj hi) (by simp) ?_
  rintro h1 xs rfl
  refine own_aload_n (pc' := 6) rfl d_uca_5 rfl (by first | rfl | assumption) ?_
  refine own_iload_n (pc' := 7) rfl d_uca_6 rfl ?_
  refine own_static2v (M' := M_gc) d_uca_7 (pc' := 10) rfl (tw_232 hw) (tw_233 hw) (tw_211 hw) (tw_234 hw) (by decide) rfl (own_lenOf pd_5 rfl) rfl rfl rfl rfl (c_gc K a0 hw hU b j i c cs h1 hj hc (by omega) hcs B) (by simp) ?_
  rintro w h2 xs2 ⟨rfl, rfl⟩
  refine own_ireturnN (t := .char) rfl (by simp) (own_i2c_id hcr.1 hcr.2) d_uca_10 rfl rfl ?_
  exact ⟨rfl, rfl⟩
theorem d_sca_0 : decode jdk_42_method_56_code 0 = .ok (.aload_n 0, 1) := by decide +kernel
theorem d_sca_1 : decode jdk_42_method_56_code 1 = .ok (.invokevirtual 492, 3) := by decide +kernel
theorem d_sca_4 : decode jdk_42_method_56_code 4 = .ok (.ifCond .eq 12, 3) := by decide +kernel
theorem d_sca_7 : decode jdk_42_method_56_code 7 = .ok (.aload_n 0, 1) := by decide +kernel
theorem d_sca_8 : decode jdk_42_method_56_code 8 = .ok (.getfield 9, 3) := by decide +kernel
theorem d_sca_11 : decode jdk_42_method_56_code 11 = .ok (.iload_n 1, 1) := by decide +kernel
theorem d_sca_12 : decode jdk_42_method_56_code 12 = .ok (.invokestatic 495, 3) := by decide +kernel
theorem d_sca_15 : decode jdk_42_method_56_code 15 = .ok (.ireturn, 1) := by decide +kernel
theorem d_sca_16 : decode jdk_42_method_56_code 16 = .ok (.aload_n 0, 1) := by decide +kernel
theorem d_sca_17 : decode jdk_42_method_56_code 17 = .ok (.getfield 9, 3) := by decide +kernel
theorem d_sca_20 : decode jdk_42_method_56_code 20 = .ok (.iload_n 1, 1) := by decide +kernel
theorem d_sca_21 : decode jdk_42_method_56_code 21 = .ok (.invokestatic 498, 3) := by decide +kernel
theorem d_sca_24 : decode jdk_42_method_56_code 24 = .ok (.ireturn, 1) := by decide +kernel
abbrev M_sca : own_Mi := ((⟨"java/lang/String", "charAt", "(I)C"⟩ : MethodName), jdk_42_method_56_code, 2, (Option.some FieldType.char), ({ frames := 4, cells := 0, slots := 0, locals := 53 } : Room))
theorem pn_sca : plainFor (own_Mi.y M_sca) = true := plainFor_of_name (by first | (simp [plainName, overriddenIn]; done) | decide +kernel)
set_option maxRecDepth 65536 in
set_option maxHeartbeats 40000000 in
theorem c_sca (K : own_Cx) (a0 : Array Value) (hw : ∀ d ∈ tables_1, d.before a0 K.Z = true)
    (hU : own_U16 K)
    (g : Int32) (SC : Sta K.Z K.Z.heap own_sC "COMPACT_STRINGS" "Z" (.int g)) (hg : ¬ g = 0) (rf : Value) (hrf : rf.isRef = true) (SF : Sta K.Z K.Z.heap "jdk/internal/util/Preconditions" "SIOOBE_FORMATTER" "Ljava/util/function/BiFunction;" rf) (x : Addr) (cs : List Int32) (j : Int32) (i : Nat) (c : Int32) (h : Heap) (S : own_Str K.Z h x cs) (hl2 : cs.length < 2 ^ 29) (hj : j.toInt = i) (hc : cs[i]? = some c)
    : own_Met K M_sca #[.ref x, .int j] [] h (own_ret fun w h' _ => w = .int c ∧ h' = h) := by
  have S' := S
  obtain ⟨E, hcs, hl, b, FV, FC, B⟩ := S'
  have hcr := hcs c (List.mem_of_getElem? hc)
  refine own_met_2_0 (M := M_sca) pn_sca rfl (by first | rfl | exact own_cat (by assumption)) (by first | rfl | exact own_cat (by assumption)) ?_
  refine own_aload_n (pc' := 1) rfl d_sca_0 rfl (by first | rfl | assumption) ?_
  refine own_virtual0v (M' := M_isl) d_sca_1 (pc' := 4) rfl (tw_172 hw) (tw_173 hw) (tw_175 hw) (tw_174 hw) (tw_20 hw) (tw_176 hw) (by decide) rfl (own_lenOf pd_13 rfl) rfl rfl rfl rfl E (c_isl K a0 hw g SC hg x cs h S) (by simp) ?_
  rintro w h1 xs ⟨rfl, rfl⟩
  cases ql : own_lat cs
  · skip
    refine own_ifeq (pcT := 16) (pcF := 7) d_sca_4 (by decide) (by decide) rfl (fun q => ?_) (fun q => ?_)
    · skip
      refine own_aload_n (pc' := 17) rfl d_sca_16 rfl (by first | rfl | assumption) ?_
      refine own_getF (pc' := 20) rfl d_sca_17 (tw_38 hw) Via.refl (by assumption) ?_
      refine own_iload_n (pc' := 21) rfl d_sca_20 rfl ?_
      refine own_static2v (M' := M_uca) d_sca_21 (pc' := 24) rfl (tw_242 hw) (tw_243 hw) (tw_211 hw) (tw_244 hw) (by decide) rfl (own_lenOf pd_5 rfl) rfl rfl rfl rfl (c_uca K a0 hw hU rf hrf SF b cs j i c h1 hcs hl2 (by rw [(own_enc_utf ql).1] at B; exact B) hj hc) (by simp) ?_
      rintro w h2 xs2 ⟨rfl, rfl⟩
      refine own_ireturnN (t := .char) rfl (by simp) (own_i2c_id hcr.1 hcr.2) d_sca_24 rfl rfl ?_
      exact ⟨rfl, rfl⟩
    · exact absurd rfl q
  · skip
    refine own_ifeq (pcT := 16) (pcF := 7) d_sca_4 (by decide) (by decide) rfl (fun q => ?_) (fun q => ?_)
    · exact absurd q (by decide)
    · skip
      refine own_aload_n (pc' := 8) rfl d_sca_7 rfl (by first | rfl | assumption) ?_
      refine own_getF (pc' := 11) rfl d_sca_8 (tw_38 hw) Via.refl (by assumption) ?_
      refine own_iload_n (pc' := 12) rfl d_sca_11 rfl ?_
      refine own_static2v (M' := M_lca) d_sca_12 (pc' := 15) rfl (tw_177 hw) (tw_178 hw) (tw_151 hw) (tw_179 hw) (by decide) rfl (own_lenOf pd_5 rfl) rfl rfl rfl rfl (c_lca K a0 hw rf hrf SF b cs j i c h1 hcs hl ql (by rw [(own_enc_lat ql).1] at B; exact B) hj hc) (by simp) ?_
      rintro w h2 xs2 ⟨rfl, rfl⟩
      refine own_ireturnN (t := .char) rfl (by simp) (own_i2c_id hcr.1 hcr.2) d_sca_15 rfl rfl ?_
      exact ⟨rfl, rfl⟩
theorem own_ary_inj {Z : State} {h : Heap} {b : Addr} {t t' : FieldType} {vs ws : List Value} (A : own_Ary Z h b t vs) (B : own_Ary Z h b t' ws) : vs = ws := by
  obtain ⟨c, a1, a2, -⟩ := A
  obtain ⟨c', b1, b2, -⟩ := B
  cases a1.1.symm.trans b1.1
  rw [a2] at b2
  simpa using b2
theorem own_fld_inj {Z : State} {h : Heap} {a : Addr} {C n d : String} {v w : Value} (F : Fld Z h a C n d v) (G : Fld Z h a C n d w) : v = w := by
  refine Decidable.byContradiction fun q => ?_
  exact F.ne G q rfl
theorem own_ints_inj {xs ys : List Int32} (q : own_ints xs = own_ints ys) : xs = ys := by
  have := congrArg (List.map fun v => match v with | Value.int x => x | _ => 0) q
  simpa [own_ints, List.map_map, Function.comp_def] using this
theorem own_two_inj : ∀ {cs ds : List Int32}, own_Chs cs → own_Chs ds → own_two cs = own_two ds → cs = ds := by
  intro cs
  induction cs with
  | nil => intro ds _ _ q; cases ds with | nil => rfl | cons d r => simp [own_two] at q
  | cons c r ih =>
    intro ds h1 h2 q
    cases ds with
    | nil => simp [own_two] at q
    | cons d s =>
      have e1 : own_two (c :: r) = own_bt c :: own_hb c :: own_two r := rfl
      have e2 : own_two (d :: s) = own_bt d :: own_hb d :: own_two s := rfl
      rw [e1, e2] at q
      injection q with q1 q
      injection q with q2 q3
      have hc := h1 c (by simp)
      have hd := h2 d (by simp)
      have e : c = d := by rw [← own_join hc.1 hc.2, ← own_join hd.1 hd.2, q1, q2]
      rw [e, ih (fun z hz => h1 z (by simp [hz])) (fun z hz => h2 z (by simp [hz])) q3]
theorem own_bts_inj : ∀ {cs ds : List Int32}, own_Chs cs → own_Chs ds → own_lat cs = true → own_lat ds = true → cs.map own_bt = ds.map own_bt → cs = ds := by
  intro cs
  induction cs with
  | nil => intro ds _ _ _ _ q; cases ds with | nil => rfl | cons d r => simp at q
  | cons c r ih =>
    intro ds h1 h2 l1 l2 q
    cases ds with
    | nil => simp at q
    | cons d s =>
      simp only [List.map_cons] at q
      injection q with q1 q2
      have hc := h1 c (by simp)
      have hd := h2 d (by simp)
      have lc := own_lat_get l1 (i := 0) (c := c) rfl
      have ld := own_lat_get l2 (i := 0) (c := d) rfl
      have e : c = d := by rw [← own_lat_byte hc.1 lc, ← own_lat_byte hd.1 ld, q1]
      simp only [own_lat, List.all_cons, Bool.and_eq_true] at l1 l2
      rw [e, ih (fun z hz => h1 z (by simp [hz])) (fun z hz => h2 z (by simp [hz])) l1.2 l2.2 q2]
theorem own_enc_inj {cs ds : List Int32} (h1 : own_Chs cs) (h2 : own_Chs ds) (hl : own_cod cs = own_cod ds) (q : own_enc cs = own_enc ds) : cs = ds := by
  cases l1 : own_lat cs <;> cases l2 : own_lat ds
  · rw [(own_enc_utf l1).1, (own_enc_utf l2).1] at q; exact own_two_inj h1 h2 q
  · rw [(own_enc_utf l1).2, (own_enc_lat l2).2] at hl; cases hl
  · rw [(own_enc_lat l1).2, (own_enc_utf l2).2] at hl; cases hl
  · rw [(own_enc_lat l1).1, (own_enc_lat l2).1] at q; exact own_bts_inj h1 h2 l1 l2 q
theorem own_str_inj {Z : State} {h : Heap} {x : Addr} {cs ds : List Int32} (S : own_Str Z h x cs) (T : own_Str Z h x ds) : cs = ds := by
  obtain ⟨-, h1, -, b, f1, f2, f3⟩ := S
  obtain ⟨-, g1, -, d, k1, k2, k3⟩ := T
  cases own_fld_inj f1 k1
  exact own_enc_inj h1 g1 (Value.int.inj (own_fld_inj f2 k2)) (own_ints_inj (own_ary_inj f3 k3))
theorem d_leq_0 : decode jdk_43_method_13_code 0 = .ok (.aload_n 0, 1) := by decide +kernel
theorem d_leq_1 : decode jdk_43_method_13_code 1 = .ok (.arraylength, 1) := by decide +kernel
theorem d_leq_2 : decode jdk_43_method_13_code 2 = .ok (.aload_n 1, 1) := by decide +kernel
theorem d_leq_3 : decode jdk_43_method_13_code 3 = .ok (.arraylength, 1) := by decide +kernel
theorem d_leq_4 : decode jdk_43_method_13_code 4 = .ok (.if_icmp .ne 30, 3) := by decide +kernel
theorem d_leq_7 : decode jdk_43_method_13_code 7 = .ok (.iconst 0, 1) := by decide +kernel
theorem d_leq_8 : decode jdk_43_method_13_code 8 = .ok (.istore_n 2, 1) := by decide +kernel
theorem d_leq_9 : decode jdk_43_method_13_code 9 = .ok (.iload_n 2, 1) := by decide +kernel
theorem d_leq_10 : decode jdk_43_method_13_code 10 = .ok (.aload_n 0, 1) := by decide +kernel
theorem d_leq_11 : decode jdk_43_method_13_code 11 = .ok (.arraylength, 1) := by decide +kernel
theorem d_leq_12 : decode jdk_43_method_13_code 12 = .ok (.if_icmp .ge 20, 3) := by decide +kernel
theorem d_leq_15 : decode jdk_43_method_13_code 15 = .ok (.aload_n 0, 1) := by decide +kernel
theorem d_leq_16 : decode jdk_43_method_13_code 16 = .ok (.iload_n 2, 1) := by decide +kernel
theorem d_leq_17 : decode jdk_43_method_13_code 17 = .ok (.baload, 1) := by decide +kernel
theorem d_leq_18 : decode jdk_43_method_13_code 18 = .ok (.aload_n 1, 1) := by decide +kernel
theorem d_leq_19 : decode jdk_43_method_13_code 19 = .ok (.iload_n 2, 1) := by decide +kernel
theorem d_leq_20 : decode jdk_43_method_13_code 20 = .ok (.baload, 1) := by decide +kernel
theorem d_leq_21 : decode jdk_43_method_13_code 21 = .ok (.if_icmp .eq 5, 3) := by decide +kernel
theorem d_leq_24 : decode jdk_43_method_13_code 24 = .ok (.iconst 0, 1) := by decide +kernel
theorem d_leq_25 : decode jdk_43_method_13_code 25 = .ok (.ireturn, 1) := by decide +kernel
theorem d_leq_26 : decode jdk_43_method_13_code 26 = .ok (.iinc 2 1, 3) := by decide +kernel
theorem d_leq_29 : decode jdk_43_method_13_code 29 = .ok (.goto (-20), 3) := by decide +kernel
theorem d_leq_32 : decode jdk_43_method_13_code 32 = .ok (.iconst 1, 1) := by decide +kernel
theorem d_leq_33 : decode jdk_43_method_13_code 33 = .ok (.ireturn, 1) := by decide +kernel
theorem d_leq_34 : decode jdk_43_method_13_code 34 = .ok (.iconst 0, 1) := by decide +kernel
theorem d_leq_35 : decode jdk_43_method_13_code 35 = .ok (.ireturn, 1) := by decide +kernel
abbrev M_leq : own_Mi := ((⟨"java/lang/StringLatin1", "equals", "([B[B)Z"⟩ : MethodName), jdk_43_method_13_code, 3, (Option.some FieldType.boolean), ({ frames := 0, cells := 0, slots := 0, locals := 0 } : Room))
theorem pn_leq : plainFor (own_Mi.y M_leq) = true := plainFor_of_name (by first | (simp [plainName, overriddenIn]; done) | decide +kernel)
set_option maxRecDepth 65536 in
set_option maxHeartbeats 40000000 in
theorem c_leq (K : own_Cx) (a0 : Array Value) (hw : ∀ d ∈ tables_1, d.before a0 K.Z = true) (a b : Addr) (xs ys : List Int32) (h : Heap) (A : own_Ary K.Z h a .byte (own_ints xs)) (B : own_Ary K.Z h b .byte (own_ints ys)) :
    own_Met K M_leq #[.ref a, .ref b] [] h (own_ret fun w h' _ => w = .int (if xs = ys then 1 else 0) ∧ h' = h) := by
  have la : xs.length < 2 ^ 31 := by obtain ⟨_, _, _, q⟩ := A; simpa using q
  have lb : ys.length < 2 ^ 31 := by obtain ⟨_, _, _, q⟩ := B; simpa using q
  have ha : (xs.length.toInt32).toInt = xs.length := own_lit _ la
  have hb : (ys.length.toInt32).toInt = ys.length := own_lit _ lb
  refine own_met_2_1 (M := M_leq) pn_leq rfl (by first | rfl | exact own_cat (by assumption)) (by first | rfl | exact own_cat (by assumption)) ?_
  refine own_aload_n (pc' := 1) rfl d_leq_0 rfl (by first | rfl | assumption) ?_
  refine own_arrlen (z := xs.length.toInt32) (pc' := 2) rfl d_leq_1 A (by rw [ha]; simp) ?_
  refine own_aload_n (pc' := 3) rfl d_leq_2 rfl (by first | rfl | assumption) ?_
  refine own_arrlen (z := ys.length.toInt32) (pc' := 4) rfl d_leq_3 B (by rw [hb]; simp) ?_
  refine own_icmpne (pcT := 34) (pcF := 7) d_leq_4 (by decide) (by decide) rfl (fun q => ?_) (fun q => ?_)
  · skip
    refine own_iconst (v := (0 : Int32)) (pc' := 35) rfl d_leq_34 rfl ?_
    refine own_ireturnN (t := .boolean) rfl (by simp) (by first | exact own_nb0 | exact own_nb1 | rfl) d_leq_35 rfl rfl ?_
    refine ⟨?_, rfl⟩
    rw [if_neg]
    intro e
    exact q (by rw [e])
  · have hlen : xs.length = ys.length := by
      have := congrArg Int32.toInt q
      omega
    refine own_iconst (v := (0 : Int32)) (pc' := 8) rfl d_leq_7 rfl ?_
    refine own_istore_n2 (pc' := 9) rfl d_leq_8 (by first | exact One.u | exact One.val rfl | assumption | exact One.val (by assumption)) ?_
    suffices key : ∀ (k i : Nat) (j : Int32), i + k = xs.length → j.toInt = i → xs.take i = ys.take i → own_WP K M_leq (own_ret fun w h' _ => w = .int (if xs = ys then 1 else 0) ∧ h' = h) 9 [.val (.ref a), .val (.ref b), .val (.int j)] [] [] h 0 0 from
      key xs.length 0 0 (by simp) rfl (by simp)
    intro k
    induction k with
    | zero =>
      intro i j hik hj ht
      refine own_iload_n (pc' := 10) rfl d_leq_9 rfl ?_
      refine own_aload_n (pc' := 11) rfl d_leq_10 rfl (by first | rfl | assumption) ?_
      refine own_arrlen (z := xs.length.toInt32) (pc' := 12) rfl d_leq_11 A (by rw [ha]; simp) ?_
      refine own_icmpge (pcT := 32) (pcF := 15) d_leq_12 (by decide) (by decide) rfl (fun q2 => ?_) (fun q2 => ?_)
      · skip
        refine own_iconst (v := (1 : Int32)) (pc' := 33) rfl d_leq_32 rfl ?_
        refine own_ireturnN (t := .boolean) rfl (by simp) (by first | exact own_nb0 | exact own_nb1 | rfl) d_leq_33 rfl rfl ?_
        refine ⟨?_, rfl⟩
        rw [if_pos]
        rw [List.take_of_length_le (by omega), List.take_of_length_le (by omega)] at ht
        exact ht
      · rw [Int32.lt_iff_toInt_lt] at q2; omega
    | succ k ih =>
      intro i j hik hj ht
      have hi : i < xs.length := by omega
      obtain ⟨c, hc⟩ : ∃ c, xs[i]? = some c := ⟨xs[i], by simp [hi]⟩
      obtain ⟨d, hd⟩ : ∃ d, ys[i]? = some d := ⟨ys[i], by simp [show i < ys.length by omega]⟩
      refine own_iload_n (pc' := 10) rfl d_leq_9 rfl ?_
      refine own_aload_n (pc' := 11) rfl d_leq_10 rfl (by first | rfl | assumption) ?_
      refine own_arrlen (z := xs.length.toInt32) (pc' := 12) rfl d_leq_11 A (by rw [ha]; simp) ?_
      refine own_icmpge (pcT := 32) (pcF := 15) d_leq_12 (by decide) (by decide) rfl (fun q2 => ?_) (fun q2 => ?_)
      · exact absurd (by rw [Int32.lt_iff_toInt_lt]; omega) q2
      · skip
        refine own_aload_n (pc' := 16) rfl d_leq_15 rfl (by first | rfl | assumption) ?_
        refine own_iload_n (pc' := 17) rfl d_leq_16 rfl ?_
        refine own_baload (pc' := 18) rfl d_leq_17 A (i := i) hj (by first | exact own_ints_get hc | exact own_ints_getM hc) ?_
        refine own_aload_n (pc' := 19) rfl d_leq_18 rfl (by first | rfl | assumption) ?_
        refine own_iload_n (pc' := 20) rfl d_leq_19 rfl ?_
        refine own_baload (pc' := 21) rfl d_leq_20 B (i := i) hj (by first | exact own_ints_get hd | exact own_ints_getM hd) ?_
        refine own_icmpeq (pcT := 26) (pcF := 24) d_leq_21 (by decide) (by decide) rfl (fun q3 => ?_) (fun q3 => ?_)
        · skip
          refine own_iinc_2 (z := (1 : Int32)) (pc' := 29) rfl d_leq_26 rfl ?_
          refine own_goto (pc' := 9) d_leq_29 (by decide) (by decide) ?_
          refine ih (i + 1) (j + 1) (by omega) (by rw [own_add hj (by rfl : (1 : Int32).toInt = 1)] <;> omega) ?_
          rw [List.take_add_one, List.take_add_one, hc, hd, ht, q3]
        · skip
          refine own_iconst (v := (0 : Int32)) (pc' := 25) rfl d_leq_24 rfl ?_
          refine own_ireturnN (t := .boolean) rfl (by simp) (by first | exact own_nb0 | exact own_nb1 | rfl) d_leq_25 rfl rfl ?_
          refine ⟨?_, rfl⟩
          rw [if_neg]
          intro e
          rw [e, hd] at hc
          exact q3 (Option.some.inj hc).symm
theorem d_seq_0 : decode jdk_42_method_66_code 0 = .ok (.aload_n 0, 1) := by decide +kernel
theorem d_seq_1 : decode jdk_42_method_66_code 1 = .ok (.aload_n 1, 1) := by decide +kernel
theorem d_seq_2 : decode jdk_42_method_66_code 2 = .ok (.if_acmp .ne 5, 3) := by decide +kernel
theorem d_seq_5 : decode jdk_42_method_66_code 5 = .ok (.iconst 1, 1) := by decide +kernel
theorem d_seq_6 : decode jdk_42_method_66_code 6 = .ok (.ireturn, 1) := by decide +kernel
theorem d_seq_7 : decode jdk_42_method_66_code 7 = .ok (.aload_n 1, 1) := by decide +kernel
theorem d_seq_8 : decode jdk_42_method_66_code 8 = .ok (.instanceof 10, 3) := by decide +kernel
theorem d_seq_11 : decode jdk_42_method_66_code 11 = .ok (.ifCond .eq 43, 3) := by decide +kernel
theorem d_seq_14 : decode jdk_42_method_66_code 14 = .ok (.aload_n 1, 1) := by decide +kernel
theorem d_seq_15 : decode jdk_42_method_66_code 15 = .ok (.checkcast 10, 3) := by decide +kernel
theorem d_seq_18 : decode jdk_42_method_66_code 18 = .ok (.astore_n 2, 1) := by decide +kernel
theorem d_seq_19 : decode jdk_42_method_66_code 19 = .ok (.getstatic 38, 3) := by decide +kernel
theorem d_seq_22 : decode jdk_42_method_66_code 22 = .ok (.ifCond .eq 14, 3) := by decide +kernel
theorem d_seq_25 : decode jdk_42_method_66_code 25 = .ok (.aload_n 0, 1) := by decide +kernel
theorem d_seq_26 : decode jdk_42_method_66_code 26 = .ok (.getfield 15, 3) := by decide +kernel
theorem d_seq_29 : decode jdk_42_method_66_code 29 = .ok (.aload_n 2, 1) := by decide +kernel
theorem d_seq_30 : decode jdk_42_method_66_code 30 = .ok (.getfield 15, 3) := by decide +kernel
theorem d_seq_33 : decode jdk_42_method_66_code 33 = .ok (.if_icmp .ne 21, 3) := by decide +kernel
theorem d_seq_36 : decode jdk_42_method_66_code 36 = .ok (.aload_n 0, 1) := by decide +kernel
theorem d_seq_37 : decode jdk_42_method_66_code 37 = .ok (.getfield 9, 3) := by decide +kernel
theorem d_seq_40 : decode jdk_42_method_66_code 40 = .ok (.aload_n 2, 1) := by decide +kernel
theorem d_seq_41 : decode jdk_42_method_66_code 41 = .ok (.getfield 9, 3) := by decide +kernel
theorem d_seq_44 : decode jdk_42_method_66_code 44 = .ok (.invokestatic 541, 3) := by decide +kernel
theorem d_seq_47 : decode jdk_42_method_66_code 47 = .ok (.ifCond .eq 7, 3) := by decide +kernel
theorem d_seq_50 : decode jdk_42_method_66_code 50 = .ok (.iconst 1, 1) := by decide +kernel
theorem d_seq_51 : decode jdk_42_method_66_code 51 = .ok (.goto 4, 3) := by decide +kernel
theorem d_seq_54 : decode jdk_42_method_66_code 54 = .ok (.iconst 0, 1) := by decide +kernel
theorem d_seq_55 : decode jdk_42_method_66_code 55 = .ok (.ireturn, 1) := by decide +kernel
abbrev M_seq : own_Mi := ((⟨"java/lang/String", "equals", "(Ljava/lang/Object;)Z"⟩ : MethodName), jdk_42_method_66_code, 3, (Option.some FieldType.boolean), ({ frames := 1, cells := 0, slots := 0, locals := 14 } : Room))
theorem pn_seq : plainFor (own_Mi.y M_seq) = true := plainFor_of_name (by first | (simp [plainName, overriddenIn]; done) | decide +kernel)
set_option maxRecDepth 65536 in
set_option maxHeartbeats 40000000 in
theorem c_seq (K : own_Cx) (a0 : Array Value) (hw : ∀ d ∈ tables_1, d.before a0 K.Z = true) (g : Int32) (SC : Sta K.Z K.Z.heap own_sC "COMPACT_STRINGS" "Z" (.int g)) (hg : ¬ g = 0) (x y : Addr) (cs ds : List Int32) (h : Heap) (S : own_Str K.Z h x cs) (T : own_Str K.Z h y ds) :
    own_Met K M_seq #[.ref x, .ref y] [] h (own_ret fun w h' _ => w = .int (if cs = ds then 1 else 0) ∧ h' = h) := by
  have S' := S
  have T' := T
  obtain ⟨E, hcs, hl, b, FV, FC, B⟩ := S'
  obtain ⟨E2, hds, hl2, b2, FV2, FC2, B2⟩ := T'
  refine own_met_2_1 (M := M_seq) pn_seq rfl (by first | rfl | exact own_cat (by assumption)) (by first | rfl | exact own_cat (by assumption)) ?_
  refine own_aload_n (pc' := 1) rfl d_seq_0 rfl (by first | rfl | assumption) ?_
  refine own_aload_n (pc' := 2) rfl d_seq_1 rfl (by first | rfl | assumption) ?_
  refine own_acmpne (pcT := 7) (pcF := 5) d_seq_2 (by decide) (by decide) rfl (by first | rfl | assumption) (by first | rfl | assumption) (fun q => ?_) (fun q => ?_)
  · skip
    refine own_aload_n (pc' := 8) rfl d_seq_7 rfl (by first | rfl | assumption) ?_
    refine own_instY (pc' := 11) rfl d_seq_8 (tw_148 hw) (Ins.self E2) ?_
    refine own_ifeq (pcT := 54) (pcF := 14) d_seq_11 (by decide) (by decide) rfl (fun q1 => ?_) (fun q1 => ?_)
    · exact absurd q1 (by decide)
    · skip
      refine own_aload_n (pc' := 15) rfl d_seq_14 rfl (by first | rfl | assumption) ?_
      refine own_castY (pc' := 18) rfl d_seq_15 (tw_148 hw) (Ins.self E2) ?_
      refine own_astore_n2 (pc' := 19) rfl d_seq_18 (by first | exact One.u | exact One.val rfl | assumption | exact One.val (by assumption)) (by first | rfl | assumption) ?_
      refine own_getS (pc' := 22) rfl d_seq_19 (tw_81 hw) Via.refl (by assumption) ?_
      refine own_ifeq (pcT := 36) (pcF := 25) d_seq_22 (by decide) (by decide) rfl (fun q2 => ?_) (fun q2 => ?_)
      · exact absurd q2 hg
      · skip
        refine own_aload_n (pc' := 26) rfl d_seq_25 rfl (by first | rfl | assumption) ?_
        refine own_getF (pc' := 29) rfl d_seq_26 (tw_39 hw) Via.refl FC ?_
        refine own_aload_n (pc' := 30) rfl d_seq_29 rfl (by first | rfl | assumption) ?_
        refine own_getF (pc' := 33) rfl d_seq_30 (tw_39 hw) Via.refl FC2 ?_
        refine own_icmpne (pcT := 54) (pcF := 36) d_seq_33 (by decide) (by decide) rfl (fun q3 => ?_) (fun q3 => ?_)
        · skip
          refine own_iconst (v := (0 : Int32)) (pc' := 55) rfl d_seq_54 rfl ?_
          refine own_ireturnN (t := .boolean) rfl (by simp) (by first | exact own_nb0 | exact own_nb1 | rfl) d_seq_55 rfl rfl ?_
          refine ⟨?_, rfl⟩
          rw [if_neg]
          intro e
          exact q3 (by rw [e])
        · skip
          refine own_aload_n (pc' := 37) rfl d_seq_36 rfl (by first | rfl | assumption) ?_
          refine own_getF (pc' := 40) rfl d_seq_37 (tw_38 hw) Via.refl FV ?_
          refine own_aload_n (pc' := 41) rfl d_seq_40 rfl (by first | rfl | assumption) ?_
          refine own_getF (pc' := 44) rfl d_seq_41 (tw_38 hw) Via.refl FV2 ?_
          refine own_static2v (M' := M_leq) d_seq_44 (pc' := 47) rfl (tw_149 hw) (tw_150 hw) (tw_151 hw) (tw_152 hw) (by decide) rfl (own_lenOf pd_14 rfl) rfl rfl rfl rfl (c_leq K a0 hw b b2 _ _ h B B2) (by simp) ?_
          rintro w h1 xs ⟨rfl, rfl⟩
          have hq : own_enc cs = own_enc ds ↔ cs = ds := ⟨fun z => own_enc_inj hcs hds q3 z, fun z => by rw [z]⟩
          simp only [hq]
          by_cases z : cs = ds
          · rw [if_pos z]
            refine own_ifeq (pcT := 54) (pcF := 50) d_seq_47 (by decide) (by decide) rfl (fun q4 => ?_) (fun q4 => ?_)
            · exact absurd q4 (by decide)
            · skip
              refine own_iconst (v := (1 : Int32)) (pc' := 51) rfl d_seq_50 rfl ?_
              refine own_goto (pc' := 55) d_seq_51 (by decide) (by decide) ?_
              refine own_ireturnN (t := .boolean) rfl (by simp) (by first | exact own_nb0 | exact own_nb1 | rfl) d_seq_55 rfl rfl ?_
              exact ⟨rfl, rfl⟩
          · rw [if_neg z]
            refine own_ifeq (pcT := 54) (pcF := 50) d_seq_47 (by decide) (by decide) rfl (fun q4 => ?_) (fun q4 => ?_)
            · skip
              refine own_iconst (v := (0 : Int32)) (pc' := 55) rfl d_seq_54 rfl ?_
              refine own_ireturnN (t := .boolean) rfl (by simp) (by first | exact own_nb0 | exact own_nb1 | rfl) d_seq_55 rfl rfl ?_
              exact ⟨rfl, rfl⟩
            · exact absurd rfl q4
  · skip
    refine own_iconst (v := (1 : Int32)) (pc' := 6) rfl d_seq_5 rfl ?_
    refine own_ireturnN (t := .boolean) rfl (by simp) (by first | exact own_nb0 | exact own_nb1 | rfl) d_seq_6 rfl rfl ?_
    refine ⟨?_, rfl⟩
    cases q
    rw [if_pos (own_str_inj S T)]
theorem d_cen_0 : decode jdk_43_method_3_code 0 = .ok (.iload_n 0, 1) := by decide +kernel
theorem d_cen_1 : decode jdk_43_method_3_code 1 = .ok (.sipush 255, 3) := by decide +kernel
theorem d_cen_4 : decode jdk_43_method_3_code 4 = .ok (.if_icmp .gt 7, 3) := by decide +kernel
theorem d_cen_7 : decode jdk_43_method_3_code 7 = .ok (.iconst 1, 1) := by decide +kernel
theorem d_cen_8 : decode jdk_43_method_3_code 8 = .ok (.goto 4, 3) := by decide +kernel
theorem d_cen_11 : decode jdk_43_method_3_code 11 = .ok (.iconst 0, 1) := by decide +kernel
theorem d_cen_12 : decode jdk_43_method_3_code 12 = .ok (.ireturn, 1) := by decide +kernel
abbrev M_cen : own_Mi := ((⟨"java/lang/StringLatin1", "canEncode", "(C)Z"⟩ : MethodName), jdk_43_method_3_code, 1, (Option.some FieldType.boolean), ({ frames := 0, cells := 0, slots := 0, locals := 0 } : Room))
theorem pn_cen : plainFor (own_Mi.y M_cen) = true := plainFor_of_name (by first | (simp [plainName, overriddenIn]; done) | decide +kernel)
set_option maxRecDepth 65536 in
set_option maxHeartbeats 40000000 in
theorem c_cen (K : own_Cx) (a0 : Array Value) (hw : ∀ d ∈ tables_1, d.before a0 K.Z = true) (c : Int32) (h : Heap) :
    own_Met K M_cen #[.int c] [] h (own_ret fun w h' _ => w = .int (if c.toInt < 256 then 1 else 0) ∧ h' = h) := by
  have z : (255 : Int32).toInt = 255 := rfl
  refine own_met_1_0 (M := M_cen) pn_cen rfl (by first | rfl | exact own_cat (by assumption)) ?_
  refine own_iload_n (pc' := 1) rfl d_cen_0 rfl ?_
  refine own_sipush (v := (255 : Int32)) (pc' := 4) rfl d_cen_1 rfl ?_
  refine own_icmpgt (pcT := 11) (pcF := 7) d_cen_4 (by decide) (by decide) rfl (fun q => ?_) (fun q => ?_)
  · skip
    refine own_iconst (v := (0 : Int32)) (pc' := 12) rfl d_cen_11 rfl ?_
    refine own_ireturnN (t := .boolean) rfl (by simp) (by first | exact own_nb0 | exact own_nb1 | rfl) d_cen_12 rfl rfl ?_
    rw [Int32.lt_iff_toInt_lt] at q
    exact ⟨by rw [if_neg]; omega, rfl⟩
  · skip
    refine own_iconst (v := (1 : Int32)) (pc' := 8) rfl d_cen_7 rfl ?_
    refine own_goto (pc' := 12) d_cen_8 (by decide) (by decide) ?_
    refine own_ireturnN (t := .boolean) rfl (by simp) (by first | exact own_nb0 | exact own_nb1 | rfl) d_cen_12 rfl rfl ?_
    rw [Int32.lt_iff_toInt_lt] at q
    exact ⟨by rw [if_pos]; omega, rfl⟩
theorem d_ltb_0 : decode jdk_43_method_46_code 0 = .ok (.iconst 1, 1) := by decide +kernel
theorem d_ltb_1 : decode jdk_43_method_46_code 1 = .ok (.newarray .byte, 2) := by decide +kernel
theorem d_ltb_3 : decode jdk_43_method_46_code 3 = .ok (.dup, 1) := by decide +kernel
theorem d_ltb_4 : decode jdk_43_method_46_code 4 = .ok (.iconst 0, 1) := by decide +kernel
theorem d_ltb_5 : decode jdk_43_method_46_code 5 = .ok (.iload_n 0, 1) := by decide +kernel
theorem d_ltb_6 : decode jdk_43_method_46_code 6 = .ok (.i2b, 1) := by decide +kernel
theorem d_ltb_7 : decode jdk_43_method_46_code 7 = .ok (.bastore, 1) := by decide +kernel
theorem d_ltb_8 : decode jdk_43_method_46_code 8 = .ok (.areturn, 1) := by decide +kernel
abbrev M_ltb : own_Mi := ((⟨"java/lang/StringLatin1", "toBytes", "(C)[B"⟩ : MethodName), jdk_43_method_46_code, 1, (Option.some (FieldType.array FieldType.byte)), ({ frames := 0, cells := 1, slots := 1, locals := 0 } : Room))
theorem pn_ltb : plainFor (own_Mi.y M_ltb) = true := plainFor_of_name (by first | (simp [plainName, overriddenIn]; done) | decide +kernel)
set_option maxRecDepth 65536 in
set_option maxHeartbeats 40000000 in
theorem c_ltb (K : own_Cx) (a0 : Array Value) (hw : ∀ d ∈ tables_1, d.before a0 K.Z = true) (c : Int32) (h : Heap) :
    own_Met K M_ltb #[.int c] [] h (own_ret fun w h' _ => ∃ b : Addr, w = .ref b ∧ Ext h h' ∧ h.size ≤ b ∧ own_Ary K.Z h' b .byte (own_ints [own_bt c])) := by
  refine own_met_1_0 (M := M_ltb) pn_ltb rfl (by first | rfl | exact own_cat (by assumption)) ?_
  refine own_iconst (v := (1 : Int32)) (pc' := 1) rfl d_ltb_0 rfl ?_
  refine own_newarray (pc' := 3) rfl d_ltb_1 (tw_33 hw) (N := 1) (cap := 1) (by decide) (by decide) rfl rfl rfl ?_
  intro b h1 eb E1 B1
  refine own_dup (pc' := 4) rfl d_ltb_3 (by first | rfl | assumption) ?_
  refine own_iconst (v := (0 : Int32)) (pc' := 5) rfl d_ltb_4 rfl ?_
  refine own_iload_n (pc' := 6) rfl d_ltb_5 rfl ?_
  refine own_i2b (pc' := 7) rfl d_ltb_6 ?_
  refine own_bastore (pc' := 8) rfl d_ltb_7 B1 (i := 0) (by decide) (by simp) (own_bt_nar c) (by simp) ?_
  intro h2 k2 B2
  refine own_areturn rfl rfl (by first | rfl | assumption) d_ltb_8 rfl rfl ?_
  exact ⟨b, rfl, own_ext_keep E1 k2 (by intro x hx; cases List.mem_singleton.mp hx; omega), by omega, B2⟩
theorem d_sib_0 : decode jdk_42_method_151_code 0 = .ok (.aload_n 0, 1) := by decide +kernel
theorem d_sib_1 : decode jdk_42_method_151_code 1 = .ok (.invokespecial 1, 3) := by decide +kernel
theorem d_sib_4 : decode jdk_42_method_151_code 4 = .ok (.aload_n 0, 1) := by decide +kernel
theorem d_sib_5 : decode jdk_42_method_151_code 5 = .ok (.aload_n 1, 1) := by decide +kernel
theorem d_sib_6 : decode jdk_42_method_151_code 6 = .ok (.putfield 9, 3) := by decide +kernel
theorem d_sib_9 : decode jdk_42_method_151_code 9 = .ok (.aload_n 0, 1) := by decide +kernel
theorem d_sib_10 : decode jdk_42_method_151_code 10 = .ok (.iload_n 2, 1) := by decide +kernel
theorem d_sib_11 : decode jdk_42_method_151_code 11 = .ok (.putfield 15, 3) := by decide +kernel
theorem d_sib_14 : decode jdk_42_method_151_code 14 = .ok (.return_, 1) := by decide +kernel
abbrev M_sib : own_Mi := ((⟨"java/lang/String", "<init>", "([BB)V"⟩ : MethodName), jdk_42_method_151_code, 3, (Option.none : Option FieldType), ({ frames := 1, cells := 0, slots := 0, locals := 12 } : Room))
theorem pn_sib : plainFor (own_Mi.y M_sib) = true := plainFor_of_name (by first | (simp [plainName, overriddenIn]; done) | decide +kernel)
set_option maxRecDepth 65536 in
set_option maxHeartbeats 40000000 in
theorem c_sib (K : own_Cx) (a0 : Array Value) (hw : ∀ d ∈ tables_1, d.before a0 K.Z = true) (x b : Addr) (cs : List Int32) (h : Heap) (hcs : own_Chs cs) (hl : cs.length < 2 ^ 30) (E : Exa K.Z h x own_sC) (FV : Fld K.Z h x own_sC "value" "[B" .null) (FC : Fld K.Z h x own_sC "coder" "B" (.int 0)) (B : own_Ary K.Z h b .byte (own_ints (own_enc cs))) (hxb : b ≠ x) :
    own_Met K M_sib #[.ref x, .ref b, .int (own_cod cs)] [x] h (own_void fun h' _ => Keep h h' [x] ∧ own_Str K.Z h' x cs) := by
  have sne : RoadKit.slotOf K.Z own_sC "value" "[B" ≠ RoadKit.slotOf K.Z own_sC "coder" "B" := slot_ne (Or.inr (tw_34 hw)) (Or.inr (tw_35 hw)) (by decide) (t := .array .byte) (t' := .byte) (by decide) (by decide)
  refine own_met_3_0 (M := M_sib) pn_sib rfl (by first | rfl | exact own_cat (by assumption)) (by first | rfl | exact own_cat (by assumption)) (by first | rfl | exact own_cat (by assumption)) ?_
  refine own_aload_n (pc' := 1) rfl d_sib_0 rfl (by first | rfl | assumption) ?_
  refine own_initO (pc' := 4) rfl d_sib_1 (tw_29 hw) (tw_30 hw) (tw_31 hw) rfl rfl rfl ?_
  refine own_aload_n (pc' := 5) rfl d_sib_4 rfl (by first | rfl | assumption) ?_
  refine own_aload_n (pc' := 6) rfl d_sib_5 rfl (by first | rfl | assumption) ?_
  refine own_putF (pc' := 9) rfl d_sib_6 (tw_38 hw) Via.refl (Or.inr ⟨(tw_34 hw), rfl, rfl⟩) (tw_19 hw) (ty := (.array .byte)) (by decide) rfl rfl FV (by assumption) (by simp) ?_
  intro h1 W1
  have FV1 := FV.same W1
  have FC1 := FC.other W1 (Or.inr (Ne.symm sne))
  have E1 := E.wr W1
  have B1 := B.other W1 hxb
  refine own_aload_n (pc' := 10) rfl d_sib_9 rfl (by first | rfl | assumption) ?_
  refine own_iload_n (pc' := 11) rfl d_sib_10 rfl ?_
  refine own_putF (pc' := 14) rfl d_sib_11 (tw_39 hw) Via.refl (Or.inr ⟨(tw_35 hw), rfl, rfl⟩) (tw_19 hw) (ty := .byte) (by decide) (own_cod_byte cs).1 (own_cod_byte cs).2 FC1 E1 (by simp) ?_
  intro h2 W2
  refine own_return rfl d_sib_14 rfl rfl ?_
  exact ⟨(Keep.of_wr W1).wr W2 (Or.inl (List.mem_singleton.mpr rfl)), E1.wr W2, hcs, hl, b, FV1.other W2 (Or.inr sne), FC1.same W2, B1.other W2 hxb⟩
theorem d_utc_0 : decode jdk_52_method_24_code 0 = .ok (.iconst 2, 1) := by decide +kernel
theorem d_utc_1 : decode jdk_52_method_24_code 1 = .ok (.newarray .byte, 2) := by decide +kernel
theorem d_utc_3 : decode jdk_52_method_24_code 3 = .ok (.astore_n 1, 1) := by decide +kernel
theorem d_utc_4 : decode jdk_52_method_24_code 4 = .ok (.aload_n 1, 1) := by decide +kernel
theorem d_utc_5 : decode jdk_52_method_24_code 5 = .ok (.iconst 0, 1) := by decide +kernel
theorem d_utc_6 : decode jdk_52_method_24_code 6 = .ok (.iload_n 0, 1) := by decide +kernel
theorem d_utc_7 : decode jdk_52_method_24_code 7 = .ok (.invokestatic 111, 3) := by decide +kernel
theorem d_utc_10 : decode jdk_52_method_24_code 10 = .ok (.aload_n 1, 1) := by decide +kernel
theorem d_utc_11 : decode jdk_52_method_24_code 11 = .ok (.areturn, 1) := by decide +kernel
abbrev M_utc : own_Mi := ((⟨"java/lang/StringUTF16", "toBytes", "(C)[B"⟩ : MethodName), jdk_52_method_24_code, 2, (Option.some (FieldType.array FieldType.byte)), ({ frames := 1, cells := 1, slots := 2, locals := 14 } : Room))
theorem pn_utc : plainFor (own_Mi.y M_utc) = true := plainFor_of_name (by first | (simp [plainName, overriddenIn]; done) | decide +kernel)
set_option maxRecDepth 65536 in
set_option maxHeartbeats 40000000 in
theorem c_utc (K : own_Cx) (a0 : Array Value) (hw : ∀ d ∈ tables_1, d.before a0 K.Z = true) (hU : own_U16 K) (c : Int32) (h : Heap) :
    own_Met K M_utc #[.int c] [] h (own_ret fun w h' _ => ∃ b : Addr, w = .ref b ∧ Ext h h' ∧ h.size ≤ b ∧ own_Ary K.Z h' b .byte (own_ints (own_two [c]))) := by
  refine own_met_1_1 (M := M_utc) pn_utc rfl (by first | rfl | exact own_cat (by assumption)) ?_
  refine own_iconst (v := (2 : Int32)) (pc' := 1) rfl d_utc_0 rfl ?_
  refine own_newarray (pc' := 3) rfl d_utc_1 (tw_33 hw) (N := 2) (cap := 2) (by decide) (by decide) rfl rfl rfl ?_
  intro b h1 eb E1 B1
  refine own_astore_n1 (pc' := 4) rfl d_utc_3 (by first | exact One.u | exact One.val rfl | assumption | exact One.val (by assumption)) (by first | rfl | assumption) ?_
  refine own_aload_n (pc' := 5) rfl d_utc_4 rfl (by first | rfl | assumption) ?_
  refine own_iconst (v := (0 : Int32)) (pc' := 6) rfl d_utc_5 rfl ?_
  refine own_iload_n (pc' := 7) rfl d_utc_6 rfl ?_
  refine own_static3n (M' := M_pch) d_utc_7 (pc' := 10) rfl (tw_226 hw) (tw_227 hw) (tw_211 hw) (tw_228 hw) (by decide) rfl (own_lenOf pd_2 rfl) rfl rfl rfl rfl (c_pch K a0 hw hU b 0 c 0 _ h1 rfl (by simp) (by decide) B1) (by simp) ?_
  rintro h2 xs2 ⟨k2, B2⟩
  refine own_aload_n (pc' := 11) rfl d_utc_10 rfl (by first | rfl | assumption) ?_
  refine own_areturn rfl rfl (by first | rfl | assumption) d_utc_11 rfl rfl ?_
  exact ⟨b, rfl, own_ext_keep E1 k2 (by intro z hz; cases List.mem_singleton.mp hz; omega), by omega, B2⟩
theorem d_svc_0 : decode jdk_42_method_139_code 0 = .ok (.getstatic 38, 3) := by decide +kernel
theorem d_svc_3 : decode jdk_42_method_139_code 3 = .ok (.ifCond .eq 23, 3) := by decide +kernel
theorem d_svc_6 : decode jdk_42_method_139_code 6 = .ok (.iload_n 0, 1) := by decide +kernel
theorem d_svc_7 : decode jdk_42_method_139_code 7 = .ok (.invokestatic 1015, 3) := by decide +kernel
theorem d_svc_10 : decode jdk_42_method_139_code 10 = .ok (.ifCond .eq 16, 3) := by decide +kernel
theorem d_svc_13 : decode jdk_42_method_139_code 13 = .ok (.new 10, 3) := by decide +kernel
theorem d_svc_16 : decode jdk_42_method_139_code 16 = .ok (.dup, 1) := by decide +kernel
theorem d_svc_17 : decode jdk_42_method_139_code 17 = .ok (.iload_n 0, 1) := by decide +kernel
theorem d_svc_18 : decode jdk_42_method_139_code 18 = .ok (.invokestatic 1018, 3) := by decide +kernel
theorem d_svc_21 : decode jdk_42_method_139_code 21 = .ok (.iconst 0, 1) := by decide +kernel
theorem d_svc_22 : decode jdk_42_method_139_code 22 = .ok (.invokespecial 209, 3) := by decide +kernel
theorem d_svc_25 : decode jdk_42_method_139_code 25 = .ok (.areturn, 1) := by decide +kernel
theorem d_svc_26 : decode jdk_42_method_139_code 26 = .ok (.new 10, 3) := by decide +kernel
theorem d_svc_29 : decode jdk_42_method_139_code 29 = .ok (.dup, 1) := by decide +kernel
theorem d_svc_30 : decode jdk_42_method_139_code 30 = .ok (.iload_n 0, 1) := by decide +kernel
theorem d_svc_31 : decode jdk_42_method_139_code 31 = .ok (.invokestatic 1021, 3) := by decide +kernel
theorem d_svc_34 : decode jdk_42_method_139_code 34 = .ok (.iconst 1, 1) := by decide +kernel
theorem d_svc_35 : decode jdk_42_method_139_code 35 = .ok (.invokespecial 209, 3) := by decide +kernel
theorem d_svc_38 : decode jdk_42_method_139_code 38 = .ok (.areturn, 1) := by decide +kernel
abbrev M_svc : own_Mi := ((⟨"java/lang/String", "valueOf", "(C)Ljava/lang/String;"⟩ : MethodName), jdk_42_method_139_code, 1, (Option.some (FieldType.object "java/lang/String")), ({ frames := 2, cells := 2, slots := 6, locals := 29 } : Room))
theorem pn_svc : plainFor (own_Mi.y M_svc) = true := plainFor_of_name (by first | (simp [plainName, overriddenIn]; done) | decide +kernel)
set_option maxRecDepth 65536 in
set_option maxHeartbeats 40000000 in
theorem c_svu (K : own_Cx) (a0 : Array Value) (hw : ∀ d ∈ tables_1, d.before a0 K.Z = true) (hU : own_U16 K) (g : Int32) (SC : Sta K.Z K.Z.heap own_sC "COMPACT_STRINGS" "Z" (.int g)) (hg : ¬ g = 0) (c : Int32) (h : Heap) (h0 : 0 ≤ c.toInt) (h1 : c.toInt < 65536) :
    own_Met K M_svc #[.int c] [] h (own_ret fun w h' _ => ∃ x : Addr, w = .ref x ∧ Ext h h' ∧ h.size ≤ x ∧ own_Str K.Z h' x [c]) := by
  have hcs : own_Chs [c] := fun d hd => by cases List.mem_singleton.mp hd; exact ⟨h0, h1⟩
  refine own_met_1_0 (M := M_svc) pn_svc rfl (by first | rfl | exact own_cat (by assumption)) ?_
  refine own_getS (pc' := 3) rfl d_svc_0 (tw_81 hw) Via.refl (by assumption) ?_
  refine own_ifeq (pcT := 26) (pcF := 6) d_svc_3 (by decide) (by decide) rfl (fun q => ?_) (fun q => ?_)
  · exact absurd q hg
  · skip
    refine own_iload_n (pc' := 7) rfl d_svc_6 rfl ?_
    refine own_static1v (M' := M_cen) d_svc_7 (pc' := 10) rfl (tw_158 hw) (tw_159 hw) (tw_151 hw) (tw_160 hw) (by decide) rfl (own_lenOf pd_15 rfl) rfl rfl rfl rfl (c_cen K a0 hw c h) (by simp) ?_
    rintro w h2 xs ⟨rfl, rfl⟩
    by_cases hl : c.toInt < 256
    · have ql : own_lat [c] = true := by simp [own_lat, hl]
      rw [if_pos hl]
      refine own_ifeq (pcT := 26) (pcF := 13) d_svc_10 (by decide) (by decide) rfl (fun q2 => ?_) (fun q2 => ?_)
      · exact absurd q2 (by decide)
      · skip
        refine own_new (pc' := 16) rfl d_svc_13 (tw_148 hw) (tw_19 hw) (tw_20 hw) rfl rfl ?_
        intro x h3 ex E3 X3 D3
        have hx3 : @LT.lt Nat _ _ _ := X3.lt
        refine own_dup (pc' := 17) rfl d_svc_16 (by first | rfl | assumption) ?_
        refine own_iload_n (pc' := 18) rfl d_svc_17 rfl ?_
        refine own_static1v (M' := M_ltb) d_svc_18 (pc' := 21) rfl (tw_161 hw) (tw_162 hw) (tw_151 hw) (tw_163 hw) (by decide) rfl (own_lenOf pd_16 rfl) rfl rfl rfl rfl (c_ltb K a0 hw c h3) (by simp) ?_
        rintro w h4 xs4 ⟨b, rfl, E4, hb4, B4⟩
        refine own_iconst (v := (0 : Int32)) (pc' := 22) rfl d_svc_21 rfl ?_
        refine own_special2n (M' := M_sib) d_svc_22 (pc' := 25) rfl rfl rfl (tw_164 hw) (tw_165 hw) (tw_20 hw) (tw_166 hw) (by decide) rfl (own_lenOf pd_17 rfl) rfl rfl rfl rfl (show own_Met K M_sib #[.ref x, .ref b, .int 0] [x] h4 _ from by have q := c_sib K a0 hw x b [c] h4 hcs (by simp) (X3.ext E4) ((D3 (Or.inr (tw_34 hw)) (ty := .array .byte) (by decide)).ext E4) ((D3 (Or.inr (tw_35 hw)) (ty := .byte) (by decide)).ext E4) (by rw [(own_enc_lat ql).1]; exact B4) (own_ne (by omega)); rw [(own_enc_lat ql).2] at q; exact q) (by simp) ?_
        rintro h5 xs5 ⟨k5, S5⟩
        refine own_areturn rfl rfl (by first | rfl | assumption) d_svc_25 rfl rfl ?_
        exact ⟨x, rfl, own_ext_keep (own_ext_trans E3 E4) k5 (by intro z hz; cases List.mem_singleton.mp hz; omega), by omega, S5⟩
    · have ql : own_lat [c] = false := by simp [own_lat]; omega
      rw [if_neg hl]
      refine own_ifeq (pcT := 26) (pcF := 13) d_svc_10 (by decide) (by decide) rfl (fun q2 => ?_) (fun q2 => ?_)
      rotate_left 1
      · exact absurd rfl q2
      refine own_new (pc' := 29) rfl d_svc_26 (tw_148 hw) (tw_19 hw) (tw_20 hw) rfl rfl ?_
      intro x h3 ex E3 X3 D3
      have hx3 : @LT.lt Nat _ _ _ := X3.lt
      refine own_dup (pc' := 30) rfl d_svc_29 (by first | rfl | assumption) ?_
      refine own_iload_n (pc' := 31) rfl d_svc_30 rfl ?_
      refine own_static1v (M' := M_utc) d_svc_31 (pc' := 34) rfl (tw_278 hw) (tw_279 hw) (tw_211 hw) (tw_280 hw) (by decide) rfl (own_lenOf pd_16 rfl) rfl rfl rfl rfl (c_utc K a0 hw hU c h3) (by simp) ?_
      rintro w h4 xs4 ⟨b, rfl, E4, hb4, B4⟩
      refine own_iconst (v := (1 : Int32)) (pc' := 35) rfl d_svc_34 rfl ?_
      refine own_special2n (M' := M_sib) d_svc_35 (pc' := 38) rfl rfl rfl (tw_164 hw) (tw_165 hw) (tw_20 hw) (tw_166 hw) (by decide) rfl (own_lenOf pd_17 rfl) rfl rfl rfl rfl (show own_Met K M_sib #[.ref x, .ref b, .int 1] [x] h4 _ from by have q := c_sib K a0 hw x b [c] h4 hcs (by simp) (X3.ext E4) ((D3 (Or.inr (tw_34 hw)) (ty := .array .byte) (by decide)).ext E4) ((D3 (Or.inr (tw_35 hw)) (ty := .byte) (by decide)).ext E4) (by rw [(own_enc_utf ql).1]; exact B4) (own_ne (by omega)); rw [(own_enc_utf ql).2] at q; exact q) (by simp) ?_
      rintro h5 xs5 ⟨k5, S5⟩
      refine own_areturn rfl rfl (by first | rfl | assumption) d_svc_38 rfl rfl ?_
      exact ⟨x, rfl, own_ext_keep (own_ext_trans E3 E4) k5 (by intro z hz; cases List.mem_singleton.mp hz; omega), by omega, S5⟩
/-! calls of private methods, of superclass methods, of a method that a subclass overrides -/
theorem own_decl {Z : State} {a0 : Array Value} {y : MethodName} {b : ByteArray} {mx : Nat} {ret : Option FieldType} (w : (Jvm.Cond.instanceMethod y).before a0 Z = true) (wc : (Jvm.Cond.code y b mx ret).before a0 Z = true) : (Jvm.Cond.declares y).before a0 Z = true := by
  obtain ⟨mk, methM, hnamed, hmethM, hstM, habM⟩ := Cond.instanceMethod_spec w
  obtain ⟨m2, cM, q1, -, -, -, -, -, -, hsig⟩ := Cond.code_spec hnamed wc
  cases hmethM.symm.trans q1
  simp [Cond.before, Cond.holds, Cond.value, hnamed, hmethM, hstM, hsig]
theorem own_nf {s : State} {a0 : Array Value} {C : String} {y y' : MethodName} (w : (Jvm.Cond.selects C y' y').before a0 s = true) (hy : y'.cls = y.cls) : NotFace s y := fun r0 h0 => by
  obtain ⟨c2, r2, m2, q1, q2, q3, q4, kP, hkP, hkPi⟩ := Cond.selects_spec w
  have e1 := findClass_of_methodNamed h0
  have e2 := findClass_of_methodNamed q3
  rw [hy, e1] at e2
  have e3 := Option.some.inj e2
  exact ⟨kP, by rw [e3]; exact hkP, hkPi⟩
theorem own_same {s : State} {a0 : Array Value} {C : String} {y y' : MethodName} (wi : (Jvm.Cond.instanceMethod y).before a0 s = true) (w : (Jvm.Cond.selects C y' y').before a0 s = true) (hy : y'.cls = y.cls) (hx : y.cls ≠ "java/lang/invoke/MethodHandle" ∧ y.cls ≠ "java/lang/invoke/VarHandle") : (Jvm.Cond.sameMethod y.cls y.cls y.name y.desc).before a0 s = true := by
  obtain ⟨mk, methM, hnamed, hmethM, hstM, habM⟩ := Cond.instanceMethod_spec wi
  obtain ⟨kr, h1, h2⟩ := own_nf w hy mk hnamed
  have e1 := findClass_of_methodNamed hnamed
  have e2 := State.methodFound?_of_named hnamed hx
  have e3 : s.methodNamed? ⟨y.cls, y.name, y.desc⟩ = some mk := hnamed
  simp [Cond.before, Cond.holds, Cond.value, e1, e2, e3, h1, h2]
section Calls2
variable {K : own_Cx} {M M' : own_Mi} {Q Q' : own_Q} {pc pc' : Nat} {Ls : List Slot} {St rest : List Value} {sf sf' : List Addr} {h : Heap} {cs sl : Nat} {a0 : Array Value}
theorem own_vz {index : Nat} {a : Addr} {C C' : String} {y y' : MethodName} {argsL : List Value} (hd : decode M.b pc = .ok (.invokevirtual index, 3)) (hp : pc + 3 = pc') (w1 : (Jvm.Cond.methodLink M.y.cls index y).before a0 K.Z = true) (w2 : (Jvm.Cond.declares y).before a0 K.Z = true) (wn : (Jvm.Cond.selects C' y' y').before a0 K.Z = true) (hyy : y'.cls = y.cls) (w5 : (Jvm.Cond.selects C y M'.y).before a0 K.Z = true) (w6 : (Jvm.Cond.instanceMethod M'.y).before a0 K.Z = true) (w3 : (Jvm.Cond.initialized M'.y.cls).before a0 K.Z = true) (w4 : (Jvm.Cond.code M'.y M'.b M'.mx M'.ret).before a0 K.Z = true)
    (hy : y.cls ≠ "java/lang/invoke/MethodHandle" ∧ y.cls ≠ "java/lang/invoke/VarHandle") (hsz : Ls.length = M.mx) (hlen : ∀ sig, parseMethodDescriptor y.desc = some sig → argsL.length = sig.parameters.length) (hst : St = argsL.reverse ++ .ref a :: rest)
    (hf : Nat.ble (M'.R.frames + 1) M.R.frames = true) (hl : Nat.ble ((rest.map fun v => v.category).sum + (M'.mx + 11) + M'.R.locals) M.R.locals = true) (hc : Nat.ble (cs + M'.R.cells) M.R.cells = true) (hs : Nat.ble (sl + M'.R.slots) M.R.slots = true)
    (E : Exa K.Z h a C) (hM : own_Met K M' (.ref a :: argsL).toArray sf' h Q') (hsf : ∀ x ∈ sf', x ∈ sf) (k : ∀ v h' xs, Q' v h' xs → own_WP K M Q pc' Ls (v.toList ++ rest) (xs ++ sf) h' (cs + M'.R.cells) (sl + M'.R.slots)) : own_WP K M Q pc Ls St sf h cs sl := by
  subst hst hp
  intro p e s vm0 k0 m args below meth c T locs cs' sl' B X hc' hs' eT N I
  have q1 := Nat.le_of_ble_eq_true hf
  have q2 := Nat.le_of_ble_eq_true hl
  have q3 := Nat.le_of_ble_eq_true hc
  have q4 := Nat.le_of_ble_eq_true hs
  obtain ⟨cB, kB, r1, r2, r3⟩ := isOf (T := T) B.2.2.2.2.2.2.2.1 eT E
  obtain ⟨v, vm₁, B', -, X', hS, hg, P, st⟩ := X.virtualBackS B.1 (y := y) (z := M'.y) B.2.2.2.1 (mv B.2.2.2.2.2.2.2.1 w1) (mv B.2.2.2.2.2.2.2.1 w2) (own_nf (a0 := #[]) (mv B.2.2.2.2.2.2.2.1 wn) hyy) (mv B.2.2.2.2.2.2.2.1 w5) (mv B.2.2.2.2.2.2.2.1 w6) hy
    (own_back (W := (rest.map fun v => v.category).sum) hM hsf B.2.2.2.2.2.2.2.1 B.2.2.2.2.2.2.2.2 I w4 w3 q1 q2) r1 r3 (g := mkF m pc Ls.toArray (argsL.reverse ++ .ref a :: rest)) rfl (by rw [B.2.2.1, ← hsz]; simp) (Steps.refl _) (argsL := argsL) (rest := rest) hlen rfl (by show 2 * 0 + _ ≤ _; omega) (hb B.2.1 hd)
    (fun vm₁ _ => ⟨rfl, eT, by show cs' + _ ≤ _; omega, by show sl' + _ ≤ _; omega⟩)
  exact own_called k B hc' hs' eT N I X' hS hg P st
theorem own_up {index : Nat} {a : Addr} {C C' : String} {y' : MethodName} {argsL : List Value} (hd : decode M.b pc = .ok (.invokespecial index, 3)) (hp : pc + 3 = pc') (hn : M'.y.name ≠ "<init>") (w1 : (Jvm.Cond.methodLink M.y.cls index M'.y).before a0 K.Z = true) (w2 : (Jvm.Cond.superclass M.y.cls M'.y.cls).before a0 K.Z = true) (wn : (Jvm.Cond.selects C' y' y').before a0 K.Z = true) (hyy : y'.cls = M'.y.cls) (w6 : (Jvm.Cond.instanceMethod M'.y).before a0 K.Z = true) (w3 : (Jvm.Cond.initialized M'.y.cls).before a0 K.Z = true) (w4 : (Jvm.Cond.code M'.y M'.b M'.mx M'.ret).before a0 K.Z = true)
    (hy : M'.y.cls ≠ "java/lang/invoke/MethodHandle" ∧ M'.y.cls ≠ "java/lang/invoke/VarHandle") (hsz : Ls.length = M.mx) (hlen : ∀ sig, parseMethodDescriptor M'.y.desc = some sig → argsL.length = sig.parameters.length) (hst : St = argsL.reverse ++ .ref a :: rest)
    (hf : Nat.ble (M'.R.frames + 1) M.R.frames = true) (hl : Nat.ble ((rest.map fun v => v.category).sum + (M'.mx + 11) + M'.R.locals) M.R.locals = true) (hc : Nat.ble (cs + M'.R.cells) M.R.cells = true) (hs : Nat.ble (sl + M'.R.slots) M.R.slots = true)
    (E : Ins K.Z h a C true) (hM : own_Met K M' (.ref a :: argsL).toArray sf' h Q') (hsf : ∀ x ∈ sf', x ∈ sf) (k : ∀ v h' xs, Q' v h' xs → own_WP K M Q pc' Ls (v.toList ++ rest) (xs ++ sf) h' (cs + M'.R.cells) (sl + M'.R.slots)) : own_WP K M Q pc Ls St sf h cs sl := by
  subst hst hp
  intro p e s vm0 k0 m args below meth c T locs cs' sl' B X hc' hs' eT N I
  have q1 := Nat.le_of_ble_eq_true hf
  have q2 := Nat.le_of_ble_eq_true hl
  have q3 := Nat.le_of_ble_eq_true hc
  have q4 := Nat.le_of_ble_eq_true hs
  obtain ⟨v, vm₁, B', -, X', hS, hg, P, st⟩ := superBackS X B.1 B.2.2.2.2.2.2.2.1 (y := M'.y) B.2.2.2.1 w1 (own_same w6 wn hyy hy) w6 w2 hn
    (own_back (W := (rest.map fun v => v.category).sum) hM hsf B.2.2.2.2.2.2.2.1 B.2.2.2.2.2.2.2.2 I w4 w3 q1 q2) eT E (g := mkF m pc Ls.toArray (argsL.reverse ++ .ref a :: rest)) rfl (by rw [B.2.2.1, ← hsz]; simp) w4 (argsL := argsL) (rest := rest) hlen rfl (by show 2 * 0 + _ ≤ _; omega) (hb B.2.1 hd)
    (fun vm₁ _ => ⟨rfl, eT, by show cs' + _ ≤ _; omega, by show sl' + _ ≤ _; omega⟩)
  exact own_called k B hc' hs' eT N I X' hS hg P st
end Calls2
theorem own_vz0v {K : own_Cx} {M M' : own_Mi} {Q : own_Q} {pc pc' : Nat} {Ls : List Slot} {rest : List Value} {sf sf' : List Addr} {h : Heap} {cs sl : Nat} {a0 : Array Value} {index : Nat} {a : Addr} {C C' : String} {y y' : MethodName} {q' : Value → Heap → List Addr → Prop} (hd : decode M.b pc = .ok (.invokevirtual index, 3)) (hp : pc + 3 = pc') (w1 : (Jvm.Cond.methodLink M.y.cls index y).before a0 K.Z = true) (w2 : (Jvm.Cond.declares y).before a0 K.Z = true) (wn : (Jvm.Cond.selects C' y' y').before a0 K.Z = true) (hyy : y'.cls = y.cls) (w5 : (Jvm.Cond.selects C y M'.y).before a0 K.Z = true) (w6 : (Jvm.Cond.instanceMethod M'.y).before a0 K.Z = true) (w3 : (Jvm.Cond.initialized M'.y.cls).before a0 K.Z = true) (w4 : (Jvm.Cond.code M'.y M'.b M'.mx M'.ret).before a0 K.Z = true) (hy : y.cls ≠ "java/lang/invoke/MethodHandle" ∧ y.cls ≠ "java/lang/invoke/VarHandle") (hsz : Ls.length = M.mx) (hlen : ∀ sig, parseMethodDescriptor y.desc = some sig → 0 = sig.parameters.length)
    (hf : Nat.ble (M'.R.frames + 1) M.R.frames = true) (hl : Nat.ble ((rest.map fun v => v.category).sum + (M'.mx + 11) + M'.R.locals) M.R.locals = true) (hc : Nat.ble (cs + M'.R.cells) M.R.cells = true) (hs : Nat.ble (sl + M'.R.slots) M.R.slots = true) (E : Exa K.Z h a C) (hM : own_Met K M' #[.ref a] sf' h (own_ret q')) (hsf : ∀ x ∈ sf', x ∈ sf) (k : ∀ w h' xs, q' w h' xs → own_WP K M Q pc' Ls (w :: rest) (xs ++ sf) h' (cs + M'.R.cells) (sl + M'.R.slots)) :
    own_WP K M Q pc Ls (.ref a :: rest) sf h cs sl := own_vz (argsL := []) hd hp w1 w2 wn hyy w5 w6 w3 w4 hy hsz hlen rfl hf hl hc hs E hM hsf (fun v h' xs ⟨w, e, q⟩ => by subst e; exact k w h' xs q)
theorem own_up0v {K : own_Cx} {M M' : own_Mi} {Q : own_Q} {pc pc' : Nat} {Ls : List Slot} {rest : List Value} {sf sf' : List Addr} {h : Heap} {cs sl : Nat} {a0 : Array Value} {index : Nat} {a : Addr} {C C' : String} {y' : MethodName} {q' : Value → Heap → List Addr → Prop} (hd : decode M.b pc = .ok (.invokespecial index, 3)) (hp : pc + 3 = pc') (hn : M'.y.name ≠ "<init>") (w1 : (Jvm.Cond.methodLink M.y.cls index M'.y).before a0 K.Z = true) (w2 : (Jvm.Cond.superclass M.y.cls M'.y.cls).before a0 K.Z = true) (wn : (Jvm.Cond.selects C' y' y').before a0 K.Z = true) (hyy : y'.cls = M'.y.cls) (w6 : (Jvm.Cond.instanceMethod M'.y).before a0 K.Z = true) (w3 : (Jvm.Cond.initialized M'.y.cls).before a0 K.Z = true) (w4 : (Jvm.Cond.code M'.y M'.b M'.mx M'.ret).before a0 K.Z = true) (hy : M'.y.cls ≠ "java/lang/invoke/MethodHandle" ∧ M'.y.cls ≠ "java/lang/invoke/VarHandle") (hsz : Ls.length = M.mx) (hlen : ∀ sig, parseMethodDescriptor M'.y.desc = some sig → 0 = sig.parameters.length)
    (hf : Nat.ble (M'.R.frames + 1) M.R.frames = true) (hl : Nat.ble ((rest.map fun v => v.category).sum + (M'.mx + 11) + M'.R.locals) M.R.locals = true) (hc : Nat.ble (cs + M'.R.cells) M.R.cells = true) (hs : Nat.ble (sl + M'.R.slots) M.R.slots = true) (E : Ins K.Z h a C true) (hM : own_Met K M' #[.ref a] sf' h (own_ret q')) (hsf : ∀ x ∈ sf', x ∈ sf) (k : ∀ w h' xs, q' w h' xs → own_WP K M Q pc' Ls (w :: rest) (xs ++ sf) h' (cs + M'.R.cells) (sl + M'.R.slots)) :
    own_WP K M Q pc Ls (.ref a :: rest) sf h cs sl := own_up (argsL := []) hd hp hn w1 w2 wn hyy w6 w3 w4 hy hsz hlen rfl hf hl hc hs E hM hsf (fun v h' xs ⟨w, e, q⟩ => by subst e; exact k w h' xs q)
theorem own_up1v {K : own_Cx} {M M' : own_Mi} {Q : own_Q} {pc pc' : Nat} {Ls : List Slot} {rest : List Value} {sf sf' : List Addr} {h : Heap} {cs sl : Nat} {a0 : Array Value} {index : Nat} {a : Addr} {C C' : String} {y' : MethodName} {v0 : Value} {q' : Value → Heap → List Addr → Prop} (hd : decode M.b pc = .ok (.invokespecial index, 3)) (hp : pc + 3 = pc') (hn : M'.y.name ≠ "<init>") (w1 : (Jvm.Cond.methodLink M.y.cls index M'.y).before a0 K.Z = true) (w2 : (Jvm.Cond.superclass M.y.cls M'.y.cls).before a0 K.Z = true) (wn : (Jvm.Cond.selects C' y' y').before a0 K.Z = true) (hyy : y'.cls = M'.y.cls) (w6 : (Jvm.Cond.instanceMethod M'.y).before a0 K.Z = true) (w3 : (Jvm.Cond.initialized M'.y.cls).before a0 K.Z = true) (w4 : (Jvm.Cond.code M'.y M'.b M'.mx M'.ret).before a0 K.Z = true) (hy : M'.y.cls ≠ "java/lang/invoke/MethodHandle" ∧ M'.y.cls ≠ "java/lang/invoke/VarHandle") (hsz : Ls.length = M.mx) (hlen : ∀ sig, parseMethodDescriptor M'.y.desc = some sig → 1 = sig.parameters.length)
    (hf : Nat.ble (M'.R.frames + 1) M.R.frames = true) (hl : Nat.ble ((rest.map fun v => v.category).sum + (M'.mx + 11) + M'.R.locals) M.R.locals = true) (hc : Nat.ble (cs + M'.R.cells) M.R.cells = true) (hs : Nat.ble (sl + M'.R.slots) M.R.slots = true) (E : Ins K.Z h a C true) (hM : own_Met K M' #[.ref a, v0] sf' h (own_ret q')) (hsf : ∀ x ∈ sf', x ∈ sf) (k : ∀ w h' xs, q' w h' xs → own_WP K M Q pc' Ls (w :: rest) (xs ++ sf) h' (cs + M'.R.cells) (sl + M'.R.slots)) :
    own_WP K M Q pc Ls (v0 :: .ref a :: rest) sf h cs sl := own_up (argsL := [v0]) hd hp hn w1 w2 wn hyy w6 w3 w4 hy hsz hlen rfl hf hl hc hs E hM hsf (fun v h' xs ⟨w, e, q⟩ => by subst e; exact k w h' xs q)
theorem d_mmn_0 : decode jdk_29_method_69_code 0 = .ok (.iload_n 0, 1) := by decide +kernel
theorem d_mmn_1 : decode jdk_29_method_69_code 1 = .ok (.iload_n 1, 1) := by decide +kernel
theorem d_mmn_2 : decode jdk_29_method_69_code 2 = .ok (.if_icmp .gt 7, 3) := by decide +kernel
theorem d_mmn_5 : decode jdk_29_method_69_code 5 = .ok (.iload_n 0, 1) := by decide +kernel
theorem d_mmn_6 : decode jdk_29_method_69_code 6 = .ok (.goto 4, 3) := by decide +kernel
theorem d_mmn_9 : decode jdk_29_method_69_code 9 = .ok (.iload_n 1, 1) := by decide +kernel
theorem d_mmn_10 : decode jdk_29_method_69_code 10 = .ok (.ireturn, 1) := by decide +kernel
abbrev M_mmn : own_Mi := ((⟨"java/lang/Math", "min", "(II)I"⟩ : MethodName), jdk_29_method_69_code, 2, (Option.some FieldType.int), ({ frames := 0, cells := 0, slots := 0, locals := 0 } : Room))
theorem pn_mmn : plainFor (own_Mi.y M_mmn) = true := Jvm.Free.JP.mathPlain rfl (by decide +kernel)
set_option maxRecDepth 65536 in
set_option maxHeartbeats 40000000 in
theorem c_mmn (K : own_Cx) (a0 : Array Value) (hw : ∀ d ∈ tables_1, d.before a0 K.Z = true) (x y : Int32) (h : Heap) :
    own_Met K M_mmn #[.int x, .int y] [] h (own_ret fun w h' _ => ∃ r : Int32, w = .int r ∧ ((y.toInt < x.toInt ∧ r = y) ∨ (x.toInt ≤ y.toInt ∧ r = x)) ∧ h' = h) := by
  refine own_met_2_0 (M := M_mmn) pn_mmn rfl (by first | rfl | exact own_cat (by assumption)) (by first | rfl | exact own_cat (by assumption)) ?_
  refine own_iload_n (pc' := 1) rfl d_mmn_0 rfl ?_
  refine own_iload_n (pc' := 2) rfl d_mmn_1 rfl ?_
  refine own_icmpgt (pcT := 9) (pcF := 5) d_mmn_2 (by decide) (by decide) rfl (fun q => ?_) (fun q => ?_)
  · rw [Int32.lt_iff_toInt_lt] at q
    refine own_iload_n (pc' := 10) rfl d_mmn_9 rfl ?_
    refine own_ireturn rfl d_mmn_10 rfl rfl ?_
    exact ⟨y, rfl, Or.inl ⟨q, rfl⟩, rfl⟩
  · rw [Int32.lt_iff_toInt_lt] at q
    refine own_iload_n (pc' := 6) rfl d_mmn_5 rfl ?_
    refine own_goto (pc' := 10) d_mmn_6 (by decide) (by decide) ?_
    refine own_ireturn rfl d_mmn_10 rfl rfl ?_
    exact ⟨x, rfl, Or.inr ⟨by omega, rfl⟩, rfl⟩
/-! Arrays.copyOfRange of bytes, where it does not take the whole array -/
theorem own_fits_bt (xs : List Int32) (q : ∀ x ∈ xs, ∃ c : Int32, x = c.toInt8.toInt32) : ∀ v ∈ own_ints xs, fits .byte v = true := by
  intro v hv
  obtain ⟨x, hx, rfl⟩ := List.mem_map.mp hv
  obtain ⟨c, rfl⟩ := q x hx
  exact fits_nar_byte c
def own_Bys (vs : List Value) : Prop := ∀ v ∈ vs, fits .byte v = true
theorem own_Bys.app {vs ws : List Value} (h1 : own_Bys vs) (h2 : own_Bys ws) : own_Bys (vs ++ ws) := fun v hv => (List.mem_append.mp hv).elim (h1 v) (h2 v)
theorem own_Bys.zero (n : Nat) : own_Bys (List.replicate n (.int 0)) := fun v hv => by
  cases (List.mem_replicate.mp hv).2
  rfl
theorem own_Bys.lat (cs : List Int32) : own_Bys (own_ints (cs.map own_bt)) := own_fits_bt _ (fun x hx => by obtain ⟨c, -, rfl⟩ := List.mem_map.mp hx; exact ⟨c, rfl⟩)
theorem own_Bys.two (cs : List Int32) : own_Bys (own_ints (own_two cs)) := own_fits_bt _ (fun x hx => by
  obtain ⟨c, -, hc⟩ := List.mem_flatMap.mp hx
  simp only [List.mem_cons, List.not_mem_nil, or_false] at hc
  rcases hc with rfl | rfl
  · exact ⟨c, rfl⟩
  · exact ⟨_, rfl⟩)
theorem own_Bys.enc (cs : List Int32) : own_Bys (own_ints (own_enc cs)) := by
  unfold own_enc
  split
  · exact own_Bys.lat cs
  · exact own_Bys.two cs
/-! StringBuilder of chars, with its two codings: needs UTF, S_UL, CAP ≥ SBC, CAPB ≥ 2 * SBC -/
abbrev own_bC : String := "java/lang/StringBuilder"
abbrev own_bA : String := "java/lang/AbstractStringBuilder"
def own_sbv (u : Bool) (cs : List Int32) : List Int32 := if u then own_two cs else cs.map own_bt
def own_ub (u : Bool) : Int32 := if u then 1 else 0
def own_uw (u : Bool) : Nat := if u then 2 else 1
theorem own_sbv_len (u : Bool) (cs : List Int32) : (own_ints (own_sbv u cs)).length = own_uw u * cs.length := by
  cases u
  · simp [own_sbv, own_uw]
  · simp [own_sbv, own_uw, own_two_len]
def own_SBx (Z : State) (h : Heap) (t b : Addr) (u : Bool) (cs : List Int32) (cap : Nat) : Prop := Exa Z h t own_bC ∧ own_Chs cs ∧ cs.length ≤ cap ∧ cap < 2 ^ 27 ∧ (u = false → own_lat cs = true) ∧ Fld Z h t own_bA "value" "[B" (.ref b) ∧ Fld Z h t own_bA "coder" "B" (.int (own_ub u)) ∧ Fld Z h t own_bA "count" "I" (.int cs.length.toInt32) ∧ Fld Z h t own_bA "maybeLatin1" "Z" (.int 0) ∧ own_Ary Z h b .byte (own_ints (own_sbv u cs) ++ List.replicate (own_uw u * (cap - cs.length)) (.int 0))
abbrev own_SB (Z : State) (h : Heap) (t b : Addr) (cs : List Int32) (cap : Nat) : Prop := own_SBx Z h t b (!own_lat cs) cs cap
theorem own_SBx.ext {Z : State} {h h' : Heap} {t b : Addr} {u : Bool} {cs : List Int32} {cap : Nat} (F : own_SBx Z h t b u cs cap) (E : Ext h h') : own_SBx Z h' t b u cs cap := by
  obtain ⟨h1, h2, h3, h4, h5, h6, h7, h8, h9, h10⟩ := F
  exact ⟨h1.ext E, h2, h3, h4, h5, h6.ext E, h7.ext E, h8.ext E, h9.ext E, h10.ext E⟩
theorem own_SBx.ltb {Z : State} {h : Heap} {t b : Addr} {u : Bool} {cs : List Int32} {cap : Nat} (F : own_SBx Z h t b u cs cap) : @LT.lt Nat _ b h.size := by
  obtain ⟨h1, h2, h3, h4, h5, h6, h7, h8, h9, h10⟩ := F
  exact h10.lt
theorem own_lat_app {cs ds : List Int32} : own_lat (cs ++ ds) = (own_lat cs && own_lat ds) := by simp [own_lat]
theorem own_chs_app {cs ds : List Int32} (h1 : own_Chs cs) (h2 : own_Chs ds) : own_Chs (cs ++ ds) := fun c hc => (List.mem_append.mp hc).elim (h1 c) (h2 c)
theorem own_nadd {x y : Int32} {m n : Nat} (hx : x.toInt = m) (hy : y.toInt = n) (q : m + n < 2 ^ 31) : x + y = (m + n).toInt32 := by
  apply Int32.toInt_inj.mp
  rw [own_lit _ q, own_add hx hy] <;> omega
theorem own_or_nn {x y : Int32} (hx : 0 ≤ x.toInt) (hy : 0 ≤ y.toInt) : 0 ≤ (x ||| y).toInt := by
  have h1 := BitVec.msb_eq_toInt (x := x.toBitVec)
  have h2 := BitVec.msb_eq_toInt (x := y.toBitVec)
  have h3 := BitVec.msb_eq_toInt (x := (x ||| y).toBitVec)
  have e : (x ||| y).toBitVec = x.toBitVec ||| y.toBitVec := rfl
  have g1 : x.toBitVec.toInt = x.toInt := rfl
  have g2 : y.toBitVec.toInt = y.toInt := rfl
  have g3 : (x ||| y).toBitVec.toInt = (x ||| y).toInt := rfl
  rw [g3] at h3
  rw [e, BitVec.msb_or, h1, h2, g1, g2, decide_eq_false (by omega : ¬ x.toInt < 0), decide_eq_false (by omega : ¬ y.toInt < 0)] at h3
  have h4 := of_decide_eq_false h3.symm
  omega
theorem own_sslots {Z : State} {a0 : Array Value} (hw : ∀ d ∈ tables_1, d.before a0 Z = true) : (RoadKit.slotOf Z own_bA "value" "[B" ≠ RoadKit.slotOf Z own_bA "coder" "B" ∧ RoadKit.slotOf Z own_bA "value" "[B" ≠ RoadKit.slotOf Z own_bA "count" "I" ∧ RoadKit.slotOf Z own_bA "coder" "B" ≠ RoadKit.slotOf Z own_bA "count" "I") ∧ RoadKit.slotOf Z own_bA "maybeLatin1" "Z" ≠ RoadKit.slotOf Z own_bA "value" "[B" ∧ RoadKit.slotOf Z own_bA "maybeLatin1" "Z" ≠ RoadKit.slotOf Z own_bA "coder" "B" ∧ RoadKit.slotOf Z own_bA "maybeLatin1" "Z" ≠ RoadKit.slotOf Z own_bA "count" "I" := by
  have L1 : Laid Z a0 own_bC own_bA "value" "[B" := Or.inl (tw_94 hw)
  have L2 : Laid Z a0 own_bC own_bA "coder" "B" := Or.inl (tw_96 hw)
  have L3 : Laid Z a0 own_bC own_bA "count" "I" := Or.inl (tw_124 hw)
  have L4 : Laid Z a0 own_bC own_bA "maybeLatin1" "Z" := Or.inl (tw_277 hw)
  exact ⟨⟨slot_ne L1 L2 (by decide) (t := .array .byte) (t' := .byte) (by decide) (by decide), slot_ne L1 L3 (by decide) (t := .array .byte) (t' := .int) (by decide) (by decide), slot_ne L2 L3 (by decide) (t := .byte) (t' := .int) (by decide) (by decide)⟩, slot_ne L4 L1 (by decide) (t := .boolean) (t' := .array .byte) (by decide) (by decide), slot_ne L4 L2 (by decide) (t := .boolean) (t' := .byte) (by decide) (by decide), slot_ne L4 L3 (by decide) (t := .boolean) (t' := .int) (by decide) (by decide)⟩
theorem own_mem2 {x y : Addr} {L : List Addr} (h1 : x ∈ L) (h2 : y ∈ L) : ∀ z ∈ [x, y], z ∈ L := by
  intro z hz
  simp only [List.mem_cons, List.not_mem_nil, or_false] at hz
  rcases hz with rfl | rfl <;> assumption
theorem d_abi_0 : decode jdk_68_method_2_code 0 = .ok (.aload_n 0, 1) := by decide +kernel
theorem d_abi_1 : decode jdk_68_method_2_code 1 = .ok (.invokespecial 3, 3) := by decide +kernel
theorem d_abi_4 : decode jdk_68_method_2_code 4 = .ok (.getstatic 18, 3) := by decide +kernel
theorem d_abi_7 : decode jdk_68_method_2_code 7 = .ok (.ifCond .eq 18, 3) := by decide +kernel
theorem d_abi_10 : decode jdk_68_method_2_code 10 = .ok (.aload_n 0, 1) := by decide +kernel
theorem d_abi_11 : decode jdk_68_method_2_code 11 = .ok (.iload_n 1, 1) := by decide +kernel
theorem d_abi_12 : decode jdk_68_method_2_code 12 = .ok (.newarray .byte, 2) := by decide +kernel
theorem d_abi_14 : decode jdk_68_method_2_code 14 = .ok (.putfield 15, 3) := by decide +kernel
theorem d_abi_17 : decode jdk_68_method_2_code 17 = .ok (.aload_n 0, 1) := by decide +kernel
theorem d_abi_18 : decode jdk_68_method_2_code 18 = .ok (.iconst 0, 1) := by decide +kernel
theorem d_abi_19 : decode jdk_68_method_2_code 19 = .ok (.putfield 22, 3) := by decide +kernel
theorem d_abi_22 : decode jdk_68_method_2_code 22 = .ok (.goto 16, 3) := by decide +kernel
theorem d_abi_38 : decode jdk_68_method_2_code 38 = .ok (.return_, 1) := by decide +kernel
abbrev M_abi : own_Mi := ((⟨"java/lang/AbstractStringBuilder", "<init>", "(I)V"⟩ : MethodName), jdk_68_method_2_code, 2, (Option.none : Option FieldType), ({ frames := 1, cells := 1, slots := 2, locals := 12 } : Room))
theorem pn_abi : plainFor (own_Mi.y M_abi) = true := plainFor_of_name (by first | (simp [plainName, overriddenIn]; done) | decide +kernel)
set_option maxRecDepth 65536 in
set_option maxHeartbeats 40000000 in
theorem c_abi (K : own_Cx) (a0 : Array Value) (hw : ∀ d ∈ tables_1, d.before a0 K.Z = true) (g : Int32) (SC : Sta K.Z K.Z.heap own_sC "COMPACT_STRINGS" "Z" (.int g)) (hg : ¬ g = 0) (t : Addr) (n : Int32) (cap : Nat) (h : Heap) (hn : n.toInt = cap) (hcap : cap ≤ 2) (E : Exa K.Z h t own_bC) (F1 : Fld K.Z h t own_bA "value" "[B" .null) (F2 : Fld K.Z h t own_bA "coder" "B" (.int 0)) (F3 : Fld K.Z h t own_bA "count" "I" (.int 0)) (F4 : Fld K.Z h t own_bA "maybeLatin1" "Z" (.int 0)) :
    own_Met K M_abi #[.ref t, .int n] [t] h (own_void fun h' xs => Keep h h' [t] ∧ ∃ b : Addr, b ∈ xs ∧ h.size ≤ b ∧ own_SB K.Z h' t b [] cap) := by
  obtain ⟨⟨s12, s13, s23⟩, s41, s42, s43⟩ := own_sslots hw
  refine own_met_2_0 (M := M_abi) pn_abi rfl (by first | rfl | exact own_cat (by assumption)) (by first | rfl | exact own_cat (by assumption)) ?_
  refine own_aload_n (pc' := 1) rfl d_abi_0 rfl (by first | rfl | assumption) ?_
  refine own_initO (pc' := 4) rfl d_abi_1 (tw_91 hw) (tw_30 hw) (tw_31 hw) rfl rfl rfl ?_
  refine own_getS (pc' := 7) rfl d_abi_4 (tw_92 hw) Via.refl (by assumption) ?_
  refine own_ifeq (pcT := 25) (pcF := 10) d_abi_7 (by decide) (by decide) rfl (fun q => ?_) (fun q => ?_)
  · exact absurd q hg
  · skip
    refine own_aload_n (pc' := 11) rfl d_abi_10 rfl (by first | rfl | assumption) ?_
    refine own_iload_n (pc' := 12) rfl d_abi_11 rfl ?_
    refine own_newarray (pc' := 14) rfl d_abi_12 (tw_33 hw) (N := cap) (cap := 2) hn hcap rfl rfl rfl ?_
    intro b h1 eb E1 B1
    have tb : b ≠ t := by show @Ne Nat b t; have : @LT.lt Nat _ _ _ := E.lt; omega
    refine own_putF (pc' := 17) rfl d_abi_14 (tw_93 hw) Via.refl (Or.inl (tw_94 hw)) (tw_69 hw) (ty := (.array .byte)) (by decide) rfl rfl (F1.ext E1) (E.ext E1) (by simp) ?_
    intro h2 W2
    have G1 := (F1.ext E1).same W2
    have G2 := (F2.ext E1).other W2 (Or.inr (Ne.symm s12))
    have G3 := (F3.ext E1).other W2 (Or.inr (Ne.symm s13))
    have G4 := (F4.ext E1).other W2 (Or.inr s41)
    have E2 := (E.ext E1).wr W2
    have B2 := B1.other W2 tb
    refine own_aload_n (pc' := 18) rfl d_abi_17 rfl (by first | rfl | assumption) ?_
    refine own_iconst (v := (0 : Int32)) (pc' := 19) rfl d_abi_18 rfl ?_
    refine own_putF (pc' := 22) rfl d_abi_19 (tw_95 hw) Via.refl (Or.inl (tw_96 hw)) (tw_69 hw) (ty := .byte) (by decide) rfl rfl G2 E2 (by simp) ?_
    intro h3 W3
    refine own_goto (pc' := 38) d_abi_22 (by decide) (by decide) ?_
    refine own_return rfl d_abi_38 rfl rfl ?_
    exact ⟨((((Keep.refl h [t]).ext E1).wr W2 (Or.inl (List.mem_singleton.mpr rfl))).wr W3 (Or.inl (List.mem_singleton.mpr rfl))), b, by simp, by omega, E2.wr W3, (fun c hc => nomatch hc), Nat.zero_le _, by omega, fun _ => rfl, G1.other W3 (Or.inr s12), G2.same W3, G3.other W3 (Or.inr (Ne.symm s23)), G4.other W3 (Or.inr s42), by
      have e : own_ints (own_sbv (!own_lat []) []) ++ List.replicate (own_uw (!own_lat []) * (cap - ([] : List Int32).length)) (Value.int 0) = List.replicate cap (.int 0) := by
        show [] ++ List.replicate (1 * (cap - 0)) (Value.int 0) = _
        simp
      rw [e]
      exact B2.other W3 tb⟩
theorem d_sbi_0 : decode jdk_67_method_2_code 0 = .ok (.aload_n 0, 1) := by decide +kernel
theorem d_sbi_1 : decode jdk_67_method_2_code 1 = .ok (.iload_n 1, 1) := by decide +kernel
theorem d_sbi_2 : decode jdk_67_method_2_code 2 = .ok (.invokespecial 1, 3) := by decide +kernel
theorem d_sbi_5 : decode jdk_67_method_2_code 5 = .ok (.return_, 1) := by decide +kernel
abbrev M_sbi : own_Mi := ((⟨"java/lang/StringBuilder", "<init>", "(I)V"⟩ : MethodName), jdk_67_method_2_code, 2, (Option.none : Option FieldType), ({ frames := 2, cells := 1, slots := 2, locals := 25 } : Room))
theorem pn_sbi : plainFor (own_Mi.y M_sbi) = true := plainFor_of_name (by first | (simp [plainName, overriddenIn]; done) | decide +kernel)
set_option maxRecDepth 65536 in
set_option maxHeartbeats 40000000 in
theorem c_sbi (K : own_Cx) (a0 : Array Value) (hw : ∀ d ∈ tables_1, d.before a0 K.Z = true) (g : Int32) (SC : Sta K.Z K.Z.heap own_sC "COMPACT_STRINGS" "Z" (.int g)) (hg : ¬ g = 0) (t : Addr) (n : Int32) (cap : Nat) (h : Heap) (hn : n.toInt = cap) (hcap : cap ≤ 2) (E : Exa K.Z h t own_bC) (F1 : Fld K.Z h t own_bA "value" "[B" .null) (F2 : Fld K.Z h t own_bA "coder" "B" (.int 0)) (F3 : Fld K.Z h t own_bA "count" "I" (.int 0)) (F4 : Fld K.Z h t own_bA "maybeLatin1" "Z" (.int 0)) :
    own_Met K M_sbi #[.ref t, .int n] [t] h (own_void fun h' xs => Keep h h' [t] ∧ ∃ b : Addr, b ∈ xs ∧ h.size ≤ b ∧ own_SB K.Z h' t b [] cap) := by
  refine own_met_2_0 (M := M_sbi) pn_sbi rfl (by first | rfl | exact own_cat (by assumption)) (by first | rfl | exact own_cat (by assumption)) ?_
  refine own_aload_n (pc' := 1) rfl d_sbi_0 rfl (by first | rfl | assumption) ?_
  refine own_iload_n (pc' := 2) rfl d_sbi_1 rfl ?_
  refine own_special1n (M' := M_abi) d_sbi_2 (pc' := 5) rfl rfl rfl (tw_85 hw) (tw_86 hw) (tw_89 hw) (tw_90 hw) (by decide) rfl (own_lenOf pd_18 rfl) rfl rfl rfl rfl (c_abi K a0 hw g SC hg t n cap h hn hcap E F1 F2 F3 F4) (by simp) ?_
  rintro h1 xs ⟨k1, b, hb1, hb2, S1⟩
  refine own_return rfl d_sbi_5 rfl rfl ?_
  exact ⟨k1, b, by simp [hb1], hb2, S1⟩
theorem d_ens_0 : decode jdk_68_method_9_code 0 = .ok (.aload_n 0, 1) := by decide +kernel
theorem d_ens_1 : decode jdk_68_method_9_code 1 = .ok (.getfield 15, 3) := by decide +kernel
theorem d_ens_4 : decode jdk_68_method_9_code 4 = .ok (.arraylength, 1) := by decide +kernel
theorem d_ens_5 : decode jdk_68_method_9_code 5 = .ok (.aload_n 0, 1) := by decide +kernel
theorem d_ens_6 : decode jdk_68_method_9_code 6 = .ok (.getfield 22, 3) := by decide +kernel
theorem d_ens_9 : decode jdk_68_method_9_code 9 = .ok (.ishr, 1) := by decide +kernel
theorem d_ens_10 : decode jdk_68_method_9_code 10 = .ok (.istore_n 2, 1) := by decide +kernel
theorem d_ens_11 : decode jdk_68_method_9_code 11 = .ok (.iload_n 1, 1) := by decide +kernel
theorem d_ens_12 : decode jdk_68_method_9_code 12 = .ok (.iload_n 2, 1) := by decide +kernel
theorem d_ens_13 : decode jdk_68_method_9_code 13 = .ok (.isub, 1) := by decide +kernel
theorem d_ens_14 : decode jdk_68_method_9_code 14 = .ok (.ifCond .le 24, 3) := by decide +kernel
theorem d_ens_38 : decode jdk_68_method_9_code 38 = .ok (.return_, 1) := by decide +kernel
abbrev M_ens : own_Mi := ((⟨"java/lang/AbstractStringBuilder", "ensureCapacityInternal", "(I)V"⟩ : MethodName), jdk_68_method_9_code, 3, (Option.none : Option FieldType), ({ frames := 0, cells := 0, slots := 0, locals := 0 } : Room))
theorem pn_ens : plainFor (own_Mi.y M_ens) = true := plainFor_of_name (by first | (simp [plainName, overriddenIn]; done) | decide +kernel)
set_option maxRecDepth 65536 in
set_option maxHeartbeats 40000000 in
theorem c_ens (K : own_Cx) (a0 : Array Value) (hw : ∀ d ∈ tables_1, d.before a0 K.Z = true) (t b : Addr) (u : Bool) (cs : List Int32) (cap : Nat) (m : Int32) (h : Heap) (S : own_SBx K.Z h t b u cs cap) (h0 : 0 ≤ m.toInt) (hm : m.toInt ≤ cap) :
    own_Met K M_ens #[.ref t, .int m] [] h (own_void fun h' _ => h' = h) := by
  obtain ⟨E, hcs, hle, hcap, hlat, F1, F2, F3, F4, B⟩ := S
  have hz : (cap.toInt32).toInt = cap := own_lit _ (by omega)
  have hlen : (own_ints (own_sbv u cs) ++ List.replicate (own_uw u * (cap - cs.length)) (Value.int 0)).length = own_uw u * cap := by
    rw [List.length_append, own_sbv_len, List.length_replicate, ← Nat.mul_add, Nat.add_sub_cancel' hle]
  have hz2 : ((own_uw u * cap).toInt32).toInt = ((own_uw u * cap : Nat) : Int) := own_lit _ (by cases u <;> simp [own_uw] <;> omega)
  have hsh : (own_uw u * cap).toInt32 >>> (own_ub u &&& 31) = cap.toInt32 := by
    cases u
    · show (1 * cap).toInt32 >>> ((0 : Int32) &&& 31) = _
      rw [own_shr0, Nat.one_mul]
    · apply Int32.toInt_inj.mp
      have := c_ishr (own_uw true * cap).toInt32 1 1 (by decide)
      rw [show own_ub true = 1 from rfl, this, hz2, hz]
      show ((2 * cap : Nat) : Int) / _ = _
      omega
  refine own_met_2_1 (M := M_ens) pn_ens rfl (by first | rfl | exact own_cat (by assumption)) (by first | rfl | exact own_cat (by assumption)) ?_
  refine own_aload_n (pc' := 1) rfl d_ens_0 rfl (by first | rfl | assumption) ?_
  refine own_getF (pc' := 4) rfl d_ens_1 (tw_93 hw) Via.refl F1 ?_
  refine own_arrlen (z := (own_uw u * cap).toInt32) (pc' := 5) rfl d_ens_4 B (by rw [hz2, hlen]) ?_
  refine own_aload_n (pc' := 6) rfl d_ens_5 rfl (by first | rfl | assumption) ?_
  refine own_getF (pc' := 9) rfl d_ens_6 (tw_95 hw) Via.refl F2 ?_
  refine own_ishr (pc' := 10) rfl d_ens_9 ?_
  rw [hsh]
  refine own_istore_n2 (pc' := 11) rfl d_ens_10 (by first | exact One.u | exact One.val rfl | assumption | exact One.val (by assumption)) ?_
  refine own_iload_n (pc' := 12) rfl d_ens_11 rfl ?_
  refine own_iload_n (pc' := 13) rfl d_ens_12 rfl ?_
  refine own_isub (pc' := 14) rfl d_ens_13 ?_
  refine own_ifle (pcT := 38) (pcF := 17) d_ens_14 (by decide) (by decide) rfl (fun q => ?_) (fun q => ?_)
  · skip
    refine own_return rfl d_ens_38 rfl rfl ?_
    rfl
  · exfalso
    rw [Int32.lt_iff_toInt_lt, own_sub (x := m) rfl hz (by omega) (by omega)] at q
    have : (0 : Int32).toInt = 0 := rfl
    omega
theorem d_pfs_0 : decode jdk_41_method_13_code 0 = .ok (.iload_n 2, 1) := by decide +kernel
theorem d_pfs_1 : decode jdk_41_method_13_code 1 = .ok (.iload_n 0, 1) := by decide +kernel
theorem d_pfs_2 : decode jdk_41_method_13_code 2 = .ok (.ior, 1) := by decide +kernel
theorem d_pfs_3 : decode jdk_41_method_13_code 3 = .ok (.iload_n 1, 1) := by decide +kernel
theorem d_pfs_4 : decode jdk_41_method_13_code 4 = .ok (.ior, 1) := by decide +kernel
theorem d_pfs_5 : decode jdk_41_method_13_code 5 = .ok (.ifCond .lt 10, 3) := by decide +kernel
theorem d_pfs_8 : decode jdk_41_method_13_code 8 = .ok (.iload_n 1, 1) := by decide +kernel
theorem d_pfs_9 : decode jdk_41_method_13_code 9 = .ok (.iload_n 2, 1) := by decide +kernel
theorem d_pfs_10 : decode jdk_41_method_13_code 10 = .ok (.iload_n 0, 1) := by decide +kernel
theorem d_pfs_11 : decode jdk_41_method_13_code 11 = .ok (.isub, 1) := by decide +kernel
theorem d_pfs_12 : decode jdk_41_method_13_code 12 = .ok (.if_icmp .le 11, 3) := by decide +kernel
theorem d_pfs_23 : decode jdk_41_method_13_code 23 = .ok (.iload_n 0, 1) := by decide +kernel
theorem d_pfs_24 : decode jdk_41_method_13_code 24 = .ok (.ireturn, 1) := by decide +kernel
abbrev M_pfs : own_Mi := ((⟨"jdk/internal/util/Preconditions", "checkFromIndexSize", "(IIILjava/util/function/BiFunction;)I"⟩ : MethodName), jdk_41_method_13_code, 4, (Option.some FieldType.int), ({ frames := 0, cells := 0, slots := 0, locals := 0 } : Room))
theorem pn_pfs : plainFor (own_Mi.y M_pfs) = true := plainFor_of_name (by first | (simp [plainName, overriddenIn]; done) | decide +kernel)
set_option maxRecDepth 65536 in
set_option maxHeartbeats 40000000 in
theorem c_pfs (K : own_Cx) (a0 : Array Value) (hw : ∀ d ∈ tables_1, d.before a0 K.Z = true) (rf : Value) (hrf : rf.isRef = true) (i s n : Int32) (h : Heap) (h0 : 0 ≤ i.toInt) (h1 : 0 ≤ s.toInt) (h2 : i.toInt + s.toInt ≤ n.toInt) :
    own_Met K M_pfs #[.int i, .int s, .int n, rf] [] h (own_ret fun w h' _ => w = .int i ∧ h' = h) := by
  have v0 : (0 : Int32).toInt = 0 := rfl
  have ho := own_or_nn (own_or_nn (x := n) (y := i) (by omega) h0) h1
  have r1 := rng32 n
  refine own_met_4_0 (M := M_pfs) pn_pfs rfl (by first | rfl | exact own_cat (by assumption)) (by first | rfl | exact own_cat (by assumption)) (by first | rfl | exact own_cat (by assumption)) (by first | rfl | exact own_cat (by assumption)) ?_
  refine own_iload_n (pc' := 1) rfl d_pfs_0 rfl ?_
  refine own_iload_n (pc' := 2) rfl d_pfs_1 rfl ?_
  refine own_ior (pc' := 3) rfl d_pfs_2 ?_
  refine own_iload_n (pc' := 4) rfl d_pfs_3 rfl ?_
  refine own_ior (pc' := 5) rfl d_pfs_4 ?_
  refine own_iflt (pcT := 15) (pcF := 8) d_pfs_5 (by decide) (by decide) rfl (fun q => ?_) (fun q => ?_)
  · rw [Int32.lt_iff_toInt_lt] at q
    omega
  · skip
    refine own_iload_n (pc' := 9) rfl d_pfs_8 rfl ?_
    refine own_iload_n (pc' := 10) rfl d_pfs_9 rfl ?_
    refine own_iload_n (pc' := 11) rfl d_pfs_10 rfl ?_
    refine own_isub (pc' := 12) rfl d_pfs_11 ?_
    refine own_icmple (pcT := 23) (pcF := 15) d_pfs_12 (by decide) (by decide) rfl (fun q2 => ?_) (fun q2 => ?_)
    · skip
      refine own_iload_n (pc' := 24) rfl d_pfs_23 rfl ?_
      refine own_ireturn rfl d_pfs_24 rfl rfl ?_
      exact ⟨rfl, rfl⟩
    · rw [Int32.lt_iff_toInt_lt, own_sub (x := n) (y := i) rfl rfl (by omega) (by omega)] at q2
      omega
theorem d_sbo_0 : decode jdk_42_method_157_code 0 = .ok (.iload_n 0, 1) := by decide +kernel
theorem d_sbo_1 : decode jdk_42_method_157_code 1 = .ok (.iload_n 1, 1) := by decide +kernel
theorem d_sbo_2 : decode jdk_42_method_157_code 2 = .ok (.iload_n 2, 1) := by decide +kernel
theorem d_sbo_3 : decode jdk_42_method_157_code 3 = .ok (.getstatic 1053, 3) := by decide +kernel
theorem d_sbo_6 : decode jdk_42_method_157_code 6 = .ok (.invokestatic 1065, 3) := by decide +kernel
theorem d_sbo_9 : decode jdk_42_method_157_code 9 = .ok (.ireturn, 1) := by decide +kernel
abbrev M_sbo : own_Mi := ((⟨"java/lang/String", "checkBoundsOffCount", "(III)I"⟩ : MethodName), jdk_42_method_157_code, 3, (Option.some FieldType.int), ({ frames := 1, cells := 0, slots := 0, locals := 15 } : Room))
theorem pn_sbo : plainFor (own_Mi.y M_sbo) = true := plainFor_of_name (by first | (simp [plainName, overriddenIn]; done) | decide +kernel)
set_option maxRecDepth 65536 in
set_option maxHeartbeats 40000000 in
theorem c_sbo (K : own_Cx) (a0 : Array Value) (hw : ∀ d ∈ tables_1, d.before a0 K.Z = true) (rf : Value) (hrf : rf.isRef = true) (SF : Sta K.Z K.Z.heap "jdk/internal/util/Preconditions" "SIOOBE_FORMATTER" "Ljava/util/function/BiFunction;" rf) (i s n : Int32) (h : Heap) (h0 : 0 ≤ i.toInt) (h1 : 0 ≤ s.toInt) (h2 : i.toInt + s.toInt ≤ n.toInt) :
    own_Met K M_sbo #[.int i, .int s, .int n] [] h (own_ret fun w h' _ => w = .int i ∧ h' = h) := by
  refine own_met_3_0 (M := M_sbo) pn_sbo rfl (by first | rfl | exact own_cat (by assumption)) (by first | rfl | exact own_cat (by assumption)) (by first | rfl | exact own_cat (by assumption)) ?_
  refine own_iload_n (pc' := 1) rfl d_sbo_0 rfl ?_
  refine own_iload_n (pc' := 2) rfl d_sbo_1 rfl ?_
  refine own_iload_n (pc' := 3) rfl d_sbo_2 rfl ?_
  refine own_getS (pc' := 6) rfl d_sbo_3 (tw_183 hw) Via.refl SF ?_
  refine own_static4v (M' := M_pfs) d_sbo_6 (pc' := 9) rfl (tw_270 hw) (tw_271 hw) (tw_184 hw) (tw_272 hw) (by decide) rfl (own_lenOf pd_19 rfl) rfl rfl rfl rfl (c_pfs K a0 hw rf hrf i s n h h0 h1 h2) (by simp) ?_
  rintro w h3 xs ⟨rfl, rfl⟩
  refine own_ireturn rfl d_sbo_9 rfl rfl ?_
  exact ⟨rfl, rfl⟩
set_option maxRecDepth 65536 in
set_option maxHeartbeats 40000000 in
theorem c_ulg (K : own_Cx) (a0 : Array Value) (hw : ∀ d ∈ tables_1, d.before a0 K.Z = true) (b : Addr) (vs : List Value) (N : Nat) (h : Heap) (hv : vs.length = 2 * N) (hN : N < 2 ^ 29) (B : own_Ary K.Z h b .byte vs) :
    own_Met K M_ul #[.ref b] [] h (own_ret fun w h' _ => w = .int N.toInt32 ∧ h' = h) := by
  have hz : ((2 * N).toInt32).toInt = ((2 * N : Nat) : Int) := own_lit _ (by omega)
  have hn : (N.toInt32).toInt = N := own_lit _ (by omega)
  have e2 : (2 * N).toInt32 >>> ((1 : Int32) &&& 31) = N.toInt32 := by
    apply Int32.toInt_inj.mp
    have := c_ishr (2 * N).toInt32 1 1 (by decide)
    rw [this, hz, hn]
    omega
  refine own_met_1_0 (M := M_ul) pn_ul rfl (by first | rfl | exact own_cat (by assumption)) ?_
  refine own_aload_n (pc' := 1) rfl d_ul_0 rfl (by first | rfl | assumption) ?_
  refine own_arrlen (z := (2 * N).toInt32) (pc' := 2) rfl d_ul_1 B (by rw [hz, hv]) ?_
  refine own_iconst (v := (1 : Int32)) (pc' := 3) rfl d_ul_2 rfl ?_
  refine own_ishr (pc' := 4) rfl d_ul_3 ?_
  rw [e2]
  refine own_ireturn rfl d_ul_4 rfl rfl ?_
  exact ⟨rfl, rfl⟩
theorem d_ubo_0 : decode jdk_52_method_94_code 0 = .ok (.iload_n 0, 1) := by decide +kernel
theorem d_ubo_1 : decode jdk_52_method_94_code 1 = .ok (.iload_n 1, 1) := by decide +kernel
theorem d_ubo_2 : decode jdk_52_method_94_code 2 = .ok (.aload_n 2, 1) := by decide +kernel
theorem d_ubo_3 : decode jdk_52_method_94_code 3 = .ok (.invokestatic 48, 3) := by decide +kernel
theorem d_ubo_6 : decode jdk_52_method_94_code 6 = .ok (.invokestatic 419, 3) := by decide +kernel
theorem d_ubo_9 : decode jdk_52_method_94_code 9 = .ok (.pop, 1) := by decide +kernel
theorem d_ubo_10 : decode jdk_52_method_94_code 10 = .ok (.return_, 1) := by decide +kernel
abbrev M_ubo : own_Mi := ((⟨"java/lang/StringUTF16", "checkBoundsOffCount", "(II[B)V"⟩ : MethodName), jdk_52_method_94_code, 3, (Option.none : Option FieldType), ({ frames := 2, cells := 0, slots := 0, locals := 29 } : Room))
theorem pn_ubo : plainFor (own_Mi.y M_ubo) = true := plainFor_of_name (by first | (simp [plainName, overriddenIn]; done) | decide +kernel)
set_option maxRecDepth 65536 in
set_option maxHeartbeats 40000000 in
theorem c_ubo (K : own_Cx) (a0 : Array Value) (hw : ∀ d ∈ tables_1, d.before a0 K.Z = true) (rf : Value) (hrf : rf.isRef = true) (SF : Sta K.Z K.Z.heap "jdk/internal/util/Preconditions" "SIOOBE_FORMATTER" "Ljava/util/function/BiFunction;" rf) (b : Addr) (vs : List Value) (N : Nat) (i s : Int32) (h : Heap) (hv : vs.length = 2 * N) (hN : N < 2 ^ 29) (B : own_Ary K.Z h b .byte vs) (h0 : 0 ≤ i.toInt) (h1 : 0 ≤ s.toInt) (h2 : i.toInt + s.toInt ≤ N) :
    own_Met K M_ubo #[.int i, .int s, .ref b] [] h (own_void fun h' _ => h' = h) := by
  have hn : (N.toInt32).toInt = N := own_lit _ (by omega)
  refine own_met_3_0 (M := M_ubo) pn_ubo rfl (by first | rfl | exact own_cat (by assumption)) (by first | rfl | exact own_cat (by assumption)) (by first | rfl | exact own_cat (by assumption)) ?_
  refine own_iload_n (pc' := 1) rfl d_ubo_0 rfl ?_
  refine own_iload_n (pc' := 2) rfl d_ubo_1 rfl ?_
  refine own_aload_n (pc' := 3) rfl d_ubo_2 rfl (by first | rfl | assumption) ?_
  refine own_static1v (M' := M_ul) d_ubo_3 (pc' := 6) rfl (tw_248 hw) (tw_249 hw) (tw_211 hw) (tw_250 hw) (by decide) rfl (own_lenOf pd_11 rfl) rfl rfl rfl rfl (c_ulg K a0 hw b vs N h hv hN B) (by simp) ?_
  rintro w h3 xs ⟨rfl, rfl⟩
  refine own_static3v (M' := M_sbo) d_ubo_6 (pc' := 9) rfl (tw_267 hw) (tw_268 hw) (tw_20 hw) (tw_269 hw) (by decide) rfl (own_lenOf pd_20 rfl) rfl rfl rfl rfl (c_sbo K a0 hw rf hrf SF i s _ _ h0 h1 (by rw [hn]; exact h2)) (by simp) ?_
  rintro w h4 xs4 ⟨rfl, rfl⟩
  refine own_pop (pc' := 10) rfl d_ubo_9 (by first | rfl | assumption) ?_
  refine own_return rfl d_ubo_10 rfl rfl ?_
  rfl
theorem d_uinf_0 : decode jdk_52_method_86_code 0 = .ok (.iload_n 3, 1) := by decide +kernel
theorem d_uinf_1 : decode jdk_52_method_86_code 1 = .ok (.iload 4, 2) := by decide +kernel
theorem d_uinf_3 : decode jdk_52_method_86_code 3 = .ok (.aload_n 2, 1) := by decide +kernel
theorem d_uinf_4 : decode jdk_52_method_86_code 4 = .ok (.invokestatic 173, 3) := by decide +kernel
theorem d_uinf_7 : decode jdk_52_method_86_code 7 = .ok (.iconst 0, 1) := by decide +kernel
theorem d_uinf_8 : decode jdk_52_method_86_code 8 = .ok (.istore 5, 2) := by decide +kernel
theorem d_uinf_10 : decode jdk_52_method_86_code 10 = .ok (.iload 5, 2) := by decide +kernel
theorem d_uinf_12 : decode jdk_52_method_86_code 12 = .ok (.iload 4, 2) := by decide +kernel
theorem d_uinf_14 : decode jdk_52_method_86_code 14 = .ok (.if_icmp .ge 27, 3) := by decide +kernel
theorem d_uinf_17 : decode jdk_52_method_86_code 17 = .ok (.aload_n 2, 1) := by decide +kernel
theorem d_uinf_18 : decode jdk_52_method_86_code 18 = .ok (.iload_n 3, 1) := by decide +kernel
theorem d_uinf_19 : decode jdk_52_method_86_code 19 = .ok (.iinc 3 1, 3) := by decide +kernel
theorem d_uinf_22 : decode jdk_52_method_86_code 22 = .ok (.aload_n 0, 1) := by decide +kernel
theorem d_uinf_23 : decode jdk_52_method_86_code 23 = .ok (.iload_n 1, 1) := by decide +kernel
theorem d_uinf_24 : decode jdk_52_method_86_code 24 = .ok (.iinc 1 1, 3) := by decide +kernel
theorem d_uinf_27 : decode jdk_52_method_86_code 27 = .ok (.baload, 1) := by decide +kernel
theorem d_uinf_28 : decode jdk_52_method_86_code 28 = .ok (.sipush 255, 3) := by decide +kernel
theorem d_uinf_31 : decode jdk_52_method_86_code 31 = .ok (.iand, 1) := by decide +kernel
theorem d_uinf_32 : decode jdk_52_method_86_code 32 = .ok (.invokestatic 111, 3) := by decide +kernel
theorem d_uinf_35 : decode jdk_52_method_86_code 35 = .ok (.iinc 5 1, 3) := by decide +kernel
theorem d_uinf_38 : decode jdk_52_method_86_code 38 = .ok (.goto (-28), 3) := by decide +kernel
theorem d_uinf_41 : decode jdk_52_method_86_code 41 = .ok (.return_, 1) := by decide +kernel
abbrev M_uinf : own_Mi := ((⟨"java/lang/StringUTF16", "inflate", "([BI[BII)V"⟩ : MethodName), jdk_52_method_86_code, 6, (Option.none : Option FieldType), ({ frames := 3, cells := 0, slots := 0, locals := 43 } : Room))
theorem pn_uinf : plainFor (own_Mi.y M_uinf) = true := plainFor_of_name (by first | (simp [plainName, overriddenIn]; done) | decide +kernel)
def Q_uinf (K : own_Cx) (b : Addr) (L : List Value) (cs : List Int32) (m : Nat) (h : Heap) : Heap → List Addr → Prop := fun h' _ => Keep h h' [b] ∧ own_Ary K.Z h' b .byte (L ++ own_ints (own_two cs) ++ List.replicate (2 * (m - cs.length)) (.int 0))
set_option maxRecDepth 65536 in
set_option maxHeartbeats 40000000 in
theorem c_uinf (K : own_Cx) (a0 : Array Value) (hw : ∀ d ∈ tables_1, d.before a0 K.Z = true) (hU : own_U16 K) (rf : Value) (hrf : rf.isRef = true) (SF : Sta K.Z K.Z.heap "jdk/internal/util/Preconditions" "SIOOBE_FORMATTER" "Ljava/util/function/BiFunction;" rf) (a b : Addr) (L ws : List Value) (cs : List Int32) (O m : Nat) (off n : Int32) (h : Heap) (A : own_Ary K.Z h a .byte (own_ints (cs.map own_bt) ++ ws)) (B : own_Ary K.Z h b .byte (L ++ List.replicate (2 * m) (.int 0))) (hL : L.length = 2 * O) (ho : off.toInt = O) (hn : n.toInt = cs.length) (hm : cs.length ≤ m) (hcs : own_Chs cs) (ql : own_lat cs = true) (hab : a ≠ b) (hO : O + m < 2 ^ 28) :
    own_Met K M_uinf #[.ref a, .int 0, .ref b, .int off, .int n] [b] h (own_void (Q_uinf K b L cs m h)) := by
  have v1 : (1 : Int32).toInt = 1 := rfl
  refine own_met_5_1 (M := M_uinf) pn_uinf rfl (by first | rfl | exact own_cat (by assumption)) (by first | rfl | exact own_cat (by assumption)) (by first | rfl | exact own_cat (by assumption)) (by first | rfl | exact own_cat (by assumption)) (by first | rfl | exact own_cat (by assumption)) ?_
  refine own_iload_n (pc' := 1) rfl d_uinf_0 rfl ?_
  refine own_iload (pc' := 3) rfl d_uinf_1 rfl ?_
  refine own_aload_n (pc' := 4) rfl d_uinf_3 rfl (by first | rfl | assumption) ?_
  refine own_static3n (M' := M_ubo) d_uinf_4 (pc' := 7) rfl (tw_264 hw) (tw_265 hw) (tw_211 hw) (tw_266 hw) (by decide) rfl (own_lenOf pd_21 rfl) rfl rfl rfl rfl (c_ubo K a0 hw rf hrf SF b _ (O + m) off n h (by rw [List.length_append, hL, List.length_replicate]; omega) (by omega) B (by omega) (by omega) (by omega)) (by simp) ?_
  rintro h1 xs1 rfl
  refine own_iconst (v := (0 : Int32)) (pc' := 8) rfl d_uinf_7 rfl ?_
  refine own_istore_5 (pc' := 10) rfl d_uinf_8 (by first | exact One.u | exact One.val rfl | assumption | exact One.val (by assumption)) ?_
  suffices key : ∀ (k i : Nat) (j p : Int32) (h2 : Heap) (sf : List Addr), i + k = cs.length → j.toInt = i → p.toInt = ((O + i : Nat) : Int) → b ∈ sf → Keep h1 h2 [b] → own_Ary K.Z h2 b .byte ((L ++ own_ints (own_two (cs.take i))) ++ List.replicate (2 * (m - i)) (.int 0)) → own_WP K M_uinf (own_void (Q_uinf K b L cs m h1)) 10 [.val (.ref a), .val (.int j), .val (.ref b), .val (.int p), .val (.int n), .val (.int j)] [] sf h2 0 0 from
    own_weak (key cs.length 0 0 off h1 _ (by omega) rfl (by rw [ho]; rfl) (by simp) (Keep.refl _ _) (by simpa [own_two] using B)) (fun x hx => hx) (by exact Nat.le_of_ble_eq_true rfl) (by exact Nat.le_of_ble_eq_true rfl)
  intro k
  induction k with
  | zero =>
    intro i j p h2 sf hik hj hp hbs k2 B2
    refine own_iload (pc' := 12) rfl d_uinf_10 rfl ?_
    refine own_iload (pc' := 14) rfl d_uinf_12 rfl ?_
    refine own_icmpge (pcT := 41) (pcF := 17) d_uinf_14 (by decide) (by decide) rfl (fun q => ?_) (fun q => ?_)
    · skip
      refine own_return rfl d_uinf_41 rfl rfl ?_
      have e : cs.take i = cs := List.take_of_length_le (by omega)
      rw [e] at B2
      refine ⟨k2, ?_⟩
      rw [show cs.length = i by omega]
      exact B2
    · rw [Int32.lt_iff_toInt_lt] at q
      omega
  | succ k ih =>
    intro i j p h2 sf hik hj hp hbs k2 B2
    have hi : i < cs.length := by omega
    obtain ⟨c, hc⟩ : ∃ c, cs[i]? = some c := ⟨cs[i], by simp [hi]⟩
    have hcr := hcs c (List.mem_of_getElem? hc)
    have hcl := own_lat_get ql hc
    have e1 : (L ++ own_ints (own_two (cs.take i))).length = 2 * (O + i) := by
      rw [List.length_append, hL]
      simp [own_two_len]
      omega
    refine own_iload (pc' := 12) rfl d_uinf_10 rfl ?_
    refine own_iload (pc' := 14) rfl d_uinf_12 rfl ?_
    refine own_icmpge (pcT := 41) (pcF := 17) d_uinf_14 (by decide) (by decide) rfl (fun q => ?_) (fun q => ?_)
    · exact absurd (by rw [Int32.lt_iff_toInt_lt]; omega) q
    · skip
      refine own_aload_n (pc' := 18) rfl d_uinf_17 rfl (by first | rfl | assumption) ?_
      refine own_iload_n (pc' := 19) rfl d_uinf_18 rfl ?_
      refine own_iinc_3 (z := (1 : Int32)) (pc' := 22) rfl d_uinf_19 rfl ?_
      refine own_aload_n (pc' := 23) rfl d_uinf_22 rfl (by first | rfl | assumption) ?_
      refine own_iload_n (pc' := 24) rfl d_uinf_23 rfl ?_
      refine own_iinc_1 (z := (1 : Int32)) (pc' := 27) rfl d_uinf_24 rfl ?_
      refine own_baload (pc' := 28) rfl d_uinf_27 (A.keep k2 (ninS hab nin0)) (i := i) hj (by rw [List.getElem?_append_left (by simpa using hi)]; exact own_ints_getM hc) ?_
      refine own_sipush (v := (255 : Int32)) (pc' := 31) rfl d_uinf_28 rfl ?_
      refine own_iand (pc' := 32) rfl d_uinf_31 ?_
      rw [own_lat_byte hcr.1 hcl]
      refine own_static3n (M' := M_pch) d_uinf_32 (pc' := 35) rfl (tw_226 hw) (tw_227 hw) (tw_211 hw) (tw_228 hw) (by decide) rfl (own_lenOf pd_2 rfl) rfl rfl rfl rfl (c_pch K a0 hw hU b p c (O + i) _ h2 hp (by rw [List.length_append, e1, List.length_replicate]; omega) (by omega) B2) (by simpa using hbs) ?_
      rintro h3 xs3 ⟨k3, B3⟩
      refine own_iinc_5 (z := (1 : Int32)) (pc' := 38) rfl d_uinf_35 rfl ?_
      refine own_goto (pc' := 10) d_uinf_38 (by decide) (by decide) ?_
      refine own_weak (ih (i + 1) (j + 1) (p + 1) h3 _ (by omega) (by rw [own_add hj v1] <;> omega) (by rw [own_add hp v1] <;> omega) (List.mem_append_right _ hbs) (k2.trans k3 (fun x hx => Or.inl hx)) ?_) (fun x hx => hx) (by exact Nat.le_of_ble_eq_true rfl) (by exact Nat.le_of_ble_eq_true rfl)
      have e2 := own_settwo (L ++ own_ints (own_two (cs.take i))) (Value.int 0) (.int (own_bt c)) (.int (own_hb c)) (m - (i + 1))
      rw [e1] at e2
      have e3 : L ++ own_ints (own_two (cs.take (i + 1))) = L ++ own_ints (own_two (cs.take i)) ++ [.int (own_bt c), .int (own_hb c)] := by
        rw [own_two_snoc hc]; simp [own_ints]
      rw [e3, ← e2, show m - (i + 1) + 1 = m - i by omega]
      exact B3
theorem d_linf_0 : decode jdk_43_method_50_code 0 = .ok (.aload_n 0, 1) := by decide +kernel
theorem d_linf_1 : decode jdk_43_method_50_code 1 = .ok (.iload_n 1, 1) := by decide +kernel
theorem d_linf_2 : decode jdk_43_method_50_code 2 = .ok (.aload_n 2, 1) := by decide +kernel
theorem d_linf_3 : decode jdk_43_method_50_code 3 = .ok (.iload_n 3, 1) := by decide +kernel
theorem d_linf_4 : decode jdk_43_method_50_code 4 = .ok (.iload 4, 2) := by decide +kernel
theorem d_linf_6 : decode jdk_43_method_50_code 6 = .ok (.invokestatic 240, 3) := by decide +kernel
theorem d_linf_9 : decode jdk_43_method_50_code 9 = .ok (.return_, 1) := by decide +kernel
abbrev M_linf : own_Mi := ((⟨"java/lang/StringLatin1", "inflate", "([BI[BII)V"⟩ : MethodName), jdk_43_method_50_code, 5, (Option.none : Option FieldType), ({ frames := 4, cells := 0, slots := 0, locals := 60 } : Room))
theorem pn_linf : plainFor (own_Mi.y M_linf) = true := plainFor_of_name (by first | (simp [plainName, overriddenIn]; done) | decide +kernel)
set_option maxRecDepth 65536 in
set_option maxHeartbeats 40000000 in
theorem c_linf (K : own_Cx) (a0 : Array Value) (hw : ∀ d ∈ tables_1, d.before a0 K.Z = true) (hU : own_U16 K) (rf : Value) (hrf : rf.isRef = true) (SF : Sta K.Z K.Z.heap "jdk/internal/util/Preconditions" "SIOOBE_FORMATTER" "Ljava/util/function/BiFunction;" rf) (a b : Addr) (L ws : List Value) (cs : List Int32) (O m : Nat) (off n : Int32) (h : Heap) (A : own_Ary K.Z h a .byte (own_ints (cs.map own_bt) ++ ws)) (B : own_Ary K.Z h b .byte (L ++ List.replicate (2 * m) (.int 0))) (hL : L.length = 2 * O) (ho : off.toInt = O) (hn : n.toInt = cs.length) (hm : cs.length ≤ m) (hcs : own_Chs cs) (ql : own_lat cs = true) (hab : a ≠ b) (hO : O + m < 2 ^ 28) :
    own_Met K M_linf #[.ref a, .int 0, .ref b, .int off, .int n] [b] h (own_void (Q_uinf K b L cs m h)) := by
  refine own_met_5_0 (M := M_linf) pn_linf rfl (by first | rfl | exact own_cat (by assumption)) (by first | rfl | exact own_cat (by assumption)) (by first | rfl | exact own_cat (by assumption)) (by first | rfl | exact own_cat (by assumption)) (by first | rfl | exact own_cat (by assumption)) ?_
  refine own_aload_n (pc' := 1) rfl d_linf_0 rfl (by first | rfl | assumption) ?_
  refine own_iload_n (pc' := 2) rfl d_linf_1 rfl ?_
  refine own_aload_n (pc' := 3) rfl d_linf_2 rfl (by first | rfl | assumption) ?_
  refine own_iload_n (pc' := 4) rfl d_linf_3 rfl ?_
  refine own_iload (pc' := 6) rfl d_linf_4 rfl ?_
  refine own_static5n (M' := M_uinf) d_linf_6 (pc' := 9) rfl (tw_261 hw) (tw_262 hw) (tw_211 hw) (tw_263 hw) (by decide) rfl (own_lenOf pd_22 rfl) rfl rfl rfl rfl (c_uinf K a0 hw hU rf hrf SF a b L ws cs O m off n h A B hL ho hn hm hcs ql hab hO) (by simp) ?_
  rintro h1 xs1 q
  refine own_return rfl d_linf_9 rfl rfl ?_
  exact q
theorem d_ail_0 : decode jdk_68_method_68_code 0 = .ok (.getstatic 18, 3) := by decide +kernel
theorem d_ail_3 : decode jdk_68_method_68_code 3 = .ok (.ifCond .eq 14, 3) := by decide +kernel
theorem d_ail_6 : decode jdk_68_method_68_code 6 = .ok (.aload_n 0, 1) := by decide +kernel
theorem d_ail_7 : decode jdk_68_method_68_code 7 = .ok (.getfield 22, 3) := by decide +kernel
theorem d_ail_10 : decode jdk_68_method_68_code 10 = .ok (.ifCond .ne 7, 3) := by decide +kernel
theorem d_ail_13 : decode jdk_68_method_68_code 13 = .ok (.iconst 1, 1) := by decide +kernel
theorem d_ail_14 : decode jdk_68_method_68_code 14 = .ok (.goto 4, 3) := by decide +kernel
theorem d_ail_17 : decode jdk_68_method_68_code 17 = .ok (.iconst 0, 1) := by decide +kernel
theorem d_ail_18 : decode jdk_68_method_68_code 18 = .ok (.ireturn, 1) := by decide +kernel
abbrev M_ail : own_Mi := ((⟨"java/lang/AbstractStringBuilder", "isLatin1", "()Z"⟩ : MethodName), jdk_68_method_68_code, 1, (Option.some FieldType.boolean), ({ frames := 0, cells := 0, slots := 0, locals := 0 } : Room))
theorem pn_ail : plainFor (own_Mi.y M_ail) = true := plainFor_of_name (by first | (simp [plainName, overriddenIn]; done) | decide +kernel)
set_option maxRecDepth 65536 in
set_option maxHeartbeats 40000000 in
theorem c_ail (K : own_Cx) (a0 : Array Value) (hw : ∀ d ∈ tables_1, d.before a0 K.Z = true) (g : Int32) (SC : Sta K.Z K.Z.heap own_sC "COMPACT_STRINGS" "Z" (.int g)) (hg : ¬ g = 0) (t : Addr) (u : Bool) (h : Heap) (F : Fld K.Z h t own_bA "coder" "B" (.int (own_ub u))) :
    own_Met K M_ail #[.ref t] [] h (own_ret fun w h' _ => w = .int (if u then 0 else 1) ∧ h' = h) := by
  refine own_met_1_0 (M := M_ail) pn_ail rfl (by first | rfl | exact own_cat (by assumption)) ?_
  refine own_getS (pc' := 3) rfl d_ail_0 (tw_92 hw) Via.refl (by assumption) ?_
  refine own_ifeq (pcT := 17) (pcF := 6) d_ail_3 (by decide) (by decide) rfl (fun q => ?_) (fun q => ?_)
  · exact absurd q hg
  · skip
    refine own_aload_n (pc' := 7) rfl d_ail_6 rfl (by first | rfl | assumption) ?_
    refine own_getF (pc' := 10) rfl d_ail_7 (tw_95 hw) Via.refl F ?_
    cases u
    · skip
      refine own_ifne (pcT := 17) (pcF := 13) d_ail_10 (by decide) (by decide) rfl (fun q2 => ?_) (fun q2 => ?_)
      · exact absurd rfl q2
      · skip
        refine own_iconst (v := (1 : Int32)) (pc' := 14) rfl d_ail_13 rfl ?_
        refine own_goto (pc' := 18) d_ail_14 (by decide) (by decide) ?_
        refine own_ireturnN (t := .boolean) rfl (by simp) (by first | exact own_nb0 | exact own_nb1 | rfl) d_ail_18 rfl rfl ?_
        exact ⟨rfl, rfl⟩
    · skip
      refine own_ifne (pcT := 17) (pcF := 13) d_ail_10 (by decide) (by decide) rfl (fun q2 => ?_) (fun q2 => ?_)
      · skip
        refine own_iconst (v := (0 : Int32)) (pc' := 18) rfl d_ail_17 rfl ?_
        refine own_ireturnN (t := .boolean) rfl (by simp) (by first | exact own_nb0 | exact own_nb1 | rfl) d_ail_18 rfl rfl ?_
        exact ⟨rfl, rfl⟩
      · exact absurd q2 (by decide)
theorem d_ainf_0 : decode jdk_68_method_11_code 0 = .ok (.aload_n 0, 1) := by decide +kernel
theorem d_ainf_1 : decode jdk_68_method_11_code 1 = .ok (.invokevirtual 83, 3) := by decide +kernel
theorem d_ainf_4 : decode jdk_68_method_11_code 4 = .ok (.ifCond .ne 4, 3) := by decide +kernel
theorem d_ainf_7 : decode jdk_68_method_11_code 7 = .ok (.return_, 1) := by decide +kernel
theorem d_ainf_8 : decode jdk_68_method_11_code 8 = .ok (.aload_n 0, 1) := by decide +kernel
theorem d_ainf_9 : decode jdk_68_method_11_code 9 = .ok (.getfield 15, 3) := by decide +kernel
theorem d_ainf_12 : decode jdk_68_method_11_code 12 = .ok (.arraylength, 1) := by decide +kernel
theorem d_ainf_13 : decode jdk_68_method_11_code 13 = .ok (.invokestatic 26, 3) := by decide +kernel
theorem d_ainf_16 : decode jdk_68_method_11_code 16 = .ok (.astore_n 1, 1) := by decide +kernel
theorem d_ainf_17 : decode jdk_68_method_11_code 17 = .ok (.aload_n 0, 1) := by decide +kernel
theorem d_ainf_18 : decode jdk_68_method_11_code 18 = .ok (.getfield 15, 3) := by decide +kernel
theorem d_ainf_21 : decode jdk_68_method_11_code 21 = .ok (.iconst 0, 1) := by decide +kernel
theorem d_ainf_22 : decode jdk_68_method_11_code 22 = .ok (.aload_n 1, 1) := by decide +kernel
theorem d_ainf_23 : decode jdk_68_method_11_code 23 = .ok (.iconst 0, 1) := by decide +kernel
theorem d_ainf_24 : decode jdk_68_method_11_code 24 = .ok (.aload_n 0, 1) := by decide +kernel
theorem d_ainf_25 : decode jdk_68_method_11_code 25 = .ok (.getfield 79, 3) := by decide +kernel
theorem d_ainf_28 : decode jdk_68_method_11_code 28 = .ok (.invokestatic 125, 3) := by decide +kernel
theorem d_ainf_31 : decode jdk_68_method_11_code 31 = .ok (.aload_n 0, 1) := by decide +kernel
theorem d_ainf_32 : decode jdk_68_method_11_code 32 = .ok (.aload_n 1, 1) := by decide +kernel
theorem d_ainf_33 : decode jdk_68_method_11_code 33 = .ok (.putfield 15, 3) := by decide +kernel
theorem d_ainf_36 : decode jdk_68_method_11_code 36 = .ok (.aload_n 0, 1) := by decide +kernel
theorem d_ainf_37 : decode jdk_68_method_11_code 37 = .ok (.iconst 1, 1) := by decide +kernel
theorem d_ainf_38 : decode jdk_68_method_11_code 38 = .ok (.putfield 22, 3) := by decide +kernel
theorem d_ainf_41 : decode jdk_68_method_11_code 41 = .ok (.return_, 1) := by decide +kernel
abbrev M_ainf : own_Mi := ((⟨"java/lang/AbstractStringBuilder", "inflate", "()V"⟩ : MethodName), jdk_68_method_11_code, 2, (Option.none : Option FieldType), ({ frames := 5, cells := 1, slots := 4, locals := 76 } : Room))
theorem pn_ainf : plainFor (own_Mi.y M_ainf) = true := plainFor_of_name (by first | (simp [plainName, overriddenIn]; done) | decide +kernel)
set_option maxRecDepth 65536 in
set_option maxHeartbeats 40000000 in
theorem c_ainf (K : own_Cx) (a0 : Array Value) (hw : ∀ d ∈ tables_1, d.before a0 K.Z = true) (hU : own_U16 K) (rf : Value) (hrf : rf.isRef = true) (SF : Sta K.Z K.Z.heap "jdk/internal/util/Preconditions" "SIOOBE_FORMATTER" "Ljava/util/function/BiFunction;" rf) (g : Int32) (SC : Sta K.Z K.Z.heap own_sC "COMPACT_STRINGS" "Z" (.int g)) (hg : ¬ g = 0) (t b : Addr) (u : Bool) (cs : List Int32) (cap : Nat) (h : Heap) (S : own_SBx K.Z h t b u cs cap) (hc : cap ≤ 2) (tb : b ≠ t) :
    own_Met K M_ainf #[.ref t] [t] h (own_void fun h' xs => Keep h h' [t] ∧ ∃ b' : Addr, (b' = b ∨ (b' ∈ xs ∧ h.size ≤ b')) ∧ own_SBx K.Z h' t b' true cs cap) := by
  have S' := S
  obtain ⟨E, hcs, hle, hcap, hlat, F1, F2, F3, F4, B⟩ := S
  obtain ⟨⟨s12, s13, s23⟩, s41, s42, s43⟩ := own_sslots hw
  have hz : (cap.toInt32).toInt = cap := own_lit _ (by omega)
  have hzc : (cs.length.toInt32).toInt = cs.length := own_lit _ (by omega)
  have lt : @LT.lt Nat _ _ _ := E.lt
  refine own_met_1_1 (M := M_ainf) pn_ainf rfl (by first | rfl | exact own_cat (by assumption)) ?_
  refine own_aload_n (pc' := 1) rfl d_ainf_0 rfl (by first | rfl | assumption) ?_
  refine own_virtual0v (M' := M_ail) d_ainf_1 (pc' := 4) rfl (tw_202 hw) (tw_126 hw) (tw_128 hw) (tw_127 hw) (tw_89 hw) (tw_129 hw) (by decide) rfl (own_lenOf pd_13 rfl) rfl rfl rfl rfl E (c_ail K a0 hw g SC hg t u h F2) (by simp) ?_
  rintro w h1 xs1 ⟨rfl, rfl⟩
  cases u
  · have hl := hlat rfl
    have hlb : @LT.lt Nat _ _ _ := B.lt
    have hlen : (own_ints (own_sbv false cs) ++ List.replicate (own_uw false * (cap - cs.length)) (Value.int 0)).length = cap := by
      rw [List.length_append, own_sbv_len, List.length_replicate]
      show 1 * _ + 1 * _ = _
      omega
    refine own_ifne (pcT := 8) (pcF := 7) d_ainf_4 (by decide) (by decide) rfl (fun q => ?_) (fun q => ?_)
    rotate_left 1
    · exact absurd q (by decide)
    refine own_aload_n (pc' := 9) rfl d_ainf_8 rfl (by first | rfl | assumption) ?_
    refine own_getF (pc' := 12) rfl d_ainf_9 (tw_93 hw) Via.refl F1 ?_
    refine own_arrlen (z := cap.toInt32) (pc' := 13) rfl d_ainf_12 B (by rw [hz, hlen]) ?_
    refine own_static1v (M' := M_nbf) d_ainf_13 (pc' := 16) rfl (tw_257 hw) (tw_220 hw) (tw_211 hw) (tw_221 hw) (by decide) rfl (own_lenOf pd_1 rfl) rfl rfl rfl rfl (c_nbf K a0 hw _ cap _ hz hc) (by simp) ?_
    rintro w h2 xs2 ⟨b2, rfl, E2, hb2, hbx2, B2⟩
    have bb2 : b ≠ b2 := by show @Ne Nat b b2; omega
    have tb2 : b2 ≠ t := by show @Ne Nat b2 t; omega
    refine own_astore_n1 (pc' := 17) rfl d_ainf_16 (by first | exact One.u | exact One.val rfl | assumption | exact One.val (by assumption)) (by first | rfl | assumption) ?_
    refine own_aload_n (pc' := 18) rfl d_ainf_17 rfl (by first | rfl | assumption) ?_
    refine own_getF (pc' := 21) rfl d_ainf_18 (tw_93 hw) Via.refl (F1.ext E2) ?_
    refine own_iconst (v := (0 : Int32)) (pc' := 22) rfl d_ainf_21 rfl ?_
    refine own_aload_n (pc' := 23) rfl d_ainf_22 rfl (by first | rfl | assumption) ?_
    refine own_iconst (v := (0 : Int32)) (pc' := 24) rfl d_ainf_23 rfl ?_
    refine own_aload_n (pc' := 25) rfl d_ainf_24 rfl (by first | rfl | assumption) ?_
    refine own_getF (pc' := 28) rfl d_ainf_25 (tw_123 hw) Via.refl (F3.ext E2) ?_
    refine own_static5n (M' := M_linf) d_ainf_28 (pc' := 31) rfl (tw_258 hw) (tw_259 hw) (tw_151 hw) (tw_260 hw) (by decide) rfl (own_lenOf pd_22 rfl) rfl rfl rfl rfl (c_linf K a0 hw hU rf hrf SF b b2 [] _ cs 0 cap 0 _ h2 (B.ext E2) (by simpa using B2) rfl rfl hzc hle hcs hl bb2 (by omega)) (by intro z hz; cases List.mem_singleton.mp hz; simp [hbx2]) ?_
    rintro h3 xs3 ⟨k3, B3⟩
    have nb2 : t ∉ [b2] := ninS (Ne.symm tb2) nin0
    refine own_aload_n (pc' := 32) rfl d_ainf_31 rfl (by first | rfl | assumption) ?_
    refine own_aload_n (pc' := 33) rfl d_ainf_32 rfl (by first | rfl | assumption) ?_
    refine own_putF (pc' := 36) rfl d_ainf_33 (tw_93 hw) Via.refl (Or.inl (tw_94 hw)) (tw_69 hw) (ty := (.array .byte)) (by decide) rfl rfl ((F1.ext E2).keep k3 nb2) ((E.ext E2).keep k3) (by simp) ?_
    intro h4 W4
    refine own_aload_n (pc' := 37) rfl d_ainf_36 rfl (by first | rfl | assumption) ?_
    refine own_iconst (v := (1 : Int32)) (pc' := 38) rfl d_ainf_37 rfl ?_
    refine own_putF (pc' := 41) rfl d_ainf_38 (tw_95 hw) Via.refl (Or.inl (tw_96 hw)) (tw_69 hw) (ty := .byte) (by decide) rfl rfl (((F2.ext E2).keep k3 nb2).other W4 (Or.inr (Ne.symm s12))) (((E.ext E2).keep k3).wr W4) (by simp) ?_
    intro h5 W5
    refine own_return rfl d_ainf_41 rfl rfl ?_
    refine ⟨?_, b2, Or.inr ⟨by simp [hbx2], by omega⟩, (((E.ext E2).keep k3).wr W4).wr W5, hcs, hle, hcap, (fun q => by cases q), (((F1.ext E2).keep k3 nb2).same W4).other W5 (Or.inr s12), (((F2.ext E2).keep k3 nb2).other W4 (Or.inr (Ne.symm s12))).same W5, (((F3.ext E2).keep k3 nb2).other W4 (Or.inr (Ne.symm s13))).other W5 (Or.inr (Ne.symm s23)), (((F4.ext E2).keep k3 nb2).other W4 (Or.inr s41)).other W5 (Or.inr s42), ?_⟩
    · exact ((((Keep.refl _ [t]).ext E2).trans k3 (fun x hx => Or.inr (by cases List.mem_singleton.mp hx; exact hb2))).wr W4 (Or.inl (List.mem_singleton.mpr rfl))).wr W5 (Or.inl (List.mem_singleton.mpr rfl))
    · have B3' : own_Ary K.Z h3 b2 .byte (own_ints (own_sbv true cs) ++ List.replicate (own_uw true * (cap - cs.length)) (Value.int 0)) := B3
      exact (B3'.other W4 tb2).other W5 tb2
  · skip
    refine own_ifne (pcT := 8) (pcF := 7) d_ainf_4 (by decide) (by decide) rfl (fun q => ?_) (fun q => ?_)
    · exact absurd rfl q
    refine own_return rfl d_ainf_7 rfl rfl ?_
    exact ⟨Keep.refl _ _, b, Or.inl rfl, S'⟩
theorem d_gvl_0 : decode jdk_68_method_64_code 0 = .ok (.aload_n 0, 1) := by decide +kernel
theorem d_gvl_1 : decode jdk_68_method_64_code 1 = .ok (.getfield 15, 3) := by decide +kernel
theorem d_gvl_4 : decode jdk_68_method_64_code 4 = .ok (.areturn, 1) := by decide +kernel
abbrev M_gvl : own_Mi := ((⟨"java/lang/AbstractStringBuilder", "getValue", "()[B"⟩ : MethodName), jdk_68_method_64_code, 1, (Option.some (FieldType.array FieldType.byte)), ({ frames := 0, cells := 0, slots := 0, locals := 0 } : Room))
theorem pn_gvl : plainFor (own_Mi.y M_gvl) = true := plainFor_of_name (by first | (simp [plainName, overriddenIn]; done) | decide +kernel)
set_option maxRecDepth 65536 in
set_option maxHeartbeats 40000000 in
theorem c_gvl (K : own_Cx) (a0 : Array Value) (hw : ∀ d ∈ tables_1, d.before a0 K.Z = true) (t b : Addr) (h : Heap) (F : Fld K.Z h t own_bA "value" "[B" (.ref b)) :
    own_Met K M_gvl #[.ref t] [] h (own_ret fun w h' _ => w = .ref b ∧ h' = h) := by
  refine own_met_1_0 (M := M_gvl) pn_gvl rfl (by first | rfl | exact own_cat (by assumption)) ?_
  refine own_aload_n (pc' := 1) rfl d_gvl_0 rfl (by first | rfl | assumption) ?_
  refine own_getF (pc' := 4) rfl d_gvl_1 (tw_93 hw) Via.refl F ?_
  refine own_areturn rfl rfl (by first | rfl | assumption) d_gvl_4 rfl rfl ?_
  exact ⟨rfl, rfl⟩
theorem d_abl_0 : decode jdk_68_method_6_code 0 = .ok (.aload_n 0, 1) := by decide +kernel
theorem d_abl_1 : decode jdk_68_method_6_code 1 = .ok (.getfield 79, 3) := by decide +kernel
theorem d_abl_4 : decode jdk_68_method_6_code 4 = .ok (.ireturn, 1) := by decide +kernel
abbrev M_abl : own_Mi := ((⟨"java/lang/AbstractStringBuilder", "length", "()I"⟩ : MethodName), jdk_68_method_6_code, 1, (Option.some FieldType.int), ({ frames := 0, cells := 0, slots := 0, locals := 0 } : Room))
theorem pn_abl : plainFor (own_Mi.y M_abl) = true := plainFor_of_name (by first | (simp [plainName, overriddenIn]; done) | decide +kernel)
set_option maxRecDepth 65536 in
set_option maxHeartbeats 40000000 in
theorem c_abl (K : own_Cx) (a0 : Array Value) (hw : ∀ d ∈ tables_1, d.before a0 K.Z = true) (t : Addr) (n : Int32) (h : Heap) (F : Fld K.Z h t own_bA "count" "I" (.int n)) :
    own_Met K M_abl #[.ref t] [] h (own_ret fun w h' _ => w = .int n ∧ h' = h) := by
  refine own_met_1_0 (M := M_abl) pn_abl rfl (by first | rfl | exact own_cat (by assumption)) ?_
  refine own_aload_n (pc' := 1) rfl d_abl_0 rfl (by first | rfl | assumption) ?_
  refine own_getF (pc' := 4) rfl d_abl_1 (tw_123 hw) Via.refl F ?_
  refine own_ireturn rfl d_abl_4 rfl rfl ?_
  exact ⟨rfl, rfl⟩
theorem d_sbl_0 : decode jdk_67_method_93_code 0 = .ok (.aload_n 0, 1) := by decide +kernel
theorem d_sbl_1 : decode jdk_67_method_93_code 1 = .ok (.invokespecial 343, 3) := by decide +kernel
theorem d_sbl_4 : decode jdk_67_method_93_code 4 = .ok (.ireturn, 1) := by decide +kernel
abbrev M_sbl : own_Mi := ((⟨"java/lang/StringBuilder", "length", "()I"⟩ : MethodName), jdk_67_method_93_code, 1, (Option.some FieldType.int), ({ frames := 1, cells := 0, slots := 0, locals := 12 } : Room))
theorem pn_sbl : plainFor (own_Mi.y M_sbl) = true := plainFor_of_name (by first | (simp [plainName, overriddenIn]; done) | decide +kernel)
set_option maxRecDepth 65536 in
set_option maxHeartbeats 40000000 in
theorem c_sbl (K : own_Cx) (a0 : Array Value) (hw : ∀ d ∈ tables_1, d.before a0 K.Z = true) (t : Addr) (n : Int32) (h : Heap) (E : Exa K.Z h t own_bC) (F : Fld K.Z h t own_bA "count" "I" (.int n)) :
    own_Met K M_sbl #[.ref t] [] h (own_ret fun w h' _ => w = .int n ∧ h' = h) := by
  refine own_met_1_0 (M := M_sbl) pn_sbl rfl (by first | rfl | exact own_cat (by assumption)) ?_
  refine own_aload_n (pc' := 1) rfl d_sbl_0 rfl (by first | rfl | assumption) ?_
  refine own_up0v (M' := M_abl) d_sbl_1 (pc' := 4) rfl (by decide) (tw_120 hw) (tw_121 hw) (tw_112 hw) rfl (tw_116 hw) (tw_89 hw) (tw_122 hw) (by decide) rfl (own_lenOf pd_23 rfl) rfl rfl rfl rfl (Ins.self E) (c_abl K a0 hw t n h F) (by simp) ?_
  rintro w h1 xs ⟨rfl, rfl⟩
  refine own_ireturn rfl d_sbl_4 rfl rfl ?_
  exact ⟨rfl, rfl⟩
/-! StringBuilder.append(char); behind sbu.wp; needs S_CHAR (uci) and S_VALB (cen) -/
set_option maxRecDepth 65536 in
set_option maxHeartbeats 40000000 in
theorem c_ucg (K : own_Cx) (a0 : Array Value) (hw : ∀ d ∈ tables_1, d.before a0 K.Z = true) (rf : Value) (hrf : rf.isRef = true) (SF : Sta K.Z K.Z.heap "jdk/internal/util/Preconditions" "SIOOBE_FORMATTER" "Ljava/util/function/BiFunction;" rf) (b : Addr) (vs : List Value) (N : Nat) (j : Int32) (h : Heap) (hv : vs.length = 2 * N) (hN : N < 2 ^ 29) (B : own_Ary K.Z h b .byte vs) (h0 : 0 ≤ j.toInt) (h1 : j.toInt < N) :
    own_Met K M_uci #[.int j, .ref b] [] h (own_void fun h' _ => h' = h) := by
  have hn : (N.toInt32).toInt = N := own_lit _ (by omega)
  refine own_met_2_0 (M := M_uci) pn_uci rfl (by first | rfl | exact own_cat (by assumption)) (by first | rfl | exact own_cat (by assumption)) ?_
  refine own_iload_n (pc' := 1) rfl d_uci_0 rfl ?_
  refine own_aload_n (pc' := 2) rfl d_uci_1 rfl (by first | rfl | assumption) ?_
  refine own_static1v (M' := M_ul) d_uci_2 (pc' := 5) rfl (tw_248 hw) (tw_249 hw) (tw_211 hw) (tw_250 hw) (by decide) rfl (own_lenOf pd_11 rfl) rfl rfl rfl rfl (c_ulg K a0 hw b vs N h hv hN B) (by simp) ?_
  rintro w h3 xs ⟨rfl, rfl⟩
  refine own_static2n (M' := M_ski) d_uci_5 (pc' := 8) rfl (tw_251 hw) (tw_181 hw) (tw_20 hw) (tw_182 hw) (by decide) rfl (own_lenOf pd_10 rfl) rfl rfl rfl rfl (c_ski K a0 hw rf hrf SF j _ _ h0 (by rw [hn]; exact h1)) (by simp) ?_
  rintro h4 xs4 rfl
  refine own_return rfl d_uci_8 rfl rfl ?_
  rfl
theorem d_pcs_0 : decode jdk_52_method_71_code 0 = .ok (.iload_n 1, 1) := by decide +kernel
theorem d_pcs_1 : decode jdk_52_method_71_code 1 = .ok (.aload_n 0, 1) := by decide +kernel
theorem d_pcs_2 : decode jdk_52_method_71_code 2 = .ok (.invokestatic 67, 3) := by decide +kernel
theorem d_pcs_5 : decode jdk_52_method_71_code 5 = .ok (.aload_n 0, 1) := by decide +kernel
theorem d_pcs_6 : decode jdk_52_method_71_code 6 = .ok (.iload_n 1, 1) := by decide +kernel
theorem d_pcs_7 : decode jdk_52_method_71_code 7 = .ok (.iload_n 2, 1) := by decide +kernel
theorem d_pcs_8 : decode jdk_52_method_71_code 8 = .ok (.invokestatic 111, 3) := by decide +kernel
theorem d_pcs_11 : decode jdk_52_method_71_code 11 = .ok (.return_, 1) := by decide +kernel
abbrev M_pcs : own_Mi := ((⟨"java/lang/StringUTF16", "putCharSB", "([BII)V"⟩ : MethodName), jdk_52_method_71_code, 3, (Option.none : Option FieldType), ({ frames := 3, cells := 0, slots := 0, locals := 40 } : Room))
theorem pn_pcs : plainFor (own_Mi.y M_pcs) = true := plainFor_of_name (by first | (simp [plainName, overriddenIn]; done) | decide +kernel)
set_option maxRecDepth 65536 in
set_option maxHeartbeats 40000000 in
theorem c_pcs (K : own_Cx) (a0 : Array Value) (hw : ∀ d ∈ tables_1, d.before a0 K.Z = true) (hU : own_U16 K) (rf : Value) (hrf : rf.isRef = true) (SF : Sta K.Z K.Z.heap "jdk/internal/util/Preconditions" "SIOOBE_FORMATTER" "Ljava/util/function/BiFunction;" rf) (b : Addr) (i c : Int32) (I N : Nat) (vs : List Value) (h : Heap) (hi : i.toInt = I) (hI : I < N) (hv : vs.length = 2 * N) (hN : N < 2 ^ 29) (B : own_Ary K.Z h b .byte vs) :
    own_Met K M_pcs #[.ref b, .int i, .int c] [b] h (own_void fun h' _ => Keep h h' [b] ∧ own_Ary K.Z h' b .byte ((vs.set (2 * I) (.int (own_bt c))).set (2 * I + 1) (.int (own_hb c)))) := by
  refine own_met_3_0 (M := M_pcs) pn_pcs rfl (by first | rfl | exact own_cat (by assumption)) (by first | rfl | exact own_cat (by assumption)) (by first | rfl | exact own_cat (by assumption)) ?_
  refine own_iload_n (pc' := 1) rfl d_pcs_0 rfl ?_
  refine own_aload_n (pc' := 2) rfl d_pcs_1 rfl (by first | rfl | assumption) ?_
  refine own_static2n (M' := M_uci) d_pcs_2 (pc' := 5) rfl (tw_245 hw) (tw_246 hw) (tw_211 hw) (tw_247 hw) (by decide) rfl (own_lenOf pd_12 rfl) rfl rfl rfl rfl (c_ucg K a0 hw rf hrf SF b vs N i h hv hN B (by omega) (by omega)) (by simp) ?_
  rintro h1 xs1 rfl
  refine own_aload_n (pc' := 6) rfl d_pcs_5 rfl (by first | rfl | assumption) ?_
  refine own_iload_n (pc' := 7) rfl d_pcs_6 rfl ?_
  refine own_iload_n (pc' := 8) rfl d_pcs_7 rfl ?_
  refine own_static3n (M' := M_pch) d_pcs_8 (pc' := 11) rfl (tw_226 hw) (tw_227 hw) (tw_211 hw) (tw_228 hw) (by decide) rfl (own_lenOf pd_2 rfl) rfl rfl rfl rfl (c_pch K a0 hw hU b i c I vs _ hi (by omega) (by omega) B) (by simp) ?_
  rintro h2 xs2 q
  refine own_return rfl d_pcs_11 rfl rfl ?_
  exact q
theorem d_asc_0 : decode jdk_68_method_31_code 0 = .ok (.aload_n 0, 1) := by decide +kernel
theorem d_asc_1 : decode jdk_68_method_31_code 1 = .ok (.aload_n 0, 1) := by decide +kernel
theorem d_asc_2 : decode jdk_68_method_31_code 2 = .ok (.getfield 79, 3) := by decide +kernel
theorem d_asc_5 : decode jdk_68_method_31_code 5 = .ok (.iconst 1, 1) := by decide +kernel
theorem d_asc_6 : decode jdk_68_method_31_code 6 = .ok (.iadd, 1) := by decide +kernel
theorem d_asc_7 : decode jdk_68_method_31_code 7 = .ok (.invokevirtual 100, 3) := by decide +kernel
theorem d_asc_10 : decode jdk_68_method_31_code 10 = .ok (.aload_n 0, 1) := by decide +kernel
theorem d_asc_11 : decode jdk_68_method_31_code 11 = .ok (.invokevirtual 83, 3) := by decide +kernel
theorem d_asc_14 : decode jdk_68_method_31_code 14 = .ok (.ifCond .eq 31, 3) := by decide +kernel
theorem d_asc_17 : decode jdk_68_method_31_code 17 = .ok (.iload_n 1, 1) := by decide +kernel
theorem d_asc_18 : decode jdk_68_method_31_code 18 = .ok (.invokestatic 191, 3) := by decide +kernel
theorem d_asc_21 : decode jdk_68_method_31_code 21 = .ok (.ifCond .eq 24, 3) := by decide +kernel
theorem d_asc_24 : decode jdk_68_method_31_code 24 = .ok (.aload_n 0, 1) := by decide +kernel
theorem d_asc_25 : decode jdk_68_method_31_code 25 = .ok (.getfield 15, 3) := by decide +kernel
theorem d_asc_28 : decode jdk_68_method_31_code 28 = .ok (.aload_n 0, 1) := by decide +kernel
theorem d_asc_29 : decode jdk_68_method_31_code 29 = .ok (.dup, 1) := by decide +kernel
theorem d_asc_30 : decode jdk_68_method_31_code 30 = .ok (.getfield 79, 3) := by decide +kernel
theorem d_asc_33 : decode jdk_68_method_31_code 33 = .ok (.dup_x1, 1) := by decide +kernel
theorem d_asc_34 : decode jdk_68_method_31_code 34 = .ok (.iconst 1, 1) := by decide +kernel
theorem d_asc_35 : decode jdk_68_method_31_code 35 = .ok (.iadd, 1) := by decide +kernel
theorem d_asc_36 : decode jdk_68_method_31_code 36 = .ok (.putfield 79, 3) := by decide +kernel
theorem d_asc_39 : decode jdk_68_method_31_code 39 = .ok (.iload_n 1, 1) := by decide +kernel
theorem d_asc_40 : decode jdk_68_method_31_code 40 = .ok (.i2b, 1) := by decide +kernel
theorem d_asc_41 : decode jdk_68_method_31_code 41 = .ok (.bastore, 1) := by decide +kernel
theorem d_asc_42 : decode jdk_68_method_31_code 42 = .ok (.goto 33, 3) := by decide +kernel
theorem d_asc_45 : decode jdk_68_method_31_code 45 = .ok (.aload_n 0, 1) := by decide +kernel
theorem d_asc_46 : decode jdk_68_method_31_code 46 = .ok (.invokevirtual 83, 3) := by decide +kernel
theorem d_asc_49 : decode jdk_68_method_31_code 49 = .ok (.ifCond .eq 7, 3) := by decide +kernel
theorem d_asc_52 : decode jdk_68_method_31_code 52 = .ok (.aload_n 0, 1) := by decide +kernel
theorem d_asc_53 : decode jdk_68_method_31_code 53 = .ok (.invokevirtual 195, 3) := by decide +kernel
theorem d_asc_56 : decode jdk_68_method_31_code 56 = .ok (.aload_n 0, 1) := by decide +kernel
theorem d_asc_57 : decode jdk_68_method_31_code 57 = .ok (.getfield 15, 3) := by decide +kernel
theorem d_asc_60 : decode jdk_68_method_31_code 60 = .ok (.aload_n 0, 1) := by decide +kernel
theorem d_asc_61 : decode jdk_68_method_31_code 61 = .ok (.dup, 1) := by decide +kernel
theorem d_asc_62 : decode jdk_68_method_31_code 62 = .ok (.getfield 79, 3) := by decide +kernel
theorem d_asc_65 : decode jdk_68_method_31_code 65 = .ok (.dup_x1, 1) := by decide +kernel
theorem d_asc_66 : decode jdk_68_method_31_code 66 = .ok (.iconst 1, 1) := by decide +kernel
theorem d_asc_67 : decode jdk_68_method_31_code 67 = .ok (.iadd, 1) := by decide +kernel
theorem d_asc_68 : decode jdk_68_method_31_code 68 = .ok (.putfield 79, 3) := by decide +kernel
theorem d_asc_71 : decode jdk_68_method_31_code 71 = .ok (.iload_n 1, 1) := by decide +kernel
theorem d_asc_72 : decode jdk_68_method_31_code 72 = .ok (.invokestatic 197, 3) := by decide +kernel
theorem d_asc_75 : decode jdk_68_method_31_code 75 = .ok (.aload_n 0, 1) := by decide +kernel
theorem d_asc_76 : decode jdk_68_method_31_code 76 = .ok (.areturn, 1) := by decide +kernel
abbrev M_asc : own_Mi := ((⟨"java/lang/AbstractStringBuilder", "append", "(C)Ljava/lang/AbstractStringBuilder;"⟩ : MethodName), jdk_68_method_31_code, 2, (Option.some (FieldType.object "java/lang/AbstractStringBuilder")), ({ frames := 6, cells := 1, slots := 4, locals := 89 } : Room))
theorem pn_asc : plainFor (own_Mi.y M_asc) = true := plainFor_of_name (by first | (simp [plainName, overriddenIn]; done) | decide +kernel)
set_option maxRecDepth 65536 in
set_option maxHeartbeats 40000000 in
theorem c_asc (K : own_Cx) (a0 : Array Value) (hw : ∀ d ∈ tables_1, d.before a0 K.Z = true) (hU : own_U16 K) (rf : Value) (hrf : rf.isRef = true) (SF : Sta K.Z K.Z.heap "jdk/internal/util/Preconditions" "SIOOBE_FORMATTER" "Ljava/util/function/BiFunction;" rf) (g : Int32) (SC : Sta K.Z K.Z.heap own_sC "COMPACT_STRINGS" "Z" (.int g)) (hg : ¬ g = 0) (t b : Addr) (c : Int32) (cs : List Int32) (cap : Nat) (h : Heap) (T : own_SB K.Z h t b cs cap) (hc : cap ≤ 2) (tb : b ≠ t) (c0 : 0 ≤ c.toInt) (c1 : c.toInt < 65536) (hn : cs.length + 1 ≤ cap) :
    own_Met K M_asc #[.ref t, .int c] [t, b] h (own_ret fun w h' xs => w = .ref t ∧ Keep h h' [t, b] ∧ ∃ b' : Addr, (b' = b ∨ (b' ∈ xs ∧ h.size ≤ b')) ∧ own_SB K.Z h' t b' (cs ++ [c]) cap) := by
  have T' := T
  obtain ⟨E, hcs, hle, hcap, hlat, F1, F2, F3, F4, B⟩ := T
  have v1 : (1 : Int32).toInt = 1 := rfl
  have hzc : (cs.length.toInt32).toInt = cs.length := own_lit _ (by omega)
  have hza := own_nadd hzc (n := 1) v1 (by omega)
  have hzs : ((cs.length + 1).toInt32).toInt = ((cs.length + 1 : Nat) : Int) := own_lit _ (by omega)
  have eL : (cs ++ [c]).length = cs.length + 1 := by simp
  have chc : own_Chs (cs ++ [c]) := own_chs_app hcs (fun d hd => by cases List.mem_singleton.mp hd; exact ⟨c0, c1⟩)
  have ltt : @LT.lt Nat _ _ _ := E.lt
  obtain ⟨⟨s12, s13, s23⟩, s41, s42, s43⟩ := own_sslots hw
  refine own_met_2_0 (M := M_asc) pn_asc rfl (by first | rfl | exact own_cat (by assumption)) (by first | rfl | exact own_cat (by assumption)) ?_
  refine own_aload_n (pc' := 1) rfl d_asc_0 rfl (by first | rfl | assumption) ?_
  refine own_aload_n (pc' := 2) rfl d_asc_1 rfl (by first | rfl | assumption) ?_
  refine own_getF (pc' := 5) rfl d_asc_2 (tw_123 hw) Via.refl F3 ?_
  refine own_iconst (v := (1 : Int32)) (pc' := 6) rfl d_asc_5 rfl ?_
  refine own_iadd (pc' := 7) rfl d_asc_6 ?_
  rw [hza]
  refine own_virtual1n (M' := M_ens) d_asc_7 (pc' := 10) rfl (tw_197 hw) (own_decl (tw_198 hw) (tw_201 hw)) (tw_200 hw) (tw_198 hw) (tw_89 hw) (tw_201 hw) (by decide) rfl (own_lenOf pd_18 rfl) rfl rfl rfl rfl E (c_ens K a0 hw t b _ cs cap _ h T' (by rw [hzs]; omega) (by rw [hzs]; omega)) (by simp) ?_
  rintro h1 xs1 rfl
  refine own_aload_n (pc' := 11) rfl d_asc_10 rfl (by first | rfl | assumption) ?_
  refine own_virtual0v (M' := M_ail) d_asc_11 (pc' := 14) rfl (tw_202 hw) (tw_126 hw) (tw_128 hw) (tw_127 hw) (tw_89 hw) (tw_129 hw) (by decide) rfl (own_lenOf pd_13 rfl) rfl rfl rfl rfl E (c_ail K a0 hw g SC hg t _ _ F2) (by simp) ?_
  rintro w h2 xs2 ⟨rfl, rfl⟩
  suffices wide : ∀ (b' : Addr) (h3 : Heap) (sf : List Addr) (nc : Nat), own_lat (cs ++ [c]) = false → own_SBx K.Z h3 t b' true cs cap → Keep h2 h3 [t] → b' ≠ t → (b' = b ∨ (b' ∈ sf ∧ h2.size ≤ b')) → t ∈ sf → b ∈ sf → own_WP K M_asc (own_ret fun w h' xs => w = .ref t ∧ Keep h2 h' [t, b] ∧ ∃ b' : Addr, (b' = b ∨ (b' ∈ xs ∧ h2.size ≤ b')) ∧ own_SB K.Z h' t b' (cs ++ [c]) cap) 56 [.val (.ref t), .val (.int c)] [] sf h3 1 4 by
    cases ql : own_lat cs
    · have qa : own_lat (cs ++ [c]) = false := by rw [own_lat_app, ql]; rfl
      refine own_ifeq (pcT := 45) (pcF := 17) d_asc_14 (by decide) (by decide) rfl (fun q => ?_) (fun q => ?_)
      rotate_left 1
      · exact absurd rfl q
      refine own_aload_n (pc' := 46) rfl d_asc_45 rfl (by first | rfl | assumption) ?_
      refine own_virtual0v (M' := M_ail) d_asc_46 (pc' := 49) rfl (tw_202 hw) (tw_126 hw) (tw_128 hw) (tw_127 hw) (tw_89 hw) (tw_129 hw) (by decide) rfl (own_lenOf pd_13 rfl) rfl rfl rfl rfl E (c_ail K a0 hw g SC hg t _ _ F2) (by simp) ?_
      rintro w h3 xs3 ⟨rfl, rfl⟩
      rw [ql]
      refine own_ifeq (pcT := 56) (pcF := 52) d_asc_49 (by decide) (by decide) rfl (fun q2 => ?_) (fun q2 => ?_)
      rotate_left 1
      · exact absurd rfl q2
      have T2 := T'
      rw [own_SB, ql] at T2
      exact own_weak (wide b _ _ 0 qa T2 (Keep.refl _ _) tb (Or.inl rfl) (by simp) (by simp)) (fun x hx => hx) (by exact Nat.le_of_ble_eq_true rfl) (by exact Nat.le_of_ble_eq_true rfl)
    · skip
      refine own_ifeq (pcT := 45) (pcF := 17) d_asc_14 (by decide) (by decide) rfl (fun q => ?_) (fun q => ?_)
      · exact absurd q (by decide)
      refine own_iload_n (pc' := 18) rfl d_asc_17 rfl ?_
      refine own_static1v (M' := M_cen) d_asc_18 (pc' := 21) rfl (tw_203 hw) (tw_159 hw) (tw_151 hw) (tw_160 hw) (by decide) rfl (own_lenOf pd_15 rfl) rfl rfl rfl rfl (c_cen K a0 hw c _) (by simp) ?_
      rintro w h3 xs3 ⟨rfl, rfl⟩
      by_cases hl : c.toInt < 256
      · have qa : own_lat (cs ++ [c]) = true := by rw [own_lat_app, ql]; simp [own_lat, hl]
        rw [ql] at B
        have B : own_Ary K.Z h3 b .byte (own_ints (cs.map own_bt) ++ List.replicate (1 * (cap - cs.length)) (.int 0)) := B
        rw [Nat.one_mul, show cap - cs.length = cap - cs.length - 1 + 1 by omega] at B
        rw [if_pos hl]
        refine own_ifeq (pcT := 45) (pcF := 24) d_asc_21 (by decide) (by decide) rfl (fun q2 => ?_) (fun q2 => ?_)
        · exact absurd q2 (by decide)
        refine own_aload_n (pc' := 25) rfl d_asc_24 rfl (by first | rfl | assumption) ?_
        refine own_getF (pc' := 28) rfl d_asc_25 (tw_93 hw) Via.refl F1 ?_
        refine own_aload_n (pc' := 29) rfl d_asc_28 rfl (by first | rfl | assumption) ?_
        refine own_dup (pc' := 30) rfl d_asc_29 (by first | rfl | assumption) ?_
        refine own_getF (pc' := 33) rfl d_asc_30 (tw_123 hw) Via.refl F3 ?_
        refine own_dup_x1 (pc' := 34) rfl d_asc_33 rfl rfl ?_
        refine own_iconst (v := (1 : Int32)) (pc' := 35) rfl d_asc_34 rfl ?_
        refine own_iadd (pc' := 36) rfl d_asc_35 ?_
        rw [hza]
        refine own_putF (pc' := 39) rfl d_asc_36 (tw_123 hw) Via.refl (Or.inl (tw_124 hw)) (tw_69 hw) (ty := .int) (by decide) rfl rfl F3 E (by simp) ?_
        intro h4 W4
        refine own_iload_n (pc' := 40) rfl d_asc_39 rfl ?_
        refine own_i2b (pc' := 41) rfl d_asc_40 ?_
        refine own_bastore (pc' := 42) rfl d_asc_41 (B.other W4 tb) (i := cs.length) hzc (by simp) (own_bt_nar c) (by simp) ?_
        intro h5 k5 B5
        have nb : t ∉ [b] := ninS (Ne.symm tb) nin0
        refine own_goto (pc' := 75) d_asc_42 (by decide) (by decide) ?_
        refine own_aload_n (pc' := 76) rfl d_asc_75 rfl (by first | rfl | assumption) ?_
        refine own_areturn rfl rfl (by first | rfl | assumption) d_asc_76 rfl rfl ?_
        refine ⟨rfl, ?_, b, Or.inl rfl, (E.wr W4).keep k5, chc, by omega, hcap, (fun _ => qa), (F1.other W4 (Or.inr s13)).keep k5 nb, ?_, ?_, (F4.other W4 (Or.inr s43)).keep k5 nb, ?_⟩
        · exact ((Keep.refl _ [t, b]).wr W4 (Or.inl (by simp))).trans k5 (fun z hz => Or.inl (by cases List.mem_singleton.mp hz; simp))
        · rw [qa]; rw [ql] at F2; exact (F2.other W4 (Or.inr s23)).keep k5 nb
        · rw [eL]; exact (F3.same W4).keep k5 nb
        · rw [qa]
          have e := own_setmid (own_ints (cs.map own_bt)) (Value.int 0) (.int (own_bt c)) (cap - cs.length - 1)
          rw [show (own_ints (cs.map own_bt)).length = cs.length by simp] at e
          rw [e] at B5
          have e2 : own_ints (own_sbv (!true) (cs ++ [c])) ++ List.replicate (own_uw (!true) * (cap - (cs ++ [c]).length)) (Value.int 0) = own_ints (cs.map own_bt) ++ [.int (own_bt c)] ++ List.replicate (cap - cs.length - 1) (.int 0) := by
            rw [eL]
            show own_ints ((cs ++ [c]).map own_bt) ++ List.replicate (1 * (cap - (cs.length + 1))) (Value.int 0) = _
            rw [Nat.one_mul, Nat.sub_sub]
            simp [own_ints]
          rw [e2]
          exact B5
      · have qa : own_lat (cs ++ [c]) = false := by rw [own_lat_app, ql]; simp [own_lat]; omega
        rw [if_neg hl]
        refine own_ifeq (pcT := 45) (pcF := 24) d_asc_21 (by decide) (by decide) rfl (fun q2 => ?_) (fun q2 => ?_)
        rotate_left 1
        · exact absurd rfl q2
        refine own_aload_n (pc' := 46) rfl d_asc_45 rfl (by first | rfl | assumption) ?_
        refine own_virtual0v (M' := M_ail) d_asc_46 (pc' := 49) rfl (tw_202 hw) (tw_126 hw) (tw_128 hw) (tw_127 hw) (tw_89 hw) (tw_129 hw) (by decide) rfl (own_lenOf pd_13 rfl) rfl rfl rfl rfl E (c_ail K a0 hw g SC hg t _ _ F2) (by simp) ?_
        rintro w h4 xs4 ⟨rfl, rfl⟩
        rw [ql]
        refine own_ifeq (pcT := 56) (pcF := 52) d_asc_49 (by decide) (by decide) rfl (fun q3 => ?_) (fun q3 => ?_)
        · exact absurd q3 (by decide)
        refine own_aload_n (pc' := 53) rfl d_asc_52 rfl (by first | rfl | assumption) ?_
        refine own_virtual0n (M' := M_ainf) d_asc_53 (pc' := 56) rfl (tw_252 hw) (own_decl (tw_253 hw) (tw_256 hw)) (tw_255 hw) (tw_253 hw) (tw_89 hw) (tw_256 hw) (by decide) rfl (own_lenOf pd_24 rfl) rfl rfl rfl rfl E (c_ainf K a0 hw hU rf hrf SF g SC hg t b _ cs cap _ T' hc tb) (by simp) ?_
        rintro h5 xs5 ⟨k5, b', hb', T5⟩
        have bt : b' ≠ t := by
          rcases hb' with rfl | ⟨-, z⟩
          · exact tb
          · exact own_ne (by omega)
        exact own_weak (wide b' h5 _ 0 qa T5 k5 bt (hb'.imp id fun z => ⟨List.mem_append_left _ z.1, z.2⟩) (by simp) (by simp)) (fun x hx => hx) (by exact Nat.le_of_ble_eq_true rfl) (by exact Nat.le_of_ble_eq_true rfl)
  intro b' h3 sf nc qa T3 k3 bt hb' htm hbm
  obtain ⟨E3, -, -, -, -, G1, G2, G3, G4, B3⟩ := T3
  have B3 : own_Ary K.Z h3 b' .byte (own_ints (own_two cs) ++ List.replicate (2 * (cap - cs.length)) (.int 0)) := B3
  have hb'm : b' ∈ sf := hb'.elim (fun e => e ▸ hbm) (fun z => z.1)
  refine own_aload_n (pc' := 57) rfl d_asc_56 rfl (by first | rfl | assumption) ?_
  refine own_getF (pc' := 60) rfl d_asc_57 (tw_93 hw) Via.refl G1 ?_
  refine own_aload_n (pc' := 61) rfl d_asc_60 rfl (by first | rfl | assumption) ?_
  refine own_dup (pc' := 62) rfl d_asc_61 (by first | rfl | assumption) ?_
  refine own_getF (pc' := 65) rfl d_asc_62 (tw_123 hw) Via.refl G3 ?_
  refine own_dup_x1 (pc' := 66) rfl d_asc_65 rfl rfl ?_
  refine own_iconst (v := (1 : Int32)) (pc' := 67) rfl d_asc_66 rfl ?_
  refine own_iadd (pc' := 68) rfl d_asc_67 ?_
  rw [hza]
  refine own_putF (pc' := 71) rfl d_asc_68 (tw_123 hw) Via.refl (Or.inl (tw_124 hw)) (tw_69 hw) (ty := .int) (by decide) rfl rfl G3 E3 htm ?_
  intro h4 W4
  refine own_iload_n (pc' := 72) rfl d_asc_71 rfl ?_
  refine own_static3n (M' := M_pcs) d_asc_72 (pc' := 75) rfl (tw_273 hw) (tw_274 hw) (tw_211 hw) (tw_275 hw) (by decide) rfl (own_lenOf pd_2 rfl) rfl rfl rfl rfl (c_pcs K a0 hw hU rf hrf SF b' _ c cs.length cap _ h4 hzc (by omega) (by rw [List.length_append]; simp [own_two_len]; omega) (by omega) (B3.other W4 bt)) (by intro z hz; cases List.mem_singleton.mp hz; exact hb'm) ?_
  rintro h5 xs5 ⟨k5, B5⟩
  have nb : t ∉ [b'] := ninS (Ne.symm bt) nin0
  refine own_aload_n (pc' := 76) rfl d_asc_75 rfl (by first | rfl | assumption) ?_
  refine own_areturn rfl rfl (by first | rfl | assumption) d_asc_76 rfl rfl ?_
  refine ⟨rfl, ?_, b', hb'.imp id fun z => ⟨List.mem_append_right _ z.1, z.2⟩, (E3.wr W4).keep k5, chc, by omega, hcap, (fun q => by rw [qa] at q; cases q), (G1.other W4 (Or.inr s13)).keep k5 nb, ?_, ?_, (G4.other W4 (Or.inr s43)).keep k5 nb, ?_⟩
  · exact (((Keep.refl _ [t, b]).trans k3 (fun z hz => Or.inl (by cases List.mem_singleton.mp hz; simp))).wr W4 (Or.inl (by simp))).trans k5 (fun z hz => by cases List.mem_singleton.mp hz; exact hb'.elim (fun e => Or.inl (by rw [e]; simp)) (fun q => Or.inr q.2))
  · rw [qa]; exact (G2.other W4 (Or.inr s23)).keep k5 nb
  · rw [eL]; exact (G3.same W4).keep k5 nb
  · rw [qa]
    have e := own_settwo (own_ints (own_two cs)) (Value.int 0) (.int (own_bt c)) (.int (own_hb c)) (cap - cs.length - 1)
    rw [show (own_ints (own_two cs)).length = 2 * cs.length by simp [own_two_len], show cap - cs.length - 1 + 1 = cap - cs.length by omega] at e
    rw [e] at B5
    have e2 : own_ints (own_sbv (!false) (cs ++ [c])) ++ List.replicate (own_uw (!false) * (cap - (cs ++ [c]).length)) (Value.int 0) = own_ints (own_two cs) ++ [.int (own_bt c), .int (own_hb c)] ++ List.replicate (2 * (cap - cs.length - 1)) (.int 0) := by
      rw [eL]
      show own_ints (own_two (cs ++ [c])) ++ List.replicate (2 * (cap - (cs.length + 1))) (Value.int 0) = _
      rw [Nat.sub_sub]
      simp [own_ints, own_two]
    rw [e2]
    exact B5
theorem d_sac_0 : decode jdk_67_method_14_code 0 = .ok (.aload_n 0, 1) := by decide +kernel
theorem d_sac_1 : decode jdk_67_method_14_code 1 = .ok (.iload_n 1, 1) := by decide +kernel
theorem d_sac_2 : decode jdk_67_method_14_code 2 = .ok (.invokespecial 50, 3) := by decide +kernel
theorem d_sac_5 : decode jdk_67_method_14_code 5 = .ok (.pop, 1) := by decide +kernel
theorem d_sac_6 : decode jdk_67_method_14_code 6 = .ok (.aload_n 0, 1) := by decide +kernel
theorem d_sac_7 : decode jdk_67_method_14_code 7 = .ok (.areturn, 1) := by decide +kernel
abbrev M_sac : own_Mi := ((⟨"java/lang/StringBuilder", "append", "(C)Ljava/lang/StringBuilder;"⟩ : MethodName), jdk_67_method_14_code, 2, (Option.some (FieldType.object "java/lang/StringBuilder")), ({ frames := 7, cells := 1, slots := 4, locals := 102 } : Room))
theorem pn_sac : plainFor (own_Mi.y M_sac) = true := plainFor_of_name (by first | (simp [plainName, overriddenIn]; done) | decide +kernel)
set_option maxRecDepth 65536 in
set_option maxHeartbeats 40000000 in
theorem c_sac (K : own_Cx) (a0 : Array Value) (hw : ∀ d ∈ tables_1, d.before a0 K.Z = true) (hU : own_U16 K) (rf : Value) (hrf : rf.isRef = true) (SF : Sta K.Z K.Z.heap "jdk/internal/util/Preconditions" "SIOOBE_FORMATTER" "Ljava/util/function/BiFunction;" rf) (g : Int32) (SC : Sta K.Z K.Z.heap own_sC "COMPACT_STRINGS" "Z" (.int g)) (hg : ¬ g = 0) (t b : Addr) (c : Int32) (cs : List Int32) (cap : Nat) (h : Heap) (T : own_SB K.Z h t b cs cap) (hc : cap ≤ 2) (tb : b ≠ t) (c0 : 0 ≤ c.toInt) (c1 : c.toInt < 65536) (hn : cs.length + 1 ≤ cap) :
    own_Met K M_sac #[.ref t, .int c] [t, b] h (own_ret fun w h' xs => w = .ref t ∧ Keep h h' [t, b] ∧ ∃ b' : Addr, (b' = b ∨ (b' ∈ xs ∧ h.size ≤ b')) ∧ own_SB K.Z h' t b' (cs ++ [c]) cap) := by
  refine own_met_2_0 (M := M_sac) pn_sac rfl (by first | rfl | exact own_cat (by assumption)) (by first | rfl | exact own_cat (by assumption)) ?_
  refine own_aload_n (pc' := 1) rfl d_sac_0 rfl (by first | rfl | assumption) ?_
  refine own_iload_n (pc' := 2) rfl d_sac_1 rfl ?_
  refine own_up1v (M' := M_asc) d_sac_2 (pc' := 5) rfl (by decide) (tw_193 hw) (tw_121 hw) (tw_112 hw) rfl (tw_194 hw) (tw_89 hw) (tw_196 hw) (by decide) rfl (own_lenOf pd_25 rfl) rfl rfl rfl rfl (Ins.self T.1) (c_asc K a0 hw hU rf hrf SF g SC hg t b c cs cap h T hc tb c0 c1 hn) (by simp) ?_
  rintro w h1 xs ⟨rfl, k1, b', hb', T1⟩
  refine own_pop (pc' := 6) rfl d_sac_5 (by first | rfl | assumption) ?_
  refine own_aload_n (pc' := 7) rfl d_sac_6 rfl (by first | rfl | assumption) ?_
  refine own_areturn rfl rfl (by first | rfl | assumption) d_sac_7 rfl rfl ?_
  exact ⟨rfl, k1, b', hb'.imp id fun z => ⟨by simp [z.1], z.2⟩, T1⟩
theorem own_newarrayE {K : own_Cx} {M : own_Mi} {Q : own_Q} {pc pc' : Nat} {Ls : List Slot} {St : List Value} {sf : List Addr} {h : Heap} {cs sl : Nat} {a0 : Array Value} {aty : ArrayType} {ad : String} {n : Int32} {N cap : Nat} (had : "[" ++ (newarray.typeOf aty).toString = ad) (hp : pc + 2 = pc') (hd : decode M.b pc = .ok (.newarray aty, 2)) (w : (Jvm.Cond.arrayClass (newarray.typeOf aty)).before a0 K.Z = true) (hn : n.toInt = N) (hcap : N ≤ cap) (hb' : Nat.ble (cap * 8) 536870912 = true) (hc : Nat.ble (cs + 1) M.R.cells = true) (hs : Nat.ble (sl + cap) M.R.slots = true)
    (k : ∀ (a : Addr) (h' : Heap), @Eq Nat a h.size → Ext h h' → Exa K.Z h' a ad → own_Ary K.Z h' a (newarray.typeOf aty) (List.replicate N (defaultValue (newarray.typeOf aty))) → own_WP K M Q pc' Ls (.ref a :: St) (a :: sf) h' (cs + 1) (sl + cap)) : own_WP K M Q pc Ls (.int n :: St) sf h cs sl := by
  subst hp
  have hN : n.toNatClampNeg = N := by
    have : n.toNatClampNeg = n.toInt.toNat := rfl
    rw [this, hn]; rfl
  have h0 : ¬ n < 0 := fun z => by
    rw [Int32.lt_iff_toInt_lt, hn] at z
    have : (0 : Int32).toInt = 0 := rfl
    omega
  refine own_grow (P := fun h' => Exa K.Z h' h.size ad ∧ own_Ary K.Z h' h.size (newarray.typeOf aty) (List.replicate N (defaultValue (newarray.typeOf aty)))) (Nat.le_of_ble_eq_true hc) (Nat.le_of_ble_eq_true hs) (fun h' E P => k _ h' rfl E P.1 P.2) ?_
  intro p e s m args below meth c T locs cs' sl' B X hc' hs' eT
  obtain ⟨T', h', cA, X', e', E, A, EA, st⟩ := newPE X B.1 B.2.2.2.2.2.2.2.1 w eT (g := mkF m pc Ls.toArray (.int n :: St)) rfl (hb B.2.1 hd) rfl h0 (cap := cap) (by omega) (Nat.le_of_ble_eq_true hb') hc' hs' had
  have hlt := (back32 h0).2
  exact ⟨T', h', X', e', E, A.lt, ⟨EA, _, A, by simp [newA, hN], by rw [List.length_replicate, ← hN]; exact hlt⟩, st⟩
theorem own_cloneB {K : own_Cx} {M : own_Mi} {Q : own_Q} {pc pc' : Nat} {Ls : List Slot} {rest : List Value} {sf : List Addr} {h : Heap} {cs sl : Nat} {a0 : Array Value} {index cap : Nat} {a : Addr} {vs : List Value} (hp : pc + 3 = pc') (hd : decode M.b pc = .ok (.invokevirtual index, 3))
    (w1 : (Jvm.Cond.methodLink M.y.cls index ⟨"[B", "clone", "()Ljava/lang/Object;"⟩).before a0 K.Z = true) (w2 : (Jvm.Cond.sameMethod "[B" "java/lang/Object" "clone" "()Ljava/lang/Object;").before a0 K.Z = true) (w3 : (Jvm.Cond.native ⟨"java/lang/Object", "clone", "()Ljava/lang/Object;"⟩).before a0 K.Z = true) (w4 : (Jvm.Cond.instanceMethod ⟨"java/lang/Object", "clone", "()Ljava/lang/Object;"⟩).before a0 K.Z = true) (w5 : (Jvm.Cond.selects "[B" ⟨"[B", "clone", "()Ljava/lang/Object;"⟩ ⟨"java/lang/Object", "clone", "()Ljava/lang/Object;"⟩).before a0 K.Z = true) (w6 : (Jvm.Cond.castable "[B" "java/lang/Cloneable").before a0 K.Z = true)
    (hsz : Ls.length = M.mx) (hf : Nat.ble 1 M.R.frames = true) (hl : Nat.ble ((rest.map fun v => v.category).sum + 14) M.R.locals = true) (A : own_Ary K.Z h a .byte vs) (E : Exa K.Z h a "[B") (hby : own_Bys vs) (hcap : vs.length ≤ cap) (hc : Nat.ble (cs + 1) M.R.cells = true) (hs : Nat.ble (sl + cap) M.R.slots = true)
    (k : ∀ (b : Addr) (h' : Heap), @Eq Nat b h.size → Ext h h' → own_Ary K.Z h' b .byte vs → Exa K.Z h' b "[B" → own_WP K M Q pc' Ls (.ref b :: rest) (b :: sf) h' (cs + 1) (sl + cap)) : own_WP K M Q pc Ls (.ref a :: rest) sf h cs sl := by
  subst hp
  obtain ⟨cl, Ac, r1, r2⟩ := A
  have hF : FitC K.Z cl := fitC_of Ac fun i hi v hv => by
    have hv2 : vs[i]? = some v := by rw [r1] at hv; simpa using hv
    exact hby v (List.mem_of_getElem? hv2)
  refine own_grow (P := fun h' => own_Ary K.Z h' h.size .byte vs ∧ Exa K.Z h' h.size "[B") (Nat.le_of_ble_eq_true hc) (Nat.le_of_ble_eq_true hs) (fun h' E' P => k _ h' rfl E' P.1 P.2) ?_
  intro p e s m args below meth c T locs cs' sl' B X hc' hs' eT
  obtain ⟨T', h', X', e', E', A', EA, st⟩ := cloneA X B.1 B.2.2.2.2.2.2.2.1 B.2.2.2.1 w1 w2 w3 w4 w5 w6 eT Ac E hF (g := mkF m pc Ls.toArray (.ref a :: rest)) rfl (by rw [B.2.2.1, ← hsz]; simp) rfl (hb B.2.1 hd) (Nat.le_of_ble_eq_true hf) (W := (rest.map fun v => v.category).sum) (cap := cap) (by show 2 * 0 + _ ≤ _; omega) (Nat.le_of_ble_eq_true hl) (by rw [r1]; simpa using hcap) hc' hs'
  exact ⟨T', h', X', e', E', EA.lt, ⟨⟨_, A', r1, r2⟩, EA⟩, st⟩
theorem d_cor_0 : decode jdk_65_method_132_code 0 = .ok (.iload_n 1, 1) := by decide +kernel
theorem d_cor_1 : decode jdk_65_method_132_code 1 = .ok (.ifCond .ne 9, 3) := by decide +kernel
theorem d_cor_4 : decode jdk_65_method_132_code 4 = .ok (.iload_n 2, 1) := by decide +kernel
theorem d_cor_5 : decode jdk_65_method_132_code 5 = .ok (.aload_n 0, 1) := by decide +kernel
theorem d_cor_6 : decode jdk_65_method_132_code 6 = .ok (.arraylength, 1) := by decide +kernel
theorem d_cor_7 : decode jdk_65_method_132_code 7 = .ok (.if_icmp .eq 10, 3) := by decide +kernel
theorem d_cor_17 : decode jdk_65_method_132_code 17 = .ok (.aload_n 0, 1) := by decide +kernel
theorem d_cor_18 : decode jdk_65_method_132_code 18 = .ok (.invokevirtual 310, 3) := by decide +kernel
theorem d_cor_21 : decode jdk_65_method_132_code 21 = .ok (.checkcast 311, 3) := by decide +kernel
theorem d_cor_24 : decode jdk_65_method_132_code 24 = .ok (.areturn, 1) := by decide +kernel
abbrev M_cor : own_Mi := ((⟨"java/util/Arrays", "copyOfRange", "([BII)[B"⟩ : MethodName), jdk_65_method_132_code, 3, (Option.some (FieldType.array FieldType.byte)), ({ frames := 1, cells := 1, slots := 4, locals := 16 } : Room))
theorem pn_cor : plainFor (own_Mi.y M_cor) = true := plainFor_of_name (by first | (simp [plainName, overriddenIn]; done) | decide +kernel)
set_option maxRecDepth 65536 in
set_option maxHeartbeats 40000000 in
theorem c_corC (K : own_Cx) (a0 : Array Value) (hw : ∀ d ∈ tables_1, d.before a0 K.Z = true) (b : Addr) (t : Int32) (T : Nat) (vs : List Value) (h : Heap) (ht : t.toInt = T) (hT : T = vs.length) (hcap : T ≤ 4) (hby : own_Bys vs) (B : own_Ary K.Z h b .byte vs) (XB : Exa K.Z h b "[B") :
    own_Met K M_cor #[.ref b, .int 0, .int t] [] h (own_ret fun w h' xs => ∃ b' : Addr, w = .ref b' ∧ Ext h h' ∧ h.size ≤ b' ∧ b' ∈ xs ∧ own_Ary K.Z h' b' .byte vs) := by
  refine own_met_3_0 (M := M_cor) pn_cor rfl (by first | rfl | exact own_cat (by assumption)) (by first | rfl | exact own_cat (by assumption)) (by first | rfl | exact own_cat (by assumption)) ?_
  refine own_iload_n (pc' := 1) rfl d_cor_0 rfl ?_
  refine own_ifne (pcT := 10) (pcF := 4) d_cor_1 (by decide) (by decide) rfl (fun q => ?_) (fun q => ?_)
  · exact absurd rfl q
  refine own_iload_n (pc' := 5) rfl d_cor_4 rfl ?_
  refine own_aload_n (pc' := 6) rfl d_cor_5 rfl (by first | rfl | assumption) ?_
  refine own_arrlen (z := t) (pc' := 7) rfl d_cor_6 B (by rw [ht, hT]) ?_
  refine own_icmpeq (pcT := 17) (pcF := 10) d_cor_7 (by decide) (by decide) rfl (fun q2 => ?_) (fun q2 => ?_)
  rotate_left 1
  · exact absurd rfl q2
  refine own_aload_n (pc' := 18) rfl d_cor_17 rfl (by first | rfl | assumption) ?_
  refine own_cloneB (pc' := 21) rfl d_cor_18 (tw_134 hw) (tw_135 hw) (tw_139 hw) (tw_137 hw) (tw_138 hw) (tw_140 hw) rfl rfl rfl B XB hby (cap := 4) (by omega) rfl rfl ?_
  intro b' h1 eb E1 B1 X1
  refine own_castY (pc' := 24) rfl d_cor_21 (tw_141 hw) (Ins.self X1) ?_
  refine own_areturn rfl rfl (by first | rfl | assumption) d_cor_24 rfl rfl ?_
  exact ⟨b', rfl, E1, by omega, by simp, B1⟩
set_option maxRecDepth 65536 in
set_option maxHeartbeats 40000000 in
theorem c_nbfE (K : own_Cx) (a0 : Array Value) (hw : ∀ d ∈ tables_1, d.before a0 K.Z = true) (n : Int32) (N : Nat) (h : Heap) (hn : n.toInt = N) (hN : N ≤ 2) :
    own_Met K M_nbf #[.int n] [] h (own_ret fun w h' xs => ∃ b : Addr, w = .ref b ∧ Ext h h' ∧ h.size ≤ b ∧ b ∈ xs ∧ Exa K.Z h' b "[B" ∧ own_Ary K.Z h' b .byte (List.replicate (2 * N) (.int 0))) := by
  refine own_met_1_0 (M := M_nbf) pn_nbf rfl (by first | rfl | exact own_cat (by assumption)) ?_
  refine own_iload_n (pc' := 1) rfl d_nbf_0 rfl ?_
  refine own_static1v (M' := M_nbl) d_nbf_1 (pc' := 4) rfl (tw_222 hw) (tw_223 hw) (tw_211 hw) (tw_224 hw) (by decide) rfl (own_lenOf pd_0 rfl) rfl rfl rfl rfl (c_nbl K a0 hw n N h hn (by omega)) (by simp) ?_
  rintro w h1 xs ⟨r, rfl, hr, rfl⟩
  refine own_newarrayE (ad := "[B") (by decide) (pc' := 6) rfl d_nbf_4 (tw_33 hw) (N := (2 * N)) (cap := 4) hr (by omega) rfl rfl rfl ?_
  intro b h2 eb E2 XE B2
  refine own_areturn rfl rfl (by first | rfl | assumption) d_nbf_6 rfl rfl ?_
  exact ⟨b, rfl, E2, by omega, by simp, XE, B2⟩
set_option maxRecDepth 65536 in
set_option maxHeartbeats 40000000 in
theorem c_abiE (K : own_Cx) (a0 : Array Value) (hw : ∀ d ∈ tables_1, d.before a0 K.Z = true) (g : Int32) (SC : Sta K.Z K.Z.heap own_sC "COMPACT_STRINGS" "Z" (.int g)) (hg : ¬ g = 0) (t : Addr) (n : Int32) (cap : Nat) (h : Heap) (hn : n.toInt = cap) (hcap : cap ≤ 2) (E : Exa K.Z h t own_bC) (F1 : Fld K.Z h t own_bA "value" "[B" .null) (F2 : Fld K.Z h t own_bA "coder" "B" (.int 0)) (F3 : Fld K.Z h t own_bA "count" "I" (.int 0)) (F4 : Fld K.Z h t own_bA "maybeLatin1" "Z" (.int 0)) :
    own_Met K M_abi #[.ref t, .int n] [t] h (own_void fun h' xs => Keep h h' [t] ∧ ∃ b : Addr, b ∈ xs ∧ h.size ≤ b ∧ Exa K.Z h' b "[B" ∧ own_SB K.Z h' t b [] cap) := by
  obtain ⟨⟨s12, s13, s23⟩, s41, s42, s43⟩ := own_sslots hw
  refine own_met_2_0 (M := M_abi) pn_abi rfl (by first | rfl | exact own_cat (by assumption)) (by first | rfl | exact own_cat (by assumption)) ?_
  refine own_aload_n (pc' := 1) rfl d_abi_0 rfl (by first | rfl | assumption) ?_
  refine own_initO (pc' := 4) rfl d_abi_1 (tw_91 hw) (tw_30 hw) (tw_31 hw) rfl rfl rfl ?_
  refine own_getS (pc' := 7) rfl d_abi_4 (tw_92 hw) Via.refl (by assumption) ?_
  refine own_ifeq (pcT := 25) (pcF := 10) d_abi_7 (by decide) (by decide) rfl (fun q => ?_) (fun q => ?_)
  · exact absurd q hg
  · skip
    refine own_aload_n (pc' := 11) rfl d_abi_10 rfl (by first | rfl | assumption) ?_
    refine own_iload_n (pc' := 12) rfl d_abi_11 rfl ?_
    refine own_newarrayE (ad := "[B") (by decide) (pc' := 14) rfl d_abi_12 (tw_33 hw) (N := cap) (cap := 2) hn hcap rfl rfl rfl ?_
    intro b h1 eb E1 XE B1
    have tb : b ≠ t := by show @Ne Nat b t; have : @LT.lt Nat _ _ _ := E.lt; omega
    refine own_putF (pc' := 17) rfl d_abi_14 (tw_93 hw) Via.refl (Or.inl (tw_94 hw)) (tw_69 hw) (ty := (.array .byte)) (by decide) rfl rfl (F1.ext E1) (E.ext E1) (by simp) ?_
    intro h2 W2
    have G1 := (F1.ext E1).same W2
    have G2 := (F2.ext E1).other W2 (Or.inr (Ne.symm s12))
    have G3 := (F3.ext E1).other W2 (Or.inr (Ne.symm s13))
    have G4 := (F4.ext E1).other W2 (Or.inr s41)
    have E2 := (E.ext E1).wr W2
    have B2 := B1.other W2 tb
    refine own_aload_n (pc' := 18) rfl d_abi_17 rfl (by first | rfl | assumption) ?_
    refine own_iconst (v := (0 : Int32)) (pc' := 19) rfl d_abi_18 rfl ?_
    refine own_putF (pc' := 22) rfl d_abi_19 (tw_95 hw) Via.refl (Or.inl (tw_96 hw)) (tw_69 hw) (ty := .byte) (by decide) rfl rfl G2 E2 (by simp) ?_
    intro h3 W3
    refine own_goto (pc' := 38) d_abi_22 (by decide) (by decide) ?_
    refine own_return rfl d_abi_38 rfl rfl ?_
    exact ⟨((((Keep.refl h [t]).ext E1).wr W2 (Or.inl (List.mem_singleton.mpr rfl))).wr W3 (Or.inl (List.mem_singleton.mpr rfl))), b, by simp, by omega, (XE.wr W2).wr W3, E2.wr W3, (fun c hc => nomatch hc), Nat.zero_le _, by omega, fun _ => rfl, G1.other W3 (Or.inr s12), G2.same W3, G3.other W3 (Or.inr (Ne.symm s23)), G4.other W3 (Or.inr s42), by
      have e : own_ints (own_sbv (!own_lat []) []) ++ List.replicate (own_uw (!own_lat []) * (cap - ([] : List Int32).length)) (Value.int 0) = List.replicate cap (.int 0) := by
        show [] ++ List.replicate (1 * (cap - 0)) (Value.int 0) = _
        simp
      rw [e]
      exact B2.other W3 tb⟩
set_option maxRecDepth 65536 in
set_option maxHeartbeats 40000000 in
theorem c_sbiE (K : own_Cx) (a0 : Array Value) (hw : ∀ d ∈ tables_1, d.before a0 K.Z = true) (g : Int32) (SC : Sta K.Z K.Z.heap own_sC "COMPACT_STRINGS" "Z" (.int g)) (hg : ¬ g = 0) (t : Addr) (n : Int32) (cap : Nat) (h : Heap) (hn : n.toInt = cap) (hcap : cap ≤ 2) (E : Exa K.Z h t own_bC) (F1 : Fld K.Z h t own_bA "value" "[B" .null) (F2 : Fld K.Z h t own_bA "coder" "B" (.int 0)) (F3 : Fld K.Z h t own_bA "count" "I" (.int 0)) (F4 : Fld K.Z h t own_bA "maybeLatin1" "Z" (.int 0)) :
    own_Met K M_sbi #[.ref t, .int n] [t] h (own_void fun h' xs => Keep h h' [t] ∧ ∃ b : Addr, b ∈ xs ∧ h.size ≤ b ∧ Exa K.Z h' b "[B" ∧ own_SB K.Z h' t b [] cap) := by
  refine own_met_2_0 (M := M_sbi) pn_sbi rfl (by first | rfl | exact own_cat (by assumption)) (by first | rfl | exact own_cat (by assumption)) ?_
  refine own_aload_n (pc' := 1) rfl d_sbi_0 rfl (by first | rfl | assumption) ?_
  refine own_iload_n (pc' := 2) rfl d_sbi_1 rfl ?_
  refine own_special1n (M' := M_abi) d_sbi_2 (pc' := 5) rfl rfl rfl (tw_85 hw) (tw_86 hw) (tw_89 hw) (tw_90 hw) (by decide) rfl (own_lenOf pd_18 rfl) rfl rfl rfl rfl (c_abiE K a0 hw g SC hg t n cap h hn hcap E F1 F2 F3 F4) (by simp) ?_
  rintro h1 xs ⟨k1, b, hb1, hb2, X1, S1⟩
  refine own_return rfl d_sbi_5 rfl rfl ?_
  exact ⟨k1, b, by simp [hb1], hb2, X1, S1⟩
set_option maxRecDepth 65536 in
set_option maxHeartbeats 40000000 in
theorem c_ainfE (K : own_Cx) (a0 : Array Value) (hw : ∀ d ∈ tables_1, d.before a0 K.Z = true) (hU : own_U16 K) (rf : Value) (hrf : rf.isRef = true) (SF : Sta K.Z K.Z.heap "jdk/internal/util/Preconditions" "SIOOBE_FORMATTER" "Ljava/util/function/BiFunction;" rf) (g : Int32) (SC : Sta K.Z K.Z.heap own_sC "COMPACT_STRINGS" "Z" (.int g)) (hg : ¬ g = 0) (t b : Addr) (u : Bool) (cs : List Int32) (cap : Nat) (h : Heap) (S : own_SBx K.Z h t b u cs cap) (hc : cap ≤ 2) (tb : b ≠ t) (XB : Exa K.Z h b "[B") :
    own_Met K M_ainf #[.ref t] [t] h (own_void fun h' xs => Keep h h' [t] ∧ ∃ b' : Addr, (b' = b ∨ (b' ∈ xs ∧ h.size ≤ b')) ∧ Exa K.Z h' b' "[B" ∧ own_SBx K.Z h' t b' true cs cap) := by
  have S' := S
  obtain ⟨E, hcs, hle, hcap, hlat, F1, F2, F3, F4, B⟩ := S
  obtain ⟨⟨s12, s13, s23⟩, s41, s42, s43⟩ := own_sslots hw
  have hz : (cap.toInt32).toInt = cap := own_lit _ (by omega)
  have hzc : (cs.length.toInt32).toInt = cs.length := own_lit _ (by omega)
  have lt : @LT.lt Nat _ _ _ := E.lt
  refine own_met_1_1 (M := M_ainf) pn_ainf rfl (by first | rfl | exact own_cat (by assumption)) ?_
  refine own_aload_n (pc' := 1) rfl d_ainf_0 rfl (by first | rfl | assumption) ?_
  refine own_virtual0v (M' := M_ail) d_ainf_1 (pc' := 4) rfl (tw_202 hw) (tw_126 hw) (tw_128 hw) (tw_127 hw) (tw_89 hw) (tw_129 hw) (by decide) rfl (own_lenOf pd_13 rfl) rfl rfl rfl rfl E (c_ail K a0 hw g SC hg t u h F2) (by simp) ?_
  rintro w h1 xs1 ⟨rfl, rfl⟩
  cases u
  · have hl := hlat rfl
    have hlb : @LT.lt Nat _ _ _ := B.lt
    have hlen : (own_ints (own_sbv false cs) ++ List.replicate (own_uw false * (cap - cs.length)) (Value.int 0)).length = cap := by
      rw [List.length_append, own_sbv_len, List.length_replicate]
      show 1 * _ + 1 * _ = _
      omega
    refine own_ifne (pcT := 8) (pcF := 7) d_ainf_4 (by decide) (by decide) rfl (fun q => ?_) (fun q => ?_)
    rotate_left 1
    · exact absurd q (by decide)
    refine own_aload_n (pc' := 9) rfl d_ainf_8 rfl (by first | rfl | assumption) ?_
    refine own_getF (pc' := 12) rfl d_ainf_9 (tw_93 hw) Via.refl F1 ?_
    refine own_arrlen (z := cap.toInt32) (pc' := 13) rfl d_ainf_12 B (by rw [hz, hlen]) ?_
    refine own_static1v (M' := M_nbf) d_ainf_13 (pc' := 16) rfl (tw_257 hw) (tw_220 hw) (tw_211 hw) (tw_221 hw) (by decide) rfl (own_lenOf pd_1 rfl) rfl rfl rfl rfl (c_nbfE K a0 hw _ cap _ hz hc) (by simp) ?_
    rintro w h2 xs2 ⟨b2, rfl, E2, hb2, hbx2, X2, B2⟩
    have bb2 : b ≠ b2 := by show @Ne Nat b b2; omega
    have tb2 : b2 ≠ t := by show @Ne Nat b2 t; omega
    refine own_astore_n1 (pc' := 17) rfl d_ainf_16 (by first | exact One.u | exact One.val rfl | assumption | exact One.val (by assumption)) (by first | rfl | assumption) ?_
    refine own_aload_n (pc' := 18) rfl d_ainf_17 rfl (by first | rfl | assumption) ?_
    refine own_getF (pc' := 21) rfl d_ainf_18 (tw_93 hw) Via.refl (F1.ext E2) ?_
    refine own_iconst (v := (0 : Int32)) (pc' := 22) rfl d_ainf_21 rfl ?_
    refine own_aload_n (pc' := 23) rfl d_ainf_22 rfl (by first | rfl | assumption) ?_
    refine own_iconst (v := (0 : Int32)) (pc' := 24) rfl d_ainf_23 rfl ?_
    refine own_aload_n (pc' := 25) rfl d_ainf_24 rfl (by first | rfl | assumption) ?_
    refine own_getF (pc' := 28) rfl d_ainf_25 (tw_123 hw) Via.refl (F3.ext E2) ?_
    refine own_static5n (M' := M_linf) d_ainf_28 (pc' := 31) rfl (tw_258 hw) (tw_259 hw) (tw_151 hw) (tw_260 hw) (by decide) rfl (own_lenOf pd_22 rfl) rfl rfl rfl rfl (c_linf K a0 hw hU rf hrf SF b b2 [] _ cs 0 cap 0 _ h2 (B.ext E2) (by simpa using B2) rfl rfl hzc hle hcs hl bb2 (by omega)) (by intro z hz; cases List.mem_singleton.mp hz; simp [hbx2]) ?_
    rintro h3 xs3 ⟨k3, B3⟩
    have nb2 : t ∉ [b2] := ninS (Ne.symm tb2) nin0
    refine own_aload_n (pc' := 32) rfl d_ainf_31 rfl (by first | rfl | assumption) ?_
    refine own_aload_n (pc' := 33) rfl d_ainf_32 rfl (by first | rfl | assumption) ?_
    refine own_putF (pc' := 36) rfl d_ainf_33 (tw_93 hw) Via.refl (Or.inl (tw_94 hw)) (tw_69 hw) (ty := (.array .byte)) (by decide) rfl rfl ((F1.ext E2).keep k3 nb2) ((E.ext E2).keep k3) (by simp) ?_
    intro h4 W4
    refine own_aload_n (pc' := 37) rfl d_ainf_36 rfl (by first | rfl | assumption) ?_
    refine own_iconst (v := (1 : Int32)) (pc' := 38) rfl d_ainf_37 rfl ?_
    refine own_putF (pc' := 41) rfl d_ainf_38 (tw_95 hw) Via.refl (Or.inl (tw_96 hw)) (tw_69 hw) (ty := .byte) (by decide) rfl rfl (((F2.ext E2).keep k3 nb2).other W4 (Or.inr (Ne.symm s12))) (((E.ext E2).keep k3).wr W4) (by simp) ?_
    intro h5 W5
    refine own_return rfl d_ainf_41 rfl rfl ?_
    refine ⟨?_, b2, Or.inr ⟨by simp [hbx2], by omega⟩, ((X2.keep k3).wr W4).wr W5, (((E.ext E2).keep k3).wr W4).wr W5, hcs, hle, hcap, (fun q => by cases q), (((F1.ext E2).keep k3 nb2).same W4).other W5 (Or.inr s12), (((F2.ext E2).keep k3 nb2).other W4 (Or.inr (Ne.symm s12))).same W5, (((F3.ext E2).keep k3 nb2).other W4 (Or.inr (Ne.symm s13))).other W5 (Or.inr (Ne.symm s23)), (((F4.ext E2).keep k3 nb2).other W4 (Or.inr s41)).other W5 (Or.inr s42), ?_⟩
    · exact ((((Keep.refl _ [t]).ext E2).trans k3 (fun x hx => Or.inr (by cases List.mem_singleton.mp hx; exact hb2))).wr W4 (Or.inl (List.mem_singleton.mpr rfl))).wr W5 (Or.inl (List.mem_singleton.mpr rfl))
    · have B3' : own_Ary K.Z h3 b2 .byte (own_ints (own_sbv true cs) ++ List.replicate (own_uw true * (cap - cs.length)) (Value.int 0)) := B3
      exact (B3'.other W4 tb2).other W5 tb2
  · skip
    refine own_ifne (pcT := 8) (pcF := 7) d_ainf_4 (by decide) (by decide) rfl (fun q => ?_) (fun q => ?_)
    · exact absurd rfl q
    refine own_return rfl d_ainf_7 rfl rfl ?_
    exact ⟨Keep.refl _ _, b, Or.inl rfl, XB, S'⟩
set_option maxRecDepth 65536 in
set_option maxHeartbeats 40000000 in
theorem c_ascE (K : own_Cx) (a0 : Array Value) (hw : ∀ d ∈ tables_1, d.before a0 K.Z = true) (hU : own_U16 K) (rf : Value) (hrf : rf.isRef = true) (SF : Sta K.Z K.Z.heap "jdk/internal/util/Preconditions" "SIOOBE_FORMATTER" "Ljava/util/function/BiFunction;" rf) (g : Int32) (SC : Sta K.Z K.Z.heap own_sC "COMPACT_STRINGS" "Z" (.int g)) (hg : ¬ g = 0) (t b : Addr) (c : Int32) (cs : List Int32) (cap : Nat) (h : Heap) (T : own_SB K.Z h t b cs cap) (hc : cap ≤ 2) (tb : b ≠ t) (c0 : 0 ≤ c.toInt) (c1 : c.toInt < 65536) (hn : cs.length + 1 ≤ cap) (XB : Exa K.Z h b "[B") :
    own_Met K M_asc #[.ref t, .int c] [t, b] h (own_ret fun w h' xs => w = .ref t ∧ Keep h h' [t, b] ∧ ∃ b' : Addr, (b' = b ∨ (b' ∈ xs ∧ h.size ≤ b')) ∧ Exa K.Z h' b' "[B" ∧ own_SB K.Z h' t b' (cs ++ [c]) cap) := by
  have T' := T
  obtain ⟨E, hcs, hle, hcap, hlat, F1, F2, F3, F4, B⟩ := T
  have v1 : (1 : Int32).toInt = 1 := rfl
  have hzc : (cs.length.toInt32).toInt = cs.length := own_lit _ (by omega)
  have hza := own_nadd hzc (n := 1) v1 (by omega)
  have hzs : ((cs.length + 1).toInt32).toInt = ((cs.length + 1 : Nat) : Int) := own_lit _ (by omega)
  have eL : (cs ++ [c]).length = cs.length + 1 := by simp
  have chc : own_Chs (cs ++ [c]) := own_chs_app hcs (fun d hd => by cases List.mem_singleton.mp hd; exact ⟨c0, c1⟩)
  have ltt : @LT.lt Nat _ _ _ := E.lt
  obtain ⟨⟨s12, s13, s23⟩, s41, s42, s43⟩ := own_sslots hw
  refine own_met_2_0 (M := M_asc) pn_asc rfl (by first | rfl | exact own_cat (by assumption)) (by first | rfl | exact own_cat (by assumption)) ?_
  refine own_aload_n (pc' := 1) rfl d_asc_0 rfl (by first | rfl | assumption) ?_
  refine own_aload_n (pc' := 2) rfl d_asc_1 rfl (by first | rfl | assumption) ?_
  refine own_getF (pc' := 5) rfl d_asc_2 (tw_123 hw) Via.refl F3 ?_
  refine own_iconst (v := (1 : Int32)) (pc' := 6) rfl d_asc_5 rfl ?_
  refine own_iadd (pc' := 7) rfl d_asc_6 ?_
  rw [hza]
  refine own_virtual1n (M' := M_ens) d_asc_7 (pc' := 10) rfl (tw_197 hw) (own_decl (tw_198 hw) (tw_201 hw)) (tw_200 hw) (tw_198 hw) (tw_89 hw) (tw_201 hw) (by decide) rfl (own_lenOf pd_18 rfl) rfl rfl rfl rfl E (c_ens K a0 hw t b _ cs cap _ h T' (by rw [hzs]; omega) (by rw [hzs]; omega)) (by simp) ?_
  rintro h1 xs1 rfl
  refine own_aload_n (pc' := 11) rfl d_asc_10 rfl (by first | rfl | assumption) ?_
  refine own_virtual0v (M' := M_ail) d_asc_11 (pc' := 14) rfl (tw_202 hw) (tw_126 hw) (tw_128 hw) (tw_127 hw) (tw_89 hw) (tw_129 hw) (by decide) rfl (own_lenOf pd_13 rfl) rfl rfl rfl rfl E (c_ail K a0 hw g SC hg t _ _ F2) (by simp) ?_
  rintro w h2 xs2 ⟨rfl, rfl⟩
  suffices wide : ∀ (b' : Addr) (h3 : Heap) (sf : List Addr) (nc : Nat), own_lat (cs ++ [c]) = false → own_SBx K.Z h3 t b' true cs cap → Exa K.Z h3 b' "[B" → Keep h2 h3 [t] → b' ≠ t → (b' = b ∨ (b' ∈ sf ∧ h2.size ≤ b')) → t ∈ sf → b ∈ sf → own_WP K M_asc (own_ret fun w h' xs => w = .ref t ∧ Keep h2 h' [t, b] ∧ ∃ b' : Addr, (b' = b ∨ (b' ∈ xs ∧ h2.size ≤ b')) ∧ Exa K.Z h' b' "[B" ∧ own_SB K.Z h' t b' (cs ++ [c]) cap) 56 [.val (.ref t), .val (.int c)] [] sf h3 1 4 by
    cases ql : own_lat cs
    · have qa : own_lat (cs ++ [c]) = false := by rw [own_lat_app, ql]; rfl
      refine own_ifeq (pcT := 45) (pcF := 17) d_asc_14 (by decide) (by decide) rfl (fun q => ?_) (fun q => ?_)
      rotate_left 1
      · exact absurd rfl q
      refine own_aload_n (pc' := 46) rfl d_asc_45 rfl (by first | rfl | assumption) ?_
      refine own_virtual0v (M' := M_ail) d_asc_46 (pc' := 49) rfl (tw_202 hw) (tw_126 hw) (tw_128 hw) (tw_127 hw) (tw_89 hw) (tw_129 hw) (by decide) rfl (own_lenOf pd_13 rfl) rfl rfl rfl rfl E (c_ail K a0 hw g SC hg t _ _ F2) (by simp) ?_
      rintro w h3 xs3 ⟨rfl, rfl⟩
      rw [ql]
      refine own_ifeq (pcT := 56) (pcF := 52) d_asc_49 (by decide) (by decide) rfl (fun q2 => ?_) (fun q2 => ?_)
      rotate_left 1
      · exact absurd rfl q2
      have T2 := T'
      rw [own_SB, ql] at T2
      exact own_weak (wide b _ _ 0 qa T2 XB (Keep.refl _ _) tb (Or.inl rfl) (by simp) (by simp)) (fun x hx => hx) (by exact Nat.le_of_ble_eq_true rfl) (by exact Nat.le_of_ble_eq_true rfl)
    · skip
      refine own_ifeq (pcT := 45) (pcF := 17) d_asc_14 (by decide) (by decide) rfl (fun q => ?_) (fun q => ?_)
      · exact absurd q (by decide)
      refine own_iload_n (pc' := 18) rfl d_asc_17 rfl ?_
      refine own_static1v (M' := M_cen) d_asc_18 (pc' := 21) rfl (tw_203 hw) (tw_159 hw) (tw_151 hw) (tw_160 hw) (by decide) rfl (own_lenOf pd_15 rfl) rfl rfl rfl rfl (c_cen K a0 hw c _) (by simp) ?_
      rintro w h3 xs3 ⟨rfl, rfl⟩
      by_cases hl : c.toInt < 256
      · have qa : own_lat (cs ++ [c]) = true := by rw [own_lat_app, ql]; simp [own_lat, hl]
        rw [ql] at B
        have B : own_Ary K.Z h3 b .byte (own_ints (cs.map own_bt) ++ List.replicate (1 * (cap - cs.length)) (.int 0)) := B
        rw [Nat.one_mul, show cap - cs.length = cap - cs.length - 1 + 1 by omega] at B
        rw [if_pos hl]
        refine own_ifeq (pcT := 45) (pcF := 24) d_asc_21 (by decide) (by decide) rfl (fun q2 => ?_) (fun q2 => ?_)
        · exact absurd q2 (by decide)
        refine own_aload_n (pc' := 25) rfl d_asc_24 rfl (by first | rfl | assumption) ?_
        refine own_getF (pc' := 28) rfl d_asc_25 (tw_93 hw) Via.refl F1 ?_
        refine own_aload_n (pc' := 29) rfl d_asc_28 rfl (by first | rfl | assumption) ?_
        refine own_dup (pc' := 30) rfl d_asc_29 (by first | rfl | assumption) ?_
        refine own_getF (pc' := 33) rfl d_asc_30 (tw_123 hw) Via.refl F3 ?_
        refine own_dup_x1 (pc' := 34) rfl d_asc_33 rfl rfl ?_
        refine own_iconst (v := (1 : Int32)) (pc' := 35) rfl d_asc_34 rfl ?_
        refine own_iadd (pc' := 36) rfl d_asc_35 ?_
        rw [hza]
        refine own_putF (pc' := 39) rfl d_asc_36 (tw_123 hw) Via.refl (Or.inl (tw_124 hw)) (tw_69 hw) (ty := .int) (by decide) rfl rfl F3 E (by simp) ?_
        intro h4 W4
        refine own_iload_n (pc' := 40) rfl d_asc_39 rfl ?_
        refine own_i2b (pc' := 41) rfl d_asc_40 ?_
        refine own_bastore (pc' := 42) rfl d_asc_41 (B.other W4 tb) (i := cs.length) hzc (by simp) (own_bt_nar c) (by simp) ?_
        intro h5 k5 B5
        have nb : t ∉ [b] := ninS (Ne.symm tb) nin0
        refine own_goto (pc' := 75) d_asc_42 (by decide) (by decide) ?_
        refine own_aload_n (pc' := 76) rfl d_asc_75 rfl (by first | rfl | assumption) ?_
        refine own_areturn rfl rfl (by first | rfl | assumption) d_asc_76 rfl rfl ?_
        refine ⟨rfl, ?_, b, Or.inl rfl, (XB.wr W4).keep k5, (E.wr W4).keep k5, chc, by omega, hcap, (fun _ => qa), (F1.other W4 (Or.inr s13)).keep k5 nb, ?_, ?_, (F4.other W4 (Or.inr s43)).keep k5 nb, ?_⟩
        · exact ((Keep.refl _ [t, b]).wr W4 (Or.inl (by simp))).trans k5 (fun z hz => Or.inl (by cases List.mem_singleton.mp hz; simp))
        · rw [qa]; rw [ql] at F2; exact (F2.other W4 (Or.inr s23)).keep k5 nb
        · rw [eL]; exact (F3.same W4).keep k5 nb
        · rw [qa]
          have e := own_setmid (own_ints (cs.map own_bt)) (Value.int 0) (.int (own_bt c)) (cap - cs.length - 1)
          rw [show (own_ints (cs.map own_bt)).length = cs.length by simp] at e
          rw [e] at B5
          have e2 : own_ints (own_sbv (!true) (cs ++ [c])) ++ List.replicate (own_uw (!true) * (cap - (cs ++ [c]).length)) (Value.int 0) = own_ints (cs.map own_bt) ++ [.int (own_bt c)] ++ List.replicate (cap - cs.length - 1) (.int 0) := by
            rw [eL]
            show own_ints ((cs ++ [c]).map own_bt) ++ List.replicate (1 * (cap - (cs.length + 1))) (Value.int 0) = _
            rw [Nat.one_mul, Nat.sub_sub]
            simp [own_ints]
          rw [e2]
          exact B5
      · have qa : own_lat (cs ++ [c]) = false := by rw [own_lat_app, ql]; simp [own_lat]; omega
        rw [if_neg hl]
        refine own_ifeq (pcT := 45) (pcF := 24) d_asc_21 (by decide) (by decide) rfl (fun q2 => ?_) (fun q2 => ?_)
        rotate_left 1
        · exact absurd rfl q2
        refine own_aload_n (pc' := 46) rfl d_asc_45 rfl (by first | rfl | assumption) ?_
        refine own_virtual0v (M' := M_ail) d_asc_46 (pc' := 49) rfl (tw_202 hw) (tw_126 hw) (tw_128 hw) (tw_127 hw) (tw_89 hw) (tw_129 hw) (by decide) rfl (own_lenOf pd_13 rfl) rfl rfl rfl rfl E (c_ail K a0 hw g SC hg t _ _ F2) (by simp) ?_
        rintro w h4 xs4 ⟨rfl, rfl⟩
        rw [ql]
        refine own_ifeq (pcT := 56) (pcF := 52) d_asc_49 (by decide) (by decide) rfl (fun q3 => ?_) (fun q3 => ?_)
        · exact absurd q3 (by decide)
        refine own_aload_n (pc' := 53) rfl d_asc_52 rfl (by first | rfl | assumption) ?_
        refine own_virtual0n (M' := M_ainf) d_asc_53 (pc' := 56) rfl (tw_252 hw) (own_decl (tw_253 hw) (tw_256 hw)) (tw_255 hw) (tw_253 hw) (tw_89 hw) (tw_256 hw) (by decide) rfl (own_lenOf pd_24 rfl) rfl rfl rfl rfl E (c_ainfE K a0 hw hU rf hrf SF g SC hg t b _ cs cap _ T' hc tb XB) (by simp) ?_
        rintro h5 xs5 ⟨k5, b', hb', X5, T5⟩
        have bt : b' ≠ t := by
          rcases hb' with rfl | ⟨-, z⟩
          · exact tb
          · exact own_ne (by omega)
        exact own_weak (wide b' h5 _ 0 qa T5 X5 k5 bt (hb'.imp id fun z => ⟨List.mem_append_left _ z.1, z.2⟩) (by simp) (by simp)) (fun x hx => hx) (by exact Nat.le_of_ble_eq_true rfl) (by exact Nat.le_of_ble_eq_true rfl)
  intro b' h3 sf nc qa T3 XB3 k3 bt hb' htm hbm
  obtain ⟨E3, -, -, -, -, G1, G2, G3, G4, B3⟩ := T3
  have B3 : own_Ary K.Z h3 b' .byte (own_ints (own_two cs) ++ List.replicate (2 * (cap - cs.length)) (.int 0)) := B3
  have hb'm : b' ∈ sf := hb'.elim (fun e => e ▸ hbm) (fun z => z.1)
  refine own_aload_n (pc' := 57) rfl d_asc_56 rfl (by first | rfl | assumption) ?_
  refine own_getF (pc' := 60) rfl d_asc_57 (tw_93 hw) Via.refl G1 ?_
  refine own_aload_n (pc' := 61) rfl d_asc_60 rfl (by first | rfl | assumption) ?_
  refine own_dup (pc' := 62) rfl d_asc_61 (by first | rfl | assumption) ?_
  refine own_getF (pc' := 65) rfl d_asc_62 (tw_123 hw) Via.refl G3 ?_
  refine own_dup_x1 (pc' := 66) rfl d_asc_65 rfl rfl ?_
  refine own_iconst (v := (1 : Int32)) (pc' := 67) rfl d_asc_66 rfl ?_
  refine own_iadd (pc' := 68) rfl d_asc_67 ?_
  rw [hza]
  refine own_putF (pc' := 71) rfl d_asc_68 (tw_123 hw) Via.refl (Or.inl (tw_124 hw)) (tw_69 hw) (ty := .int) (by decide) rfl rfl G3 E3 htm ?_
  intro h4 W4
  refine own_iload_n (pc' := 72) rfl d_asc_71 rfl ?_
  refine own_static3n (M' := M_pcs) d_asc_72 (pc' := 75) rfl (tw_273 hw) (tw_274 hw) (tw_211 hw) (tw_275 hw) (by decide) rfl (own_lenOf pd_2 rfl) rfl rfl rfl rfl (c_pcs K a0 hw hU rf hrf SF b' _ c cs.length cap _ h4 hzc (by omega) (by rw [List.length_append]; simp [own_two_len]; omega) (by omega) (B3.other W4 bt)) (by intro z hz; cases List.mem_singleton.mp hz; exact hb'm) ?_
  rintro h5 xs5 ⟨k5, B5⟩
  have nb : t ∉ [b'] := ninS (Ne.symm bt) nin0
  refine own_aload_n (pc' := 76) rfl d_asc_75 rfl (by first | rfl | assumption) ?_
  refine own_areturn rfl rfl (by first | rfl | assumption) d_asc_76 rfl rfl ?_
  refine ⟨rfl, ?_, b', hb'.imp id fun z => ⟨List.mem_append_right _ z.1, z.2⟩, (XB3.wr W4).keep k5, (E3.wr W4).keep k5, chc, by omega, hcap, (fun q => by rw [qa] at q; cases q), (G1.other W4 (Or.inr s13)).keep k5 nb, ?_, ?_, (G4.other W4 (Or.inr s43)).keep k5 nb, ?_⟩
  · exact (((Keep.refl _ [t, b]).trans k3 (fun z hz => Or.inl (by cases List.mem_singleton.mp hz; simp))).wr W4 (Or.inl (by simp))).trans k5 (fun z hz => by cases List.mem_singleton.mp hz; exact hb'.elim (fun e => Or.inl (by rw [e]; simp)) (fun q => Or.inr q.2))
  · rw [qa]; exact (G2.other W4 (Or.inr s23)).keep k5 nb
  · rw [eL]; exact (G3.same W4).keep k5 nb
  · rw [qa]
    have e := own_settwo (own_ints (own_two cs)) (Value.int 0) (.int (own_bt c)) (.int (own_hb c)) (cap - cs.length - 1)
    rw [show (own_ints (own_two cs)).length = 2 * cs.length by simp [own_two_len], show cap - cs.length - 1 + 1 = cap - cs.length by omega] at e
    rw [e] at B5
    have e2 : own_ints (own_sbv (!false) (cs ++ [c])) ++ List.replicate (own_uw (!false) * (cap - (cs ++ [c]).length)) (Value.int 0) = own_ints (own_two cs) ++ [.int (own_bt c), .int (own_hb c)] ++ List.replicate (2 * (cap - cs.length - 1)) (.int 0) := by
      rw [eL]
      show own_ints (own_two (cs ++ [c])) ++ List.replicate (2 * (cap - (cs.length + 1))) (Value.int 0) = _
      rw [Nat.sub_sub]
      simp [own_ints, own_two]
    rw [e2]
    exact B5
set_option maxRecDepth 65536 in
set_option maxHeartbeats 40000000 in
theorem c_sacE (K : own_Cx) (a0 : Array Value) (hw : ∀ d ∈ tables_1, d.before a0 K.Z = true) (hU : own_U16 K) (rf : Value) (hrf : rf.isRef = true) (SF : Sta K.Z K.Z.heap "jdk/internal/util/Preconditions" "SIOOBE_FORMATTER" "Ljava/util/function/BiFunction;" rf) (g : Int32) (SC : Sta K.Z K.Z.heap own_sC "COMPACT_STRINGS" "Z" (.int g)) (hg : ¬ g = 0) (t b : Addr) (c : Int32) (cs : List Int32) (cap : Nat) (h : Heap) (T : own_SB K.Z h t b cs cap) (hc : cap ≤ 2) (tb : b ≠ t) (c0 : 0 ≤ c.toInt) (c1 : c.toInt < 65536) (hn : cs.length + 1 ≤ cap) (XB : Exa K.Z h b "[B") :
    own_Met K M_sac #[.ref t, .int c] [t, b] h (own_ret fun w h' xs => w = .ref t ∧ Keep h h' [t, b] ∧ ∃ b' : Addr, (b' = b ∨ (b' ∈ xs ∧ h.size ≤ b')) ∧ Exa K.Z h' b' "[B" ∧ own_SB K.Z h' t b' (cs ++ [c]) cap) := by
  refine own_met_2_0 (M := M_sac) pn_sac rfl (by first | rfl | exact own_cat (by assumption)) (by first | rfl | exact own_cat (by assumption)) ?_
  refine own_aload_n (pc' := 1) rfl d_sac_0 rfl (by first | rfl | assumption) ?_
  refine own_iload_n (pc' := 2) rfl d_sac_1 rfl ?_
  refine own_up1v (M' := M_asc) d_sac_2 (pc' := 5) rfl (by decide) (tw_193 hw) (tw_121 hw) (tw_112 hw) rfl (tw_194 hw) (tw_89 hw) (tw_196 hw) (by decide) rfl (own_lenOf pd_25 rfl) rfl rfl rfl rfl (Ins.self T.1) (c_ascE K a0 hw hU rf hrf SF g SC hg t b c cs cap h T hc tb c0 c1 hn XB) (by simp) ?_
  rintro w h1 xs ⟨rfl, k1, b', hb', X1, T1⟩
  refine own_pop (pc' := 6) rfl d_sac_5 (by first | rfl | assumption) ?_
  refine own_aload_n (pc' := 7) rfl d_sac_6 rfl (by first | rfl | assumption) ?_
  refine own_areturn rfl rfl (by first | rfl | assumption) d_sac_7 rfl rfl ?_
  exact ⟨rfl, k1, b', hb'.imp id fun z => ⟨by simp [z.1], z.2⟩, X1, T1⟩
theorem d_sia_0 : decode jdk_42_method_150_code 0 = .ok (.aload_n 0, 1) := by decide +kernel
theorem d_sia_1 : decode jdk_42_method_150_code 1 = .ok (.invokespecial 1, 3) := by decide +kernel
theorem d_sia_4 : decode jdk_42_method_150_code 4 = .ok (.aload_n 1, 1) := by decide +kernel
theorem d_sia_5 : decode jdk_42_method_150_code 5 = .ok (.invokevirtual 552, 3) := by decide +kernel
theorem d_sia_8 : decode jdk_42_method_150_code 8 = .ok (.astore_n 3, 1) := by decide +kernel
theorem d_sia_9 : decode jdk_42_method_150_code 9 = .ok (.aload_n 1, 1) := by decide +kernel
theorem d_sia_10 : decode jdk_42_method_150_code 10 = .ok (.invokevirtual 549, 3) := by decide +kernel
theorem d_sia_13 : decode jdk_42_method_150_code 13 = .ok (.istore 4, 2) := by decide +kernel
theorem d_sia_15 : decode jdk_42_method_150_code 15 = .ok (.aload_n 1, 1) := by decide +kernel
theorem d_sia_16 : decode jdk_42_method_150_code 16 = .ok (.invokevirtual 1047, 3) := by decide +kernel
theorem d_sia_19 : decode jdk_42_method_150_code 19 = .ok (.ifCond .eq 22, 3) := by decide +kernel
theorem d_sia_22 : decode jdk_42_method_150_code 22 = .ok (.aload_n 0, 1) := by decide +kernel
theorem d_sia_23 : decode jdk_42_method_150_code 23 = .ok (.iconst 0, 1) := by decide +kernel
theorem d_sia_24 : decode jdk_42_method_150_code 24 = .ok (.putfield 15, 3) := by decide +kernel
theorem d_sia_27 : decode jdk_42_method_150_code 27 = .ok (.aload_n 0, 1) := by decide +kernel
theorem d_sia_28 : decode jdk_42_method_150_code 28 = .ok (.aload_n 3, 1) := by decide +kernel
theorem d_sia_29 : decode jdk_42_method_150_code 29 = .ok (.iconst 0, 1) := by decide +kernel
theorem d_sia_30 : decode jdk_42_method_150_code 30 = .ok (.iload 4, 2) := by decide +kernel
theorem d_sia_32 : decode jdk_42_method_150_code 32 = .ok (.invokestatic 54, 3) := by decide +kernel
theorem d_sia_35 : decode jdk_42_method_150_code 35 = .ok (.putfield 9, 3) := by decide +kernel
theorem d_sia_38 : decode jdk_42_method_150_code 38 = .ok (.goto 59, 3) := by decide +kernel
theorem d_sia_41 : decode jdk_42_method_150_code 41 = .ok (.getstatic 38, 3) := by decide +kernel
theorem d_sia_44 : decode jdk_42_method_150_code 44 = .ok (.ifCond .eq 35, 3) := by decide +kernel
theorem d_sia_47 : decode jdk_42_method_150_code 47 = .ok (.aload_n 1, 1) := by decide +kernel
theorem d_sia_48 : decode jdk_42_method_150_code 48 = .ok (.getfield 1048, 3) := by decide +kernel
theorem d_sia_51 : decode jdk_42_method_150_code 51 = .ok (.ifCond .eq 28, 3) := by decide +kernel
theorem d_sia_79 : decode jdk_42_method_150_code 79 = .ok (.aload_n 0, 1) := by decide +kernel
theorem d_sia_80 : decode jdk_42_method_150_code 80 = .ok (.iconst 1, 1) := by decide +kernel
theorem d_sia_81 : decode jdk_42_method_150_code 81 = .ok (.putfield 15, 3) := by decide +kernel
theorem d_sia_84 : decode jdk_42_method_150_code 84 = .ok (.aload_n 0, 1) := by decide +kernel
theorem d_sia_85 : decode jdk_42_method_150_code 85 = .ok (.aload_n 3, 1) := by decide +kernel
theorem d_sia_86 : decode jdk_42_method_150_code 86 = .ok (.iconst 0, 1) := by decide +kernel
theorem d_sia_87 : decode jdk_42_method_150_code 87 = .ok (.iload 4, 2) := by decide +kernel
theorem d_sia_89 : decode jdk_42_method_150_code 89 = .ok (.iconst 1, 1) := by decide +kernel
theorem d_sia_90 : decode jdk_42_method_150_code 90 = .ok (.ishl, 1) := by decide +kernel
theorem d_sia_91 : decode jdk_42_method_150_code 91 = .ok (.invokestatic 54, 3) := by decide +kernel
theorem d_sia_94 : decode jdk_42_method_150_code 94 = .ok (.putfield 9, 3) := by decide +kernel
theorem d_sia_97 : decode jdk_42_method_150_code 97 = .ok (.return_, 1) := by decide +kernel
abbrev M_sia : own_Mi := ((⟨"java/lang/String", "<init>", "(Ljava/lang/AbstractStringBuilder;Ljava/lang/Void;)V"⟩ : MethodName), jdk_42_method_150_code, 5, (Option.none : Option FieldType), ({ frames := 2, cells := 1, slots := 4, locals := 31 } : Room))
theorem pn_sia : plainFor (own_Mi.y M_sia) = true := plainFor_of_name (by first | (simp [plainName, overriddenIn]; done) | decide +kernel)
set_option maxRecDepth 65536 in
set_option maxHeartbeats 40000000 in
theorem c_siaC (K : own_Cx) (a0 : Array Value) (hw : ∀ d ∈ tables_1, d.before a0 K.Z = true) (g : Int32) (SC : Sta K.Z K.Z.heap own_sC "COMPACT_STRINGS" "Z" (.int g)) (hg : ¬ g = 0) (x t b : Addr) (cs : List Int32) (cap : Nat) (h : Heap) (T : own_SB K.Z h t b cs cap) (hlt : cs.length = cap) (XB : Exa K.Z h b "[B") (hcb : 2 * cap ≤ 4) (E : Exa K.Z h x own_sC) (FV : Fld K.Z h x own_sC "value" "[B" .null) (FC : Fld K.Z h x own_sC "coder" "B" (.int 0)) (hbx : b ≠ x) :
    own_Met K M_sia #[.ref x, .ref t, .null] [x] h (own_void fun h' _ => Keep h h' [x] ∧ own_Str K.Z h' x cs) := by
  obtain ⟨Et, hcs, hle, hcap, hlat, F1, F2, F3, F4, B⟩ := T
  have hzc : (cs.length.toInt32).toInt = cs.length := own_lit _ (by omega)
  have sne : RoadKit.slotOf K.Z own_sC "value" "[B" ≠ RoadKit.slotOf K.Z own_sC "coder" "B" := slot_ne (Or.inr (tw_34 hw)) (Or.inr (tw_35 hw)) (by decide) (t := .array .byte) (t' := .byte) (by decide) (by decide)
  have xt : x ≠ t := ne_exa E Et (by decide)
  have lx : @LT.lt Nat _ _ _ := E.lt
  refine own_met_3_2 (M := M_sia) pn_sia rfl (by first | rfl | exact own_cat (by assumption)) (by first | rfl | exact own_cat (by assumption)) (by first | rfl | exact own_cat (by assumption)) ?_
  refine own_aload_n (pc' := 1) rfl d_sia_0 rfl (by first | rfl | assumption) ?_
  refine own_initO (pc' := 4) rfl d_sia_1 (tw_29 hw) (tw_30 hw) (tw_31 hw) rfl rfl rfl ?_
  refine own_aload_n (pc' := 5) rfl d_sia_4 rfl (by first | rfl | assumption) ?_
  refine own_virtual0v (M' := M_gvl) d_sia_5 (pc' := 8) rfl (tw_109 hw) (tw_110 hw) (tw_112 hw) (tw_111 hw) (tw_89 hw) (tw_113 hw) (by decide) rfl (own_lenOf pd_26 rfl) rfl rfl rfl rfl Et (c_gvl K a0 hw t b h F1) (by simp) ?_
  rintro w h1 xs1 ⟨rfl, rfl⟩
  refine own_astore_n3 (pc' := 9) rfl d_sia_8 (by first | exact One.u | exact One.val rfl | assumption | exact One.val (by assumption)) (by first | rfl | assumption) ?_
  refine own_aload_n (pc' := 10) rfl d_sia_9 rfl (by first | rfl | assumption) ?_
  refine own_vz0v (M' := M_sbl) d_sia_10 (pc' := 13) rfl (tw_114 hw) (tw_115 hw) (tw_112 hw) rfl (tw_117 hw) (tw_118 hw) (tw_70 hw) (tw_119 hw) (by decide) rfl (own_lenOf pd_23 rfl) rfl rfl rfl rfl Et (c_sbl K a0 hw t _ _ Et F3) (by simp) ?_
  rintro w h2 xs2 ⟨rfl, rfl⟩
  refine own_istore_4 (pc' := 15) rfl d_sia_13 (by first | exact One.u | exact One.val rfl | assumption | exact One.val (by assumption)) ?_
  refine own_aload_n (pc' := 16) rfl d_sia_15 rfl (by first | rfl | assumption) ?_
  refine own_virtual0v (M' := M_ail) d_sia_16 (pc' := 19) rfl (tw_125 hw) (tw_126 hw) (tw_128 hw) (tw_127 hw) (tw_89 hw) (tw_129 hw) (by decide) rfl (own_lenOf pd_13 rfl) rfl rfl rfl rfl Et (c_ail K a0 hw g SC hg t _ _ F2) (by simp) ?_
  rintro w h3 xs3 ⟨rfl, rfl⟩
  cases ql : own_lat cs
  · rw [ql] at B
    have B : own_Ary K.Z h3 b .byte (own_ints (own_two cs) ++ List.replicate (2 * (cap - cs.length)) (.int 0)) := B
    have hz2 := own_shl1 hzc (by omega)
    refine own_ifeq (pcT := 41) (pcF := 22) d_sia_19 (by decide) (by decide) rfl (fun q => ?_) (fun q => ?_)
    rotate_left 1
    · exact absurd rfl q
    refine own_getS (pc' := 44) rfl d_sia_41 (tw_81 hw) Via.refl (by assumption) ?_
    refine own_ifeq (pcT := 79) (pcF := 47) d_sia_44 (by decide) (by decide) rfl (fun q2 => ?_) (fun q2 => ?_)
    · exact absurd q2 hg
    refine own_aload_n (pc' := 48) rfl d_sia_47 rfl (by first | rfl | assumption) ?_
    refine own_getF (pc' := 51) rfl d_sia_48 (tw_276 hw) Via.refl F4 ?_
    refine own_ifeq (pcT := 79) (pcF := 54) d_sia_51 (by decide) (by decide) rfl (fun q3 => ?_) (fun q3 => ?_)
    rotate_left 1
    · exact absurd rfl q3
    refine own_aload_n (pc' := 80) rfl d_sia_79 rfl (by first | rfl | assumption) ?_
    refine own_iconst (v := (1 : Int32)) (pc' := 81) rfl d_sia_80 rfl ?_
    refine own_putF (pc' := 84) rfl d_sia_81 (tw_39 hw) Via.refl (Or.inr ⟨(tw_35 hw), rfl, rfl⟩) (tw_19 hw) (ty := .byte) (by decide) rfl rfl FC E (by simp) ?_
    intro h4 W4
    have B4 := B.other W4 hbx
    refine own_aload_n (pc' := 85) rfl d_sia_84 rfl (by first | rfl | assumption) ?_
    refine own_aload_n (pc' := 86) rfl d_sia_85 rfl (by first | rfl | assumption) ?_
    refine own_iconst (v := (0 : Int32)) (pc' := 87) rfl d_sia_86 rfl ?_
    refine own_iload (pc' := 89) rfl d_sia_87 rfl ?_
    refine own_iconst (v := (1 : Int32)) (pc' := 90) rfl d_sia_89 rfl ?_
    refine own_ishl (pc' := 91) rfl d_sia_90 ?_
    refine own_static3v (M' := M_cor) d_sia_91 (pc' := 94) rfl (tw_130 hw) (tw_131 hw) (tw_132 hw) (tw_133 hw) (by decide) rfl (own_lenOf pd_27 rfl) rfl rfl rfl rfl (c_corC K a0 hw b _ (2 * cs.length) _ h4 hz2 (by rw [List.length_append, List.length_replicate]; simp [own_two_len]; omega) (by omega) ((own_Bys.two cs).app (own_Bys.zero _)) B4 (XB.wr W4)) (by simp) ?_
    rintro w h5 xs5 ⟨b5, rfl, E5, hb5, hbx5, B5⟩
    have lx4 : @LT.lt Nat _ _ _ := (E.wr W4).lt
    have b5x : b5 ≠ x := by show @Ne Nat b5 x; omega
    refine own_putF (pc' := 97) rfl d_sia_94 (tw_38 hw) Via.refl (Or.inr ⟨(tw_34 hw), rfl, rfl⟩) (tw_19 hw) (ty := (.array .byte)) (by decide) rfl rfl ((FV.other W4 (Or.inr sne)).ext E5) ((E.wr W4).ext E5) (by simp) ?_
    intro h6 W6
    refine own_return rfl d_sia_97 rfl rfl ?_
    refine ⟨((((Keep.of_wr W4).ext E5).wr W6 (Or.inl (List.mem_singleton.mpr rfl)))), ((E.wr W4).ext E5).wr W6, hcs, by omega, b5, ((FV.other W4 (Or.inr sne)).ext E5).same W6, ?_, ?_⟩
    · rw [(own_enc_utf ql).2]
      exact ((FC.same W4).ext E5).other W6 (Or.inr (Ne.symm sne))
    · rw [(own_enc_utf ql).1]
      have e : own_ints (own_two cs) ++ List.replicate (2 * (cap - cs.length)) (Value.int 0) = own_ints (own_two cs) := by rw [show cap - cs.length = 0 by omega]; simp
      rw [e] at B5
      exact B5.other W6 b5x
  · rw [ql] at B
    have B : own_Ary K.Z h3 b .byte (own_ints (cs.map own_bt) ++ List.replicate (1 * (cap - cs.length)) (.int 0)) := B
    rw [Nat.one_mul] at B
    refine own_ifeq (pcT := 41) (pcF := 22) d_sia_19 (by decide) (by decide) rfl (fun q => ?_) (fun q => ?_)
    · exact absurd q (by decide)
    refine own_aload_n (pc' := 23) rfl d_sia_22 rfl (by first | rfl | assumption) ?_
    refine own_iconst (v := (0 : Int32)) (pc' := 24) rfl d_sia_23 rfl ?_
    refine own_putF (pc' := 27) rfl d_sia_24 (tw_39 hw) Via.refl (Or.inr ⟨(tw_35 hw), rfl, rfl⟩) (tw_19 hw) (ty := .byte) (by decide) rfl rfl FC E (by simp) ?_
    intro h4 W4
    have B4 := B.other W4 hbx
    refine own_aload_n (pc' := 28) rfl d_sia_27 rfl (by first | rfl | assumption) ?_
    refine own_aload_n (pc' := 29) rfl d_sia_28 rfl (by first | rfl | assumption) ?_
    refine own_iconst (v := (0 : Int32)) (pc' := 30) rfl d_sia_29 rfl ?_
    refine own_iload (pc' := 32) rfl d_sia_30 rfl ?_
    refine own_static3v (M' := M_cor) d_sia_32 (pc' := 35) rfl (tw_130 hw) (tw_131 hw) (tw_132 hw) (tw_133 hw) (by decide) rfl (own_lenOf pd_27 rfl) rfl rfl rfl rfl (c_corC K a0 hw b _ cs.length _ h4 hzc (by rw [List.length_append, List.length_replicate]; simp; omega) (by omega) ((own_Bys.lat cs).app (own_Bys.zero _)) B4 (XB.wr W4)) (by simp) ?_
    rintro w h5 xs5 ⟨b5, rfl, E5, hb5, hbx5, B5⟩
    have lx4 : @LT.lt Nat _ _ _ := (E.wr W4).lt
    have b5x : b5 ≠ x := by show @Ne Nat b5 x; omega
    refine own_putF (pc' := 38) rfl d_sia_35 (tw_38 hw) Via.refl (Or.inr ⟨(tw_34 hw), rfl, rfl⟩) (tw_19 hw) (ty := (.array .byte)) (by decide) rfl rfl ((FV.other W4 (Or.inr sne)).ext E5) ((E.wr W4).ext E5) (by simp) ?_
    intro h6 W6
    refine own_goto (pc' := 97) d_sia_38 (by decide) (by decide) ?_
    refine own_return rfl d_sia_97 rfl rfl ?_
    refine ⟨((((Keep.of_wr W4).ext E5).wr W6 (Or.inl (List.mem_singleton.mpr rfl)))), ((E.wr W4).ext E5).wr W6, hcs, by omega, b5, ((FV.other W4 (Or.inr sne)).ext E5).same W6, ?_, ?_⟩
    · rw [(own_enc_lat ql).2]
      exact ((FC.same W4).ext E5).other W6 (Or.inr (Ne.symm sne))
    · rw [(own_enc_lat ql).1]
      have e : own_ints (cs.map own_bt) ++ List.replicate (cap - cs.length) (Value.int 0) = own_ints (cs.map own_bt) := by rw [show cap - cs.length = 0 by omega]; simp
      rw [e] at B5
      exact B5.other W6 b5x
theorem d_sis_0 : decode jdk_42_method_53_code 0 = .ok (.aload_n 0, 1) := by decide +kernel
theorem d_sis_1 : decode jdk_42_method_53_code 1 = .ok (.aload_n 1, 1) := by decide +kernel
theorem d_sis_2 : decode jdk_42_method_53_code 2 = .ok (.aconst_null, 1) := by decide +kernel
theorem d_sis_3 : decode jdk_42_method_53_code 3 = .ok (.invokespecial 489, 3) := by decide +kernel
theorem d_sis_6 : decode jdk_42_method_53_code 6 = .ok (.return_, 1) := by decide +kernel
abbrev M_sis : own_Mi := ((⟨"java/lang/String", "<init>", "(Ljava/lang/StringBuilder;)V"⟩ : MethodName), jdk_42_method_53_code, 2, (Option.none : Option FieldType), ({ frames := 3, cells := 1, slots := 4, locals := 47 } : Room))
theorem pn_sis : plainFor (own_Mi.y M_sis) = true := plainFor_of_name (by first | (simp [plainName, overriddenIn]; done) | decide +kernel)
set_option maxRecDepth 65536 in
set_option maxHeartbeats 40000000 in
theorem c_sisC (K : own_Cx) (a0 : Array Value) (hw : ∀ d ∈ tables_1, d.before a0 K.Z = true) (g : Int32) (SC : Sta K.Z K.Z.heap own_sC "COMPACT_STRINGS" "Z" (.int g)) (hg : ¬ g = 0) (x t b : Addr) (cs : List Int32) (cap : Nat) (h : Heap) (T : own_SB K.Z h t b cs cap) (hlt : cs.length = cap) (XB : Exa K.Z h b "[B") (hcb : 2 * cap ≤ 4) (E : Exa K.Z h x own_sC) (FV : Fld K.Z h x own_sC "value" "[B" .null) (FC : Fld K.Z h x own_sC "coder" "B" (.int 0)) (hbx : b ≠ x) :
    own_Met K M_sis #[.ref x, .ref t] [x] h (own_void fun h' _ => Keep h h' [x] ∧ own_Str K.Z h' x cs) := by
  refine own_met_2_0 (M := M_sis) pn_sis rfl (by first | rfl | exact own_cat (by assumption)) (by first | rfl | exact own_cat (by assumption)) ?_
  refine own_aload_n (pc' := 1) rfl d_sis_0 rfl (by first | rfl | assumption) ?_
  refine own_aload_n (pc' := 2) rfl d_sis_1 rfl (by first | rfl | assumption) ?_
  refine own_aconst_null (pc' := 3) rfl d_sis_2 ?_
  refine own_special2n (M' := M_sia) d_sis_3 (pc' := 6) rfl rfl rfl (tw_106 hw) (tw_107 hw) (tw_20 hw) (tw_108 hw) (by decide) rfl (own_lenOf pd_28 rfl) rfl rfl rfl rfl (c_siaC K a0 hw g SC hg x t b cs cap h T hlt XB hcb E FV FC hbx) (by simp) ?_
  rintro h1 xs q
  refine own_return rfl d_sis_6 rfl rfl ?_
  exact q
theorem d_tos_0 : decode jdk_67_method_42_code 0 = .ok (.new 18, 3) := by decide +kernel
theorem d_tos_3 : decode jdk_67_method_42_code 3 = .ok (.dup, 1) := by decide +kernel
theorem d_tos_4 : decode jdk_67_method_42_code 4 = .ok (.aload_n 0, 1) := by decide +kernel
theorem d_tos_5 : decode jdk_67_method_42_code 5 = .ok (.invokespecial 137, 3) := by decide +kernel
theorem d_tos_8 : decode jdk_67_method_42_code 8 = .ok (.areturn, 1) := by decide +kernel
abbrev M_tos : own_Mi := ((⟨"java/lang/StringBuilder", "toString", "()Ljava/lang/String;"⟩ : MethodName), jdk_67_method_42_code, 1, (Option.some (FieldType.object "java/lang/String")), ({ frames := 4, cells := 2, slots := 8, locals := 62 } : Room))
theorem pn_tos : plainFor (own_Mi.y M_tos) = true := plainFor_of_name (by first | (simp [plainName, overriddenIn]; done) | decide +kernel)
set_option maxRecDepth 65536 in
set_option maxHeartbeats 40000000 in
theorem c_tosC (K : own_Cx) (a0 : Array Value) (hw : ∀ d ∈ tables_1, d.before a0 K.Z = true) (g : Int32) (SC : Sta K.Z K.Z.heap own_sC "COMPACT_STRINGS" "Z" (.int g)) (hg : ¬ g = 0) (t b : Addr) (cs : List Int32) (cap : Nat) (h : Heap) (T : own_SB K.Z h t b cs cap) (hlt : cs.length = cap) (XB : Exa K.Z h b "[B") (hcb : 2 * cap ≤ 4) :
    own_Met K M_tos #[.ref t] [] h (own_ret fun w h' _ => ∃ x : Addr, w = .ref x ∧ Ext h h' ∧ h.size ≤ x ∧ own_Str K.Z h' x cs) := by
  have lb := T.ltb
  refine own_met_1_0 (M := M_tos) pn_tos rfl (by first | rfl | exact own_cat (by assumption)) ?_
  refine own_new (pc' := 3) rfl d_tos_0 (tw_102 hw) (tw_19 hw) (tw_20 hw) rfl rfl ?_
  intro x h1 ex E1 X1 D1
  have FV := D1 (Or.inr (tw_34 hw)) (ty := .array .byte) (by decide)
  have FC := D1 (Or.inr (tw_35 hw)) (ty := .byte) (by decide)
  refine own_dup (pc' := 4) rfl d_tos_3 (by first | rfl | assumption) ?_
  refine own_aload_n (pc' := 5) rfl d_tos_4 rfl (by first | rfl | assumption) ?_
  refine own_special1n (M' := M_sis) d_tos_5 (pc' := 8) rfl rfl rfl (tw_103 hw) (tw_104 hw) (tw_20 hw) (tw_105 hw) (by decide) rfl (own_lenOf pd_29 rfl) rfl rfl rfl rfl (c_sisC K a0 hw g SC hg x t b cs cap h1 (T.ext E1) hlt (XB.ext E1) hcb X1 FV FC (own_ne (by omega))) (by simp) ?_
  rintro h2 xs ⟨k2, S2⟩
  refine own_areturn rfl rfl (by first | rfl | assumption) d_tos_8 rfl rfl ?_
  exact ⟨x, rfl, own_ext_keep E1 k2 (by intro z hz; cases List.mem_singleton.mp hz; omega), by omega, S2⟩
theorem d_rec_0 : decode jdk_30_method_1_code 0 = .ok (.aload_n 0, 1) := by decide +kernel
theorem d_rec_1 : decode jdk_30_method_1_code 1 = .ok (.invokespecial 1, 3) := by decide +kernel
theorem d_rec_4 : decode jdk_30_method_1_code 4 = .ok (.return_, 1) := by decide +kernel
abbrev M_rec : own_Mi := ((⟨"java/lang/Record", "<init>", "()V"⟩ : MethodName), jdk_30_method_1_code, 1, (Option.none : Option FieldType), ({ frames := 1, cells := 0, slots := 0, locals := 12 } : Room))
theorem pn_rec : plainFor (own_Mi.y M_rec) = true := plainFor_of_name (by first | (simp [plainName, overriddenIn]; done) | decide +kernel)
set_option maxRecDepth 65536 in
set_option maxHeartbeats 40000000 in
theorem c_rec (K : own_Cx) (a0 : Array Value) (hw : ∀ d ∈ tables_1, d.before a0 K.Z = true) (t : Addr) (h : Heap) : own_Met K M_rec #[.ref t] [] h (own_void fun h' _ => h' = h) := by
  refine own_met_1_0 (M := M_rec) pn_rec rfl (by first | rfl | exact own_cat (by assumption)) ?_
  refine own_aload_n (pc' := 1) rfl d_rec_0 rfl (by first | rfl | assumption) ?_
  refine own_initO (pc' := 4) rfl d_rec_1 (tw_51 hw) (tw_30 hw) (tw_31 hw) rfl rfl rfl ?_
  refine own_return rfl d_rec_4 rfl rfl ?_
  rfl
abbrev own_kC : String := "com/example/sunder/sunder/SqlTokens$Kind"
abbrev own_kD : String := "Lcom/example/sunder/sunder/SqlTokens$Kind;"
abbrev own_tC : String := "com/example/sunder/sunder/SqlTokens$Token"
def own_Kinds (Z : State) (kf : Nat → Addr) : Prop := Sta Z Z.heap own_kC "WORD" own_kD (.ref (kf 0)) ∧ Sta Z Z.heap own_kC "QUOTED" own_kD (.ref (kf 1)) ∧ Sta Z Z.heap own_kC "STRING" own_kD (.ref (kf 2)) ∧ Sta Z Z.heap own_kC "BLOB" own_kD (.ref (kf 3)) ∧ Sta Z Z.heap own_kC "NUMBER" own_kD (.ref (kf 4)) ∧ Sta Z Z.heap own_kC "SYMBOL" own_kD (.ref (kf 5)) ∧ Sta Z Z.heap own_kC "END_OF_TEXT" own_kD (.ref (kf 6))
theorem own_ble {a b : Nat} (h : a ≤ b) : Nat.ble a b = true := Nat.ble_eq_true_of_le h
def own_rg (lo hi : Int) (c : Int32) : Bool := decide (lo ≤ c.toInt) && decide (c.toInt ≤ hi)
theorem own_up_v {c : Int32} (q : own_rg 65 90 c = true) : 65 ≤ c.toInt ∧ c.toInt ≤ 90 ∧ (c + 32).toInt = c.toInt + 32 := by
  simp only [own_rg, Bool.and_eq_true, decide_eq_true_eq] at q
  exact ⟨q.1, q.2, own_add (x := c) rfl (by rfl : (32 : Int32).toInt = 32) (by omega) (by omega)⟩
theorem own_up_i {c : Int32} (q : own_rg 65 90 c = true) : (c + 32).toUInt32.toUInt16.toUInt32.toInt32 = c + 32 ∧ (c - 65 + 97).toUInt32.toUInt16.toUInt32.toInt32 = c + 32 := by
  have h := own_up_v q
  have e1 : (c + 32).toUInt32.toUInt16.toUInt32.toInt32 = c + 32 := own_i2c_id (by omega) (by omega)
  have e2 : c - 65 + 97 = c + 32 := by
    apply Int32.toInt_inj.mp
    rw [own_add (own_sub (x := c) rfl (by rfl : (65 : Int32).toInt = 65) (by omega) (by omega)) (by rfl : (97 : Int32).toInt = 97) (by omega) (by omega), h.2.2]
    omega
  exact ⟨e1, by rw [e2]; exact e1⟩
theorem own_n3 {n : Int32} (h0 : 0 ≤ n.toInt) (h1 : n.toInt < 3) : ∃ N : Nat, (N = 0 ∧ n = 0) ∨ (N = 1 ∧ n = 1) ∨ (N = 2 ∧ n = 2) := by
  have e0 : (0 : Int32).toInt = 0 := rfl
  have e1 : (1 : Int32).toInt = 1 := rfl
  have e2 : (2 : Int32).toInt = 2 := rfl
  rcases (show n.toInt = 0 ∨ n.toInt = 1 ∨ n.toInt = 2 by omega) with q | q | q
  · exact ⟨0, Or.inl ⟨rfl, Int32.toInt_inj.mp (by rw [q, e0])⟩⟩
  · exact ⟨1, Or.inr (Or.inl ⟨rfl, Int32.toInt_inj.mp (by rw [q, e1])⟩)⟩
  · exact ⟨2, Or.inr (Or.inr ⟨rfl, Int32.toInt_inj.mp (by rw [q, e2])⟩)⟩
def own_lw (c : Int32) : Int32 := if own_rg 65 90 c then c + 32 else c
theorem own_lw_r {c : Int32} (h0 : 0 ≤ c.toInt) (h1 : c.toInt < 65536) : 0 ≤ (own_lw c).toInt ∧ (own_lw c).toInt < 65536 := by
  unfold own_lw
  split
  · rename_i q
    have := own_up_v q
    omega
  · exact ⟨h0, h1⟩
theorem own_rg_f {c : Int32} (q : c.toInt < 65 ∨ 90 < c.toInt) : own_rg 65 90 c = false := by
  simp only [own_rg, Bool.and_eq_false_iff, decide_eq_false_iff_not]
  omega
theorem own_rg_t {c : Int32} (q : 65 ≤ c.toInt ∧ c.toInt ≤ 90) : own_rg 65 90 c = true := by
  simp only [own_rg, Bool.and_eq_true, decide_eq_true_eq]
  omega
theorem d_kof_0 : decode method_3_code 0 = .ok (.iload_n 0, 1) := by decide +kernel
theorem d_kof_1 : decode method_3_code 1 = .ok (.iconst 1, 1) := by decide +kernel
theorem d_kof_2 : decode method_3_code 2 = .ok (.if_icmp .ne 7, 3) := by decide +kernel
theorem d_kof_5 : decode method_3_code 5 = .ok (.getstatic 47, 3) := by decide +kernel
theorem d_kof_8 : decode method_3_code 8 = .ok (.areturn, 1) := by decide +kernel
theorem d_kof_9 : decode method_3_code 9 = .ok (.iload_n 0, 1) := by decide +kernel
theorem d_kof_10 : decode method_3_code 10 = .ok (.iconst 2, 1) := by decide +kernel
theorem d_kof_11 : decode method_3_code 11 = .ok (.if_icmp .ne 7, 3) := by decide +kernel
theorem d_kof_14 : decode method_3_code 14 = .ok (.getstatic 50, 3) := by decide +kernel
theorem d_kof_17 : decode method_3_code 17 = .ok (.areturn, 1) := by decide +kernel
theorem d_kof_18 : decode method_3_code 18 = .ok (.iload_n 0, 1) := by decide +kernel
theorem d_kof_19 : decode method_3_code 19 = .ok (.iconst 3, 1) := by decide +kernel
theorem d_kof_20 : decode method_3_code 20 = .ok (.if_icmp .ne 7, 3) := by decide +kernel
theorem d_kof_23 : decode method_3_code 23 = .ok (.getstatic 53, 3) := by decide +kernel
theorem d_kof_26 : decode method_3_code 26 = .ok (.areturn, 1) := by decide +kernel
theorem d_kof_27 : decode method_3_code 27 = .ok (.iload_n 0, 1) := by decide +kernel
theorem d_kof_28 : decode method_3_code 28 = .ok (.iconst 4, 1) := by decide +kernel
theorem d_kof_29 : decode method_3_code 29 = .ok (.if_icmp .ne 7, 3) := by decide +kernel
theorem d_kof_32 : decode method_3_code 32 = .ok (.getstatic 56, 3) := by decide +kernel
theorem d_kof_35 : decode method_3_code 35 = .ok (.areturn, 1) := by decide +kernel
theorem d_kof_36 : decode method_3_code 36 = .ok (.iload_n 0, 1) := by decide +kernel
theorem d_kof_37 : decode method_3_code 37 = .ok (.iconst 5, 1) := by decide +kernel
theorem d_kof_38 : decode method_3_code 38 = .ok (.if_icmp .ne 7, 3) := by decide +kernel
theorem d_kof_41 : decode method_3_code 41 = .ok (.getstatic 59, 3) := by decide +kernel
theorem d_kof_44 : decode method_3_code 44 = .ok (.areturn, 1) := by decide +kernel
theorem d_kof_45 : decode method_3_code 45 = .ok (.iload_n 0, 1) := by decide +kernel
theorem d_kof_46 : decode method_3_code 46 = .ok (.bipush 6, 2) := by decide +kernel
theorem d_kof_48 : decode method_3_code 48 = .ok (.if_icmp .ne 7, 3) := by decide +kernel
theorem d_kof_51 : decode method_3_code 51 = .ok (.getstatic 62, 3) := by decide +kernel
theorem d_kof_54 : decode method_3_code 54 = .ok (.areturn, 1) := by decide +kernel
theorem d_kof_55 : decode method_3_code 55 = .ok (.getstatic 37, 3) := by decide +kernel
theorem d_kof_58 : decode method_3_code 58 = .ok (.areturn, 1) := by decide +kernel
abbrev M_kof : own_Mi := ((⟨"com/example/sunder/sunder/TokenIsPinLaw", "kindOf", "(I)Lcom/example/sunder/sunder/SqlTokens$Kind;"⟩ : MethodName), method_3_code, 1, (Option.some (FieldType.object "com/example/sunder/sunder/SqlTokens$Kind")), ({ frames := 0, cells := 0, slots := 0, locals := 0 } : Room))
theorem pn_kof : plainFor (own_Mi.y M_kof) = true := plainFor_of_name (by first | (simp [plainName, overriddenIn]; done) | decide +kernel)
set_option maxRecDepth 65536 in
set_option maxHeartbeats 40000000 in
theorem c_kof (K : own_Cx) (a0 : Array Value) (hw : ∀ d ∈ tables_1, d.before a0 K.Z = true) (kf : Nat → Addr) (hk : own_Kinds K.Z kf) (i : Int32) (h : Heap) :
    own_Met K M_kof #[.int i] [] h (own_ret fun w h' _ => ∃ k : Addr, w = .ref k ∧ h' = h) := by
  obtain ⟨k0, k1, k2, k3, k4, k5, k6⟩ := hk
  refine own_met_1_0 (M := M_kof) pn_kof rfl (by first | rfl | exact own_cat (by assumption)) ?_
  refine own_iload_n (pc' := 1) rfl d_kof_0 rfl ?_
  refine own_iconst (v := (1 : Int32)) (pc' := 2) rfl d_kof_1 rfl ?_
  refine own_icmpne (pcT := 9) (pcF := 5) d_kof_2 (by decide) (by decide) rfl (fun q0 => ?_) (fun q0 => ?_)
  rotate_left 1
  · skip
    refine own_getS (pc' := 8) rfl d_kof_5 (tw_238 hw) Via.refl (by assumption) ?_
    refine own_areturn rfl rfl (by first | rfl | assumption) d_kof_8 rfl rfl ?_
    exact ⟨_, rfl, rfl⟩
  refine own_iload_n (pc' := 10) rfl d_kof_9 rfl ?_
  refine own_iconst (v := (2 : Int32)) (pc' := 11) rfl d_kof_10 rfl ?_
  refine own_icmpne (pcT := 18) (pcF := 14) d_kof_11 (by decide) (by decide) rfl (fun q1 => ?_) (fun q1 => ?_)
  rotate_left 1
  · skip
    refine own_getS (pc' := 17) rfl d_kof_14 (tw_207 hw) Via.refl (by assumption) ?_
    refine own_areturn rfl rfl (by first | rfl | assumption) d_kof_17 rfl rfl ?_
    exact ⟨_, rfl, rfl⟩
  refine own_iload_n (pc' := 19) rfl d_kof_18 rfl ?_
  refine own_iconst (v := (3 : Int32)) (pc' := 20) rfl d_kof_19 rfl ?_
  refine own_icmpne (pcT := 27) (pcF := 23) d_kof_20 (by decide) (by decide) rfl (fun q2 => ?_) (fun q2 => ?_)
  rotate_left 1
  · skip
    refine own_getS (pc' := 26) rfl d_kof_23 (tw_240 hw) Via.refl (by assumption) ?_
    refine own_areturn rfl rfl (by first | rfl | assumption) d_kof_26 rfl rfl ?_
    exact ⟨_, rfl, rfl⟩
  refine own_iload_n (pc' := 28) rfl d_kof_27 rfl ?_
  refine own_iconst (v := (4 : Int32)) (pc' := 29) rfl d_kof_28 rfl ?_
  refine own_icmpne (pcT := 36) (pcF := 32) d_kof_29 (by decide) (by decide) rfl (fun q3 => ?_) (fun q3 => ?_)
  rotate_left 1
  · skip
    refine own_getS (pc' := 35) rfl d_kof_32 (tw_153 hw) Via.refl (by assumption) ?_
    refine own_areturn rfl rfl (by first | rfl | assumption) d_kof_35 rfl rfl ?_
    exact ⟨_, rfl, rfl⟩
  refine own_iload_n (pc' := 37) rfl d_kof_36 rfl ?_
  refine own_iconst (v := (5 : Int32)) (pc' := 38) rfl d_kof_37 rfl ?_
  refine own_icmpne (pcT := 45) (pcF := 41) d_kof_38 (by decide) (by decide) rfl (fun q4 => ?_) (fun q4 => ?_)
  rotate_left 1
  · skip
    refine own_getS (pc' := 44) rfl d_kof_41 (tw_281 hw) Via.refl (by assumption) ?_
    refine own_areturn rfl rfl (by first | rfl | assumption) d_kof_44 rfl rfl ?_
    exact ⟨_, rfl, rfl⟩
  refine own_iload_n (pc' := 46) rfl d_kof_45 rfl ?_
  refine own_bipush (v := (6 : Int32)) (pc' := 48) rfl d_kof_46 rfl ?_
  refine own_icmpne (pcT := 55) (pcF := 51) d_kof_48 (by decide) (by decide) rfl (fun q5 => ?_) (fun q5 => ?_)
  rotate_left 1
  · skip
    refine own_getS (pc' := 54) rfl d_kof_51 (tw_283 hw) Via.refl (by assumption) ?_
    refine own_areturn rfl rfl (by first | rfl | assumption) d_kof_54 rfl rfl ?_
    exact ⟨_, rfl, rfl⟩
  refine own_getS (pc' := 58) rfl d_kof_55 (tw_4 hw) Via.refl (by assumption) ?_
  refine own_areturn rfl rfl (by first | rfl | assumption) d_kof_58 rfl rfl ?_
  exact ⟨_, rfl, rfl⟩
theorem d_drv_0 : decode method_4_code 0 = .ok (.iload_n 0, 1) := by decide +kernel
theorem d_drv_1 : decode method_4_code 1 = .ok (.ifCond .ne 5, 3) := by decide +kernel
theorem d_drv_4 : decode method_4_code 4 = .ok (.iload_n 1, 1) := by decide +kernel
theorem d_drv_5 : decode method_4_code 5 = .ok (.ireturn, 1) := by decide +kernel
theorem d_drv_6 : decode method_4_code 6 = .ok (.iload_n 0, 1) := by decide +kernel
theorem d_drv_7 : decode method_4_code 7 = .ok (.iconst 1, 1) := by decide +kernel
theorem d_drv_8 : decode method_4_code 8 = .ok (.if_icmp .ne 9, 3) := by decide +kernel
theorem d_drv_11 : decode method_4_code 11 = .ok (.iload_n 1, 1) := by decide +kernel
theorem d_drv_12 : decode method_4_code 12 = .ok (.bipush 32, 2) := by decide +kernel
theorem d_drv_14 : decode method_4_code 14 = .ok (.ixor, 1) := by decide +kernel
theorem d_drv_15 : decode method_4_code 15 = .ok (.i2c, 1) := by decide +kernel
theorem d_drv_16 : decode method_4_code 16 = .ok (.ireturn, 1) := by decide +kernel
theorem d_drv_17 : decode method_4_code 17 = .ok (.iload_n 2, 1) := by decide +kernel
theorem d_drv_18 : decode method_4_code 18 = .ok (.ireturn, 1) := by decide +kernel
abbrev M_drv : own_Mi := ((⟨"com/example/sunder/sunder/TokenIsPinLaw", "derive", "(ICC)C"⟩ : MethodName), method_4_code, 3, (Option.some FieldType.char), ({ frames := 0, cells := 0, slots := 0, locals := 0 } : Room))
theorem pn_drv : plainFor (own_Mi.y M_drv) = true := plainFor_of_name (by first | (simp [plainName, overriddenIn]; done) | decide +kernel)
set_option maxRecDepth 65536 in
set_option maxHeartbeats 40000000 in
theorem c_drv (K : own_Cx) (a0 : Array Value) (hw : ∀ d ∈ tables_1, d.before a0 K.Z = true) (m a b : Int32) (h : Heap) (ra : 0 ≤ a.toInt ∧ a.toInt < 65536) (rb : 0 ≤ b.toInt ∧ b.toInt < 65536) :
    own_Met K M_drv #[.int m, .int a, .int b] [] h (own_ret fun w h' _ => ∃ c : Int32, w = .int c ∧ (0 ≤ c.toInt ∧ c.toInt < 65536) ∧ h' = h) := by
  refine own_met_3_0 (M := M_drv) pn_drv rfl (by first | rfl | exact own_cat (by assumption)) (by first | rfl | exact own_cat (by assumption)) (by first | rfl | exact own_cat (by assumption)) ?_
  refine own_iload_n (pc' := 1) rfl d_drv_0 rfl ?_
  refine own_ifne (pcT := 6) (pcF := 4) d_drv_1 (by decide) (by decide) rfl (fun q0 => ?_) (fun q0 => ?_)
  rotate_left 1
  · skip
    refine own_iload_n (pc' := 5) rfl d_drv_4 rfl ?_
    refine own_ireturnN (t := .char) rfl (by simp) (own_i2c_id ra.1 ra.2) d_drv_5 rfl rfl ?_
    exact ⟨_, rfl, ra, rfl⟩
  refine own_iload_n (pc' := 7) rfl d_drv_6 rfl ?_
  refine own_iconst (v := (1 : Int32)) (pc' := 8) rfl d_drv_7 rfl ?_
  refine own_icmpne (pcT := 17) (pcF := 11) d_drv_8 (by decide) (by decide) rfl (fun q1 => ?_) (fun q1 => ?_)
  rotate_left 1
  · skip
    refine own_iload_n (pc' := 12) rfl d_drv_11 rfl ?_
    refine own_bipush (v := (32 : Int32)) (pc' := 14) rfl d_drv_12 rfl ?_
    refine own_ixor (pc' := 15) rfl d_drv_14 ?_
    refine own_i2c (pc' := 16) rfl d_drv_15 ?_
    refine own_ireturnN (t := .char) rfl (by simp) (own_ch_nar _) d_drv_16 rfl rfl ?_
    exact ⟨_, rfl, own_ch_r _, rfl⟩
  refine own_iload_n (pc' := 18) rfl d_drv_17 rfl ?_
  refine own_ireturnN (t := .char) rfl (by simp) (own_i2c_id rb.1 rb.2) d_drv_18 rfl rfl ?_
  exact ⟨_, rfl, rb, rfl⟩
theorem d_mk_0 : decode method_5_code 0 = .ok (.iload_n 0, 1) := by decide +kernel
theorem d_mk_1 : decode method_5_code 1 = .ok (.ifCond .ne 14, 3) := by decide +kernel
theorem d_mk_4 : decode method_5_code 4 = .ok (.new 65, 3) := by decide +kernel
theorem d_mk_7 : decode method_5_code 7 = .ok (.dup, 1) := by decide +kernel
theorem d_mk_8 : decode method_5_code 8 = .ok (.iconst 0, 1) := by decide +kernel
theorem d_mk_9 : decode method_5_code 9 = .ok (.newarray .char, 2) := by decide +kernel
theorem d_mk_11 : decode method_5_code 11 = .ok (.invokespecial 67, 3) := by decide +kernel
theorem d_mk_14 : decode method_5_code 14 = .ok (.areturn, 1) := by decide +kernel
theorem d_mk_15 : decode method_5_code 15 = .ok (.iload_n 0, 1) := by decide +kernel
theorem d_mk_16 : decode method_5_code 16 = .ok (.iconst 1, 1) := by decide +kernel
theorem d_mk_17 : decode method_5_code 17 = .ok (.if_icmp .ne 8, 3) := by decide +kernel
theorem d_mk_20 : decode method_5_code 20 = .ok (.iload_n 1, 1) := by decide +kernel
theorem d_mk_21 : decode method_5_code 21 = .ok (.invokestatic 70, 3) := by decide +kernel
theorem d_mk_24 : decode method_5_code 24 = .ok (.areturn, 1) := by decide +kernel
theorem d_mk_25 : decode method_5_code 25 = .ok (.new 65, 3) := by decide +kernel
theorem d_mk_28 : decode method_5_code 28 = .ok (.dup, 1) := by decide +kernel
theorem d_mk_29 : decode method_5_code 29 = .ok (.iconst 2, 1) := by decide +kernel
theorem d_mk_30 : decode method_5_code 30 = .ok (.newarray .char, 2) := by decide +kernel
theorem d_mk_32 : decode method_5_code 32 = .ok (.dup, 1) := by decide +kernel
theorem d_mk_33 : decode method_5_code 33 = .ok (.iconst 0, 1) := by decide +kernel
theorem d_mk_34 : decode method_5_code 34 = .ok (.iload_n 1, 1) := by decide +kernel
theorem d_mk_35 : decode method_5_code 35 = .ok (.castore, 1) := by decide +kernel
theorem d_mk_36 : decode method_5_code 36 = .ok (.dup, 1) := by decide +kernel
theorem d_mk_37 : decode method_5_code 37 = .ok (.iconst 1, 1) := by decide +kernel
theorem d_mk_38 : decode method_5_code 38 = .ok (.iload_n 2, 1) := by decide +kernel
theorem d_mk_39 : decode method_5_code 39 = .ok (.castore, 1) := by decide +kernel
theorem d_mk_40 : decode method_5_code 40 = .ok (.invokespecial 67, 3) := by decide +kernel
theorem d_mk_43 : decode method_5_code 43 = .ok (.areturn, 1) := by decide +kernel
abbrev M_mk : own_Mi := ((⟨"com/example/sunder/sunder/TokenIsPinLaw", "make", "(ICC)Ljava/lang/String;"⟩ : MethodName), method_5_code, 3, (Option.some (FieldType.object "java/lang/String")), ({ frames := 6, cells := 6, slots := 14, locals := 88 } : Room))
theorem pn_mk : plainFor (own_Mi.y M_mk) = true := plainFor_of_name (by first | (simp [plainName, overriddenIn]; done) | decide +kernel)
set_option maxRecDepth 65536 in
set_option maxHeartbeats 40000000 in
theorem c_mk (K : own_Cx) (a0 : Array Value) (hw : ∀ d ∈ tables_1, d.before a0 K.Z = true) (hU : own_U16 K) (hnw : K.nw = false) (hEL : EW K.Z a0 K.E) (hme : ("java/lang/String", 7) ∈ K.E) (g : Int32) (SC : Sta K.Z K.Z.heap own_sC "COMPACT_STRINGS" "Z" (.int g)) (hg : ¬ g = 0) (n c0 c1 : Int32) (N : Nat) (h : Heap) (hz : (N = 0 ∧ n = 0) ∨ (N = 1 ∧ n = 1) ∨ (N = 2 ∧ n = 2)) (hc : own_Chs [c0, c1]) :
    own_Met K M_mk #[.int n, .int c0, .int c1] [] h (own_ret fun w h' _ => ∃ x : Addr, w = .ref x ∧ Ext h h' ∧ own_Str K.Z h' x ([c0, c1].take N)) := by
  have r0 := hc c0 (by simp)
  have r1 := hc c1 (by simp)
  rcases hz with ⟨rfl, rfl⟩ | ⟨rfl, rfl⟩ | ⟨rfl, rfl⟩
  · skip
    refine own_met_3_0 (M := M_mk) pn_mk rfl (by first | rfl | exact own_cat (by assumption)) (by first | rfl | exact own_cat (by assumption)) (by first | rfl | exact own_cat (by assumption)) ?_
    refine own_iload_n (pc' := 1) rfl d_mk_0 rfl ?_
    refine own_ifne (pcT := 15) (pcF := 4) d_mk_1 (by decide) (by decide) rfl (fun q0 => ?_) (fun q0 => ?_)
    · exact absurd rfl q0
    refine own_new (pc' := 7) rfl d_mk_4 (tw_18 hw) (tw_19 hw) (tw_20 hw) rfl rfl ?_
    intro x hx ex Ex X D
    have FVx := D (Or.inr (tw_34 hw)) (ty := .array .byte) (by decide)
    have FCx := D (Or.inr (tw_35 hw)) (ty := .byte) (by decide)
    have lx : @LT.lt Nat _ _ _ := X.lt
    refine own_dup (pc' := 8) rfl d_mk_7 (by first | rfl | assumption) ?_
    refine own_iconst (v := (0 : Int32)) (pc' := 9) rfl d_mk_8 rfl ?_
    refine own_newarray (pc' := 11) rfl d_mk_9 (tw_21 hw) (N := 0) (cap := 0) (by decide) (by decide) rfl rfl rfl ?_
    intro b hb0 eb Eb B0
    refine own_special1n (M' := M_si1) d_mk_11 (pc' := 14) rfl rfl rfl (tw_22 hw) (tw_23 hw) (tw_20 hw) (tw_24 hw) (by decide) rfl (own_lenOf pd_30 rfl) rfl rfl rfl rfl (c_si1 K a0 hw hU hnw hEL hme x b g [] hb0 (by simp) (fun c hc => nomatch hc) B0 (X.ext Eb) (FVx.ext Eb) (FCx.ext Eb) SC hg) (by simp) ?_
    rintro hs xs ⟨ks, S⟩
    refine own_areturn rfl rfl (by first | rfl | assumption) d_mk_14 rfl rfl ?_
    exact ⟨x, rfl, own_ext_keep (own_ext_trans Ex Eb) ks (by intro z hz; cases List.mem_singleton.mp hz; omega), S⟩
  · skip
    refine own_met_3_0 (M := M_mk) pn_mk rfl (by first | rfl | exact own_cat (by assumption)) (by first | rfl | exact own_cat (by assumption)) (by first | rfl | exact own_cat (by assumption)) ?_
    refine own_iload_n (pc' := 1) rfl d_mk_0 rfl ?_
    refine own_ifne (pcT := 15) (pcF := 4) d_mk_1 (by decide) (by decide) rfl (fun q0 => ?_) (fun q0 => ?_)
    rotate_left 1
    · exact absurd q0 (by decide)
    refine own_iload_n (pc' := 16) rfl d_mk_15 rfl ?_
    refine own_iconst (v := (1 : Int32)) (pc' := 17) rfl d_mk_16 rfl ?_
    refine own_icmpne (pcT := 25) (pcF := 20) d_mk_17 (by decide) (by decide) rfl (fun q1 => ?_) (fun q1 => ?_)
    · exact absurd rfl q1
    refine own_iload_n (pc' := 21) rfl d_mk_20 rfl ?_
    refine own_static1v (M' := M_svc) d_mk_21 (pc' := 24) rfl (tw_155 hw) (tw_156 hw) (tw_20 hw) (tw_157 hw) (by decide) rfl (own_lenOf pd_31 rfl) rfl rfl rfl rfl (c_svu K a0 hw hU g SC hg c0 h r0.1 r0.2) (by simp) ?_
    rintro w h1 xs1 ⟨x, rfl, E1, hx1, S1⟩
    refine own_areturn rfl rfl (by first | rfl | assumption) d_mk_24 rfl rfl ?_
    exact ⟨x, rfl, E1, S1⟩
  · skip
    refine own_met_3_0 (M := M_mk) pn_mk rfl (by first | rfl | exact own_cat (by assumption)) (by first | rfl | exact own_cat (by assumption)) (by first | rfl | exact own_cat (by assumption)) ?_
    refine own_iload_n (pc' := 1) rfl d_mk_0 rfl ?_
    refine own_ifne (pcT := 15) (pcF := 4) d_mk_1 (by decide) (by decide) rfl (fun q0 => ?_) (fun q0 => ?_)
    rotate_left 1
    · exact absurd q0 (by decide)
    refine own_iload_n (pc' := 16) rfl d_mk_15 rfl ?_
    refine own_iconst (v := (1 : Int32)) (pc' := 17) rfl d_mk_16 rfl ?_
    refine own_icmpne (pcT := 25) (pcF := 20) d_mk_17 (by decide) (by decide) rfl (fun q1 => ?_) (fun q1 => ?_)
    rotate_left 1
    · exact absurd q1 (by decide)
    refine own_new (pc' := 28) rfl d_mk_25 (tw_18 hw) (tw_19 hw) (tw_20 hw) rfl rfl ?_
    intro x hx ex Ex X D
    have FVx := D (Or.inr (tw_34 hw)) (ty := .array .byte) (by decide)
    have FCx := D (Or.inr (tw_35 hw)) (ty := .byte) (by decide)
    have lx : @LT.lt Nat _ _ _ := X.lt
    refine own_dup (pc' := 29) rfl d_mk_28 (by first | rfl | assumption) ?_
    refine own_iconst (v := (2 : Int32)) (pc' := 30) rfl d_mk_29 rfl ?_
    refine own_newarray (pc' := 32) rfl d_mk_30 (tw_21 hw) (N := 2) (cap := 2) (by decide) (by decide) rfl rfl rfl ?_
    intro b hb0 eb Eb B0
    have nxb : x ≠ b := by show @Ne Nat x b; omega
    refine own_dup (pc' := 33) rfl d_mk_32 (by first | rfl | assumption) ?_
    refine own_iconst (v := (0 : Int32)) (pc' := 34) rfl d_mk_33 rfl ?_
    refine own_iload_n (pc' := 35) rfl d_mk_34 rfl ?_
    refine own_castore (pc' := 36) rfl d_mk_35 B0 (i := 0) (by decide) (by simp) (own_i2c_id r0.1 r0.2) (by simp) ?_
    intro h1 k1 B1
    refine own_dup (pc' := 37) rfl d_mk_36 (by first | rfl | assumption) ?_
    refine own_iconst (v := (1 : Int32)) (pc' := 38) rfl d_mk_37 rfl ?_
    refine own_iload_n (pc' := 39) rfl d_mk_38 rfl ?_
    refine own_castore (pc' := 40) rfl d_mk_39 B1 (i := 1) (by decide) (by simp) (own_i2c_id r1.1 r1.2) (by simp) ?_
    intro h2 k2 B2
    have k12 := k1.trans k2 (fun z hz => Or.inl hz)
    have EB := own_ext_keep (own_ext_trans Ex Eb) k12 (by intro z hz; cases List.mem_singleton.mp hz; have := Ex.1; omega)
    refine own_special1n (M' := M_si1) d_mk_40 (pc' := 43) rfl rfl rfl (tw_22 hw) (tw_23 hw) (tw_20 hw) (tw_24 hw) (by decide) rfl (own_lenOf pd_30 rfl) rfl rfl rfl rfl (c_si1 K a0 hw hU hnw hEL hme x b g [c0, c1] h2 (by simp) hc B2 ((X.ext Eb).keep k12) ((FVx.ext Eb).keep k12 (ninS nxb nin0)) ((FCx.ext Eb).keep k12 (ninS nxb nin0)) SC hg) (by simp) ?_
    rintro hs xs ⟨ks, S⟩
    refine own_areturn rfl rfl (by first | rfl | assumption) d_mk_43 rfl rfl ?_
    exact ⟨x, rfl, own_ext_keep EB ks (by intro z hz; cases List.mem_singleton.mp hz; omega), S⟩
theorem d_tok_0 : decode prog_18_method_1_code 0 = .ok (.aload_n 0, 1) := by decide +kernel
theorem d_tok_1 : decode prog_18_method_1_code 1 = .ok (.invokespecial 1, 3) := by decide +kernel
theorem d_tok_4 : decode prog_18_method_1_code 4 = .ok (.aload_n 0, 1) := by decide +kernel
theorem d_tok_5 : decode prog_18_method_1_code 5 = .ok (.aload_n 1, 1) := by decide +kernel
theorem d_tok_6 : decode prog_18_method_1_code 6 = .ok (.putfield 7, 3) := by decide +kernel
theorem d_tok_9 : decode prog_18_method_1_code 9 = .ok (.aload_n 0, 1) := by decide +kernel
theorem d_tok_10 : decode prog_18_method_1_code 10 = .ok (.aload_n 2, 1) := by decide +kernel
theorem d_tok_11 : decode prog_18_method_1_code 11 = .ok (.putfield 13, 3) := by decide +kernel
theorem d_tok_14 : decode prog_18_method_1_code 14 = .ok (.aload_n 0, 1) := by decide +kernel
theorem d_tok_15 : decode prog_18_method_1_code 15 = .ok (.iload_n 3, 1) := by decide +kernel
theorem d_tok_16 : decode prog_18_method_1_code 16 = .ok (.putfield 17, 3) := by decide +kernel
theorem d_tok_19 : decode prog_18_method_1_code 19 = .ok (.return_, 1) := by decide +kernel
abbrev M_tok : own_Mi := ((⟨"com/example/sunder/sunder/SqlTokens$Token", "<init>", "(Lcom/example/sunder/sunder/SqlTokens$Kind;Ljava/lang/String;I)V"⟩ : MethodName), prog_18_method_1_code, 4, (Option.none : Option FieldType), ({ frames := 2, cells := 0, slots := 0, locals := 24 } : Room))
theorem pn_tok : plainFor (own_Mi.y M_tok) = true := plainFor_of_name (by first | (simp [plainName, overriddenIn]; done) | decide +kernel)
set_option maxRecDepth 65536 in
set_option maxHeartbeats 40000000 in
theorem c_tok (K : own_Cx) (a0 : Array Value) (hw : ∀ d ∈ tables_1, d.before a0 K.Z = true) (t k x : Addr) (p : Int32) (h : Heap) (E : Exa K.Z h t own_tC) (F1 : Fld K.Z h t own_tC "kind" own_kD .null) (F2 : Fld K.Z h t own_tC "text" "Ljava/lang/String;" .null) (F3 : Fld K.Z h t own_tC "line" "I" (.int 0)) :
    own_Met K M_tok #[.ref t, .ref k, .ref x, .int p] [t] h (own_void fun h' _ => Keep h h' [t] ∧ Exa K.Z h' t own_tC ∧ Fld K.Z h' t own_tC "kind" own_kD (.ref k) ∧ Fld K.Z h' t own_tC "text" "Ljava/lang/String;" (.ref x)) := by
  have L1 : Laid K.Z a0 own_tC own_tC "kind" own_kD := Or.inr (tw_53 hw)
  have L2 : Laid K.Z a0 own_tC own_tC "text" "Ljava/lang/String;" := Or.inr (tw_55 hw)
  have L3 : Laid K.Z a0 own_tC own_tC "line" "I" := Or.inr (tw_57 hw)
  have s12 := slot_ne L1 L2 (by decide) (t := .object own_kC) (t' := .object "java/lang/String") (by decide) (by decide)
  have s13 := slot_ne L1 L3 (by decide) (t := .object own_kC) (t' := .int) (by decide) (by decide)
  have s23 := slot_ne L2 L3 (by decide) (t := .object "java/lang/String") (t' := .int) (by decide) (by decide)
  refine own_met_4_0 (M := M_tok) pn_tok rfl (by first | rfl | exact own_cat (by assumption)) (by first | rfl | exact own_cat (by assumption)) (by first | rfl | exact own_cat (by assumption)) (by first | rfl | exact own_cat (by assumption)) ?_
  refine own_aload_n (pc' := 1) rfl d_tok_0 rfl (by first | rfl | assumption) ?_
  refine own_special0n (M' := M_rec) d_tok_1 (pc' := 4) rfl rfl rfl (tw_46 hw) (tw_47 hw) (tw_49 hw) (tw_50 hw) (by decide) rfl (own_lenOf pd_24 rfl) rfl rfl rfl rfl (c_rec K a0 hw t h) (by simp) ?_
  rintro h1 xs rfl
  refine own_aload_n (pc' := 5) rfl d_tok_4 rfl (by first | rfl | assumption) ?_
  refine own_aload_n (pc' := 6) rfl d_tok_5 rfl (by first | rfl | assumption) ?_
  refine own_putF (pc' := 9) rfl d_tok_6 (tw_52 hw) Via.refl (Or.inr ⟨(tw_53 hw), rfl, rfl⟩) (tw_41 hw) (ty := (.object "com/example/sunder/sunder/SqlTokens$Kind")) (by decide) rfl rfl F1 (by assumption) (by simp) ?_
  intro h2 W2
  have F1' := F1.same W2
  have F2' := F2.other W2 (Or.inr (Ne.symm s12))
  have F3' := F3.other W2 (Or.inr (Ne.symm s13))
  have E2 := E.wr W2
  refine own_aload_n (pc' := 10) rfl d_tok_9 rfl (by first | rfl | assumption) ?_
  refine own_aload_n (pc' := 11) rfl d_tok_10 rfl (by first | rfl | assumption) ?_
  refine own_putF (pc' := 14) rfl d_tok_11 (tw_54 hw) Via.refl (Or.inr ⟨(tw_55 hw), rfl, rfl⟩) (tw_41 hw) (ty := (.object "java/lang/String")) (by decide) rfl rfl F2' (by assumption) (by simp) ?_
  intro h3 W3
  have F1'' := F1'.other W3 (Or.inr s12)
  have F3'' := F3'.other W3 (Or.inr (Ne.symm s23))
  have E3 := E2.wr W3
  refine own_aload_n (pc' := 15) rfl d_tok_14 rfl (by first | rfl | assumption) ?_
  refine own_iload_n (pc' := 16) rfl d_tok_15 rfl ?_
  refine own_putF (pc' := 19) rfl d_tok_16 (tw_56 hw) Via.refl (Or.inr ⟨(tw_57 hw), rfl, rfl⟩) (tw_41 hw) (ty := .int) (by decide) rfl rfl F3'' (by assumption) (by simp) ?_
  intro h4 W4
  refine own_return rfl d_tok_19 rfl rfl ?_
  exact ⟨(((Keep.of_wr W2).wr W3 (Or.inl (List.mem_singleton.mpr rfl))).wr W4 (Or.inl (List.mem_singleton.mpr rfl))), E3.wr W4, F1''.other W4 (Or.inr s13), (F2'.same W3).other W4 (Or.inr s23)⟩
theorem d_low_0 : decode method_6_code 0 = .ok (.iload_n 0, 1) := by decide +kernel
theorem d_low_1 : decode method_6_code 1 = .ok (.bipush 65, 2) := by decide +kernel
theorem d_low_3 : decode method_6_code 3 = .ok (.if_icmp .lt 14, 3) := by decide +kernel
theorem d_low_6 : decode method_6_code 6 = .ok (.iload_n 0, 1) := by decide +kernel
theorem d_low_7 : decode method_6_code 7 = .ok (.bipush 90, 2) := by decide +kernel
theorem d_low_9 : decode method_6_code 9 = .ok (.if_icmp .gt 8, 3) := by decide +kernel
theorem d_low_12 : decode method_6_code 12 = .ok (.iload_n 0, 1) := by decide +kernel
theorem d_low_13 : decode method_6_code 13 = .ok (.bipush 32, 2) := by decide +kernel
theorem d_low_15 : decode method_6_code 15 = .ok (.iadd, 1) := by decide +kernel
theorem d_low_16 : decode method_6_code 16 = .ok (.ireturn, 1) := by decide +kernel
theorem d_low_17 : decode method_6_code 17 = .ok (.iload_n 0, 1) := by decide +kernel
theorem d_low_18 : decode method_6_code 18 = .ok (.ireturn, 1) := by decide +kernel
abbrev M_low : own_Mi := ((⟨"com/example/sunder/sunder/TokenIsPinLaw", "lower", "(C)I"⟩ : MethodName), method_6_code, 1, (Option.some FieldType.int), ({ frames := 0, cells := 0, slots := 0, locals := 0 } : Room))
theorem pn_low : plainFor (own_Mi.y M_low) = true := plainFor_of_name (by first | (simp [plainName, overriddenIn]; done) | decide +kernel)
set_option maxRecDepth 65536 in
set_option maxHeartbeats 40000000 in
theorem c_low (K : own_Cx) (a0 : Array Value) (hw : ∀ d ∈ tables_1, d.before a0 K.Z = true) (c : Int32) (h : Heap) : own_Met K M_low #[.int c] [] h (own_ret fun w h' _ => w = .int (own_lw c) ∧ h' = h) := by
  have v1 : (65 : Int32).toInt = 65 := rfl
  have v2 : (90 : Int32).toInt = 90 := rfl
  have no : ∀ sf : List Addr, own_rg 65 90 c = false → own_WP K M_low (own_ret fun w h' _ => w = .int (own_lw c) ∧ h' = h) 17 [.val (.int c)] [] sf h 0 0 := by
    intro sf q
    refine own_iload_n (pc' := 18) rfl d_low_17 rfl ?_
    refine own_ireturn rfl d_low_18 rfl rfl ?_
    exact ⟨by rw [own_lw, q]; rfl, rfl⟩
  refine own_met_1_0 (M := M_low) pn_low rfl (by first | rfl | exact own_cat (by assumption)) ?_
  refine own_iload_n (pc' := 1) rfl d_low_0 rfl ?_
  refine own_bipush (v := (65 : Int32)) (pc' := 3) rfl d_low_1 rfl ?_
  refine own_icmplt (pcT := 17) (pcF := 6) d_low_3 (by decide) (by decide) rfl (fun q => ?_) (fun q => ?_)
  · rw [Int32.lt_iff_toInt_lt] at q
    exact no _ (own_rg_f (by omega))
  rw [Int32.lt_iff_toInt_lt] at q
  refine own_iload_n (pc' := 7) rfl d_low_6 rfl ?_
  refine own_bipush (v := (90 : Int32)) (pc' := 9) rfl d_low_7 rfl ?_
  refine own_icmpgt (pcT := 17) (pcF := 12) d_low_9 (by decide) (by decide) rfl (fun q2 => ?_) (fun q2 => ?_)
  · rw [Int32.lt_iff_toInt_lt] at q2
    exact no _ (own_rg_f (by omega))
  rw [Int32.lt_iff_toInt_lt] at q2
  refine own_iload_n (pc' := 13) rfl d_low_12 rfl ?_
  refine own_bipush (v := (32 : Int32)) (pc' := 15) rfl d_low_13 rfl ?_
  refine own_iadd (pc' := 16) rfl d_low_15 ?_
  refine own_ireturn rfl d_low_16 rfl rfl ?_
  exact ⟨by rw [own_lw, own_rg_t (by omega)]; rfl, rfl⟩
theorem d_fold_0 : decode prog_16_method_2_code 0 = .ok (.new 35, 3) := by decide +kernel
theorem d_fold_3 : decode prog_16_method_2_code 3 = .ok (.dup, 1) := by decide +kernel
theorem d_fold_4 : decode prog_16_method_2_code 4 = .ok (.aload_n 0, 1) := by decide +kernel
theorem d_fold_5 : decode prog_16_method_2_code 5 = .ok (.invokevirtual 37, 3) := by decide +kernel
theorem d_fold_8 : decode prog_16_method_2_code 8 = .ok (.invokespecial 41, 3) := by decide +kernel
theorem d_fold_11 : decode prog_16_method_2_code 11 = .ok (.astore_n 1, 1) := by decide +kernel
theorem d_fold_12 : decode prog_16_method_2_code 12 = .ok (.iconst 0, 1) := by decide +kernel
theorem d_fold_13 : decode prog_16_method_2_code 13 = .ok (.istore_n 2, 1) := by decide +kernel
theorem d_fold_14 : decode prog_16_method_2_code 14 = .ok (.iload_n 2, 1) := by decide +kernel
theorem d_fold_15 : decode prog_16_method_2_code 15 = .ok (.aload_n 0, 1) := by decide +kernel
theorem d_fold_16 : decode prog_16_method_2_code 16 = .ok (.invokevirtual 37, 3) := by decide +kernel
theorem d_fold_19 : decode prog_16_method_2_code 19 = .ok (.if_icmp .ge 41, 3) := by decide +kernel
theorem d_fold_22 : decode prog_16_method_2_code 22 = .ok (.aload_n 0, 1) := by decide +kernel
theorem d_fold_23 : decode prog_16_method_2_code 23 = .ok (.iload_n 2, 1) := by decide +kernel
theorem d_fold_24 : decode prog_16_method_2_code 24 = .ok (.invokevirtual 44, 3) := by decide +kernel
theorem d_fold_27 : decode prog_16_method_2_code 27 = .ok (.istore_n 3, 1) := by decide +kernel
theorem d_fold_28 : decode prog_16_method_2_code 28 = .ok (.aload_n 1, 1) := by decide +kernel
theorem d_fold_29 : decode prog_16_method_2_code 29 = .ok (.iload_n 3, 1) := by decide +kernel
theorem d_fold_30 : decode prog_16_method_2_code 30 = .ok (.bipush 65, 2) := by decide +kernel
theorem d_fold_32 : decode prog_16_method_2_code 32 = .ok (.if_icmp .lt 17, 3) := by decide +kernel
theorem d_fold_35 : decode prog_16_method_2_code 35 = .ok (.iload_n 3, 1) := by decide +kernel
theorem d_fold_36 : decode prog_16_method_2_code 36 = .ok (.bipush 90, 2) := by decide +kernel
theorem d_fold_38 : decode prog_16_method_2_code 38 = .ok (.if_icmp .gt 11, 3) := by decide +kernel
theorem d_fold_41 : decode prog_16_method_2_code 41 = .ok (.iload_n 3, 1) := by decide +kernel
theorem d_fold_42 : decode prog_16_method_2_code 42 = .ok (.bipush 32, 2) := by decide +kernel
theorem d_fold_44 : decode prog_16_method_2_code 44 = .ok (.iadd, 1) := by decide +kernel
theorem d_fold_45 : decode prog_16_method_2_code 45 = .ok (.i2c, 1) := by decide +kernel
theorem d_fold_46 : decode prog_16_method_2_code 46 = .ok (.goto 4, 3) := by decide +kernel
theorem d_fold_49 : decode prog_16_method_2_code 49 = .ok (.iload_n 3, 1) := by decide +kernel
theorem d_fold_50 : decode prog_16_method_2_code 50 = .ok (.invokevirtual 48, 3) := by decide +kernel
theorem d_fold_53 : decode prog_16_method_2_code 53 = .ok (.pop, 1) := by decide +kernel
theorem d_fold_54 : decode prog_16_method_2_code 54 = .ok (.iinc 2 1, 3) := by decide +kernel
theorem d_fold_57 : decode prog_16_method_2_code 57 = .ok (.goto (-43), 3) := by decide +kernel
theorem d_fold_60 : decode prog_16_method_2_code 60 = .ok (.aload_n 1, 1) := by decide +kernel
theorem d_fold_61 : decode prog_16_method_2_code 61 = .ok (.invokevirtual 52, 3) := by decide +kernel
theorem d_fold_64 : decode prog_16_method_2_code 64 = .ok (.areturn, 1) := by decide +kernel
abbrev M_fold : own_Mi := ((⟨"com/example/sunder/sunder/SqlTokens", "fold", "(Ljava/lang/String;)Ljava/lang/String;"⟩ : MethodName), prog_16_method_2_code, 4, (Option.some (FieldType.object "java/lang/String")), ({ frames := 8, cells := 6, slots := 22, locals := 115 } : Room))
theorem pn_fold : plainFor (own_Mi.y M_fold) = true := plainFor_of_name (by first | (simp [plainName, overriddenIn]; done) | decide +kernel)
def Q_fold (K : own_Cx) (cs : List Int32) (h : Heap) : Value → Heap → List Addr → Prop := fun w h' _ => ∃ z : Addr, w = .ref z ∧ Ext h h' ∧ own_Str K.Z h' z (cs.map own_lw)
set_option maxRecDepth 65536 in
set_option maxHeartbeats 40000000 in
theorem c_fold (K : own_Cx) (a0 : Array Value) (hw : ∀ d ∈ tables_1, d.before a0 K.Z = true) (hU : own_U16 K) (g : Int32) (SC : Sta K.Z K.Z.heap own_sC "COMPACT_STRINGS" "Z" (.int g)) (hg : ¬ g = 0) (rf : Value) (hrf : rf.isRef = true) (SF : Sta K.Z K.Z.heap "jdk/internal/util/Preconditions" "SIOOBE_FORMATTER" "Ljava/util/function/BiFunction;" rf) (x : Addr) (cs : List Int32) (h : Heap) (S : own_Str K.Z h x cs) (hl : cs.length ≤ 2) :
    own_Met K M_fold #[.ref x] [] h (own_ret (Q_fold K cs h)) := by
  have v1 : (1 : Int32).toInt = 1 := rfl
  have w1 : (65 : Int32).toInt = 65 := rfl
  have w2 : (90 : Int32).toInt = 90 := rfl
  have hn : (cs.length.toInt32).toInt = cs.length := own_lit _ (by omega)
  refine own_met_1_3 (M := M_fold) pn_fold rfl (by first | rfl | exact own_cat (by assumption)) ?_
  refine own_new (pc' := 3) rfl d_fold_0 (tw_68 hw) (tw_69 hw) (tw_70 hw) rfl rfl ?_
  intro b h1 eb E1 B1 D1
  have G1 := D1 (Or.inl (tw_94 hw)) (ty := .array .byte) (by decide)
  have G2 := D1 (Or.inl (tw_96 hw)) (ty := .byte) (by decide)
  have G3 := D1 (Or.inl (tw_124 hw)) (ty := .int) (by decide)
  have G4 := D1 (Or.inl (tw_277 hw)) (ty := .boolean) (by decide)
  have lb : @LT.lt Nat _ _ _ := B1.lt
  have e1s := E1.1
  have zb : @LE.le Nat _ h.size b := by omega
  refine own_dup (pc' := 4) rfl d_fold_3 (by first | rfl | assumption) ?_
  refine own_aload_n (pc' := 5) rfl d_fold_4 rfl (by first | rfl | assumption) ?_
  refine own_virtual0v (M' := M_sl) d_fold_5 (pc' := 8) rfl (tw_71 hw) (tw_72 hw) (tw_74 hw) (tw_73 hw) (tw_20 hw) (tw_75 hw) (by decide) rfl (own_lenOf pd_23 rfl) rfl rfl rfl rfl (S.ext E1).1 (c_sl K a0 hw g SC hg x cs h1 (S.ext E1)) (by simp) ?_
  rintro w h2 xs2 ⟨rfl, rfl⟩
  refine own_special1n (M' := M_sbi) d_fold_8 (pc' := 11) rfl rfl rfl (tw_82 hw) (tw_83 hw) (tw_70 hw) (tw_84 hw) (by decide) rfl (own_lenOf pd_18 rfl) rfl rfl rfl rfl (c_sbiE K a0 hw g SC hg b _ cs.length _ hn (by omega) B1 G1 G2 G3 G4) (by simp) ?_
  rintro h3 xs3 ⟨k3, d3, hd3, hz3, X3, T3⟩
  have E3 : Ext h h3 := own_ext_keep E1 k3 (by intro z hz; cases List.mem_singleton.mp hz; omega)
  have hbd : ∀ d, @LE.le Nat _ h.size d → ∀ z ∈ [b, d], h.size ≤ z := by
    intro d hd z hz
    simp only [List.mem_cons, List.not_mem_nil, or_false] at hz
    rcases hz with rfl | rfl
    · exact zb
    · exact hd
  have up : ∀ {h' : Heap} {d d' : Addr} {xs : List Addr}, Ext h h' → @LE.le Nat _ h.size d → d ≠ b → @LT.lt Nat _ b h'.size → (d' = d ∨ (d' ∈ xs ∧ h'.size ≤ d')) → (@LE.le Nat _ h.size d' ∧ d' ≠ b) ∧ ∀ L : List Addr, d ∈ L → d' ∈ xs ++ L := by
    intro h' d d' xs E hd hn hb hh
    rcases hh with rfl | ⟨m, z⟩
    · exact ⟨⟨hd, hn⟩, fun L hL => List.mem_append_right _ hL⟩
    · have := E.1
      exact ⟨⟨Nat.le_trans this z, own_ne (by omega)⟩, fun L _ => List.mem_append_left _ m⟩
  refine own_astore_n1 (pc' := 12) rfl d_fold_11 (by first | exact One.u | exact One.val rfl | assumption | exact One.val (by assumption)) (by first | rfl | assumption) ?_
  refine own_iconst (v := (0 : Int32)) (pc' := 13) rfl d_fold_12 rfl ?_
  refine own_istore_n2 (pc' := 14) rfl d_fold_13 (by first | exact One.u | exact One.val rfl | assumption | exact One.val (by assumption)) ?_
  suffices key : ∀ (k I : Nat) (i : Int32) (d : Addr) (o : Slot) (h4 : Heap) (sf : List Addr), I + k = cs.length → i.toInt = I → One o → b ∈ sf → d ∈ sf → @LE.le Nat _ h.size d → d ≠ b → Ext h h4 → Exa K.Z h4 d "[B" → own_SB K.Z h4 b d ((cs.take I).map own_lw) cs.length → own_WP K M_fold (own_ret (Q_fold K cs h)) 14 [.val (.ref x), .val (.ref b), .val (.int i), o] [] sf h4 (2 + I) (6 + 4 * I) from
    own_weak (key cs.length 0 0 d3 .unset h3 _ (by omega) rfl One.u (by simp) (List.mem_append_left _ hd3) (by omega) (own_ne (by omega)) E3 X3 T3) (fun x hx => hx) (by exact Nat.le_of_ble_eq_true rfl) (by exact Nat.le_of_ble_eq_true rfl)
  intro k
  induction k with
  | zero =>
    intro I i d o h4 sf hik hi ho hbs hds hzd nd E4 XE T4
    have S4 := S.ext E4
    have eI : cs.take I = cs := List.take_of_length_le (by omega)
    rw [eI] at T4
    refine own_iload_n (pc' := 15) rfl d_fold_14 rfl ?_
    refine own_aload_n (pc' := 16) rfl d_fold_15 rfl (by first | rfl | assumption) ?_
    refine own_virtual0v (M' := M_sl) d_fold_16 (pc' := 19) rfl (tw_71 hw) (tw_72 hw) (tw_74 hw) (tw_73 hw) (tw_20 hw) (tw_75 hw) (by decide) rfl (own_lenOf pd_23 rfl) rfl rfl (own_ble (by show 2 + I + 0 ≤ 6; omega)) (own_ble (by show 6 + 4 * I + 0 ≤ 22; omega)) S4.1 (c_sl K a0 hw g SC hg x cs h4 S4) (by simp) ?_
    rintro w h5 xs5 ⟨rfl, rfl⟩
    refine own_icmpge (pcT := 60) (pcF := 22) d_fold_19 (by decide) (by decide) rfl (fun q => ?_) (fun q => ?_)
    · skip
      refine own_aload_n (pc' := 61) rfl d_fold_60 rfl (by first | rfl | assumption) ?_
      refine own_virtual0v (M' := M_tos) d_fold_61 (pc' := 64) rfl (tw_97 hw) (tw_98 hw) (tw_100 hw) (tw_99 hw) (tw_70 hw) (tw_101 hw) (by decide) rfl (own_lenOf pd_32 rfl) rfl rfl (own_ble (by show 2 + I + 0 + 2 ≤ 6; omega)) (own_ble (by show 6 + 4 * I + 0 + 8 ≤ 22; omega)) T4.1 (c_tosC K a0 hw g SC hg b d _ cs.length _ T4 (by simp) XE (by show 2 * cs.length ≤ 4; omega)) (by simp) ?_
      rintro w h6 xs6 ⟨z, rfl, E6, hz6, S6⟩
      refine own_areturn rfl rfl (by first | rfl | assumption) d_fold_64 (own_ble (by show 2 + I + 0 + 2 ≤ 6; omega)) (own_ble (by show 6 + 4 * I + 0 + 8 ≤ 22; omega)) ?_
      exact ⟨z, rfl, own_ext_trans E4 E6, S6⟩
    · rw [Int32.lt_iff_toInt_lt] at q
      omega
  | succ k ih =>
    intro I i d o h4 sf hik hi ho hbs hds hzd nd E4 XE T4
    have S4 := S.ext E4
    have hI : I < cs.length := by omega
    obtain ⟨c, hc⟩ : ∃ c, cs[I]? = some c := ⟨cs[I], by simp [hI]⟩
    have hcr := S.2.1 c (List.mem_of_getElem? hc)
    have hi1 : (i + 1).toInt = ((I + 1 : Nat) : Int) := by rw [own_add hi v1] <;> omega
    have lb4 : @LT.lt Nat _ _ _ := T4.1.lt
    have elen : ((cs.take I).map own_lw).length = I := by rw [List.length_map, List.length_take]; omega
    have esn : (cs.take (I + 1)).map own_lw = (cs.take I).map own_lw ++ [own_lw c] := by
      rw [List.take_add_one, hc]; simp
    have tail : ∀ sf : List Addr, b ∈ sf → d ∈ sf → own_WP K M_fold (own_ret (Q_fold K cs h)) 50 [.val (.ref x), .val (.ref b), .val (.int i), .val (.int c)] [.int (own_lw c), .ref b] sf h4 (2 + I) (6 + 4 * I) := by
      intro sf hbs' hds'
      have lr := own_lw_r hcr.1 hcr.2
      refine own_virtual1v (M' := M_sac) d_fold_50 (pc' := 53) rfl (tw_188 hw) (tw_189 hw) (tw_191 hw) (tw_190 hw) (tw_70 hw) (tw_192 hw) (by decide) rfl (own_lenOf pd_33 rfl) rfl rfl (own_ble (by show 2 + I + 1 ≤ 6; omega)) (own_ble (by show 6 + 4 * I + 4 ≤ 22; omega)) T4.1 (c_sacE K a0 hw hU rf hrf SF g SC hg b d (own_lw c) _ cs.length _ T4 (by omega) nd lr.1 lr.2 (by rw [elen]; omega) XE) (own_mem2 (by simp [hbs']) (by simp [hds'])) ?_
      rintro w h9 xs9 ⟨rfl, k9, d9, hb9, X9, T9⟩
      have u9 := up E4 hzd nd lb4 hb9
      have E9 := own_ext_keep E4 k9 (hbd _ hzd)
      refine own_pop (pc' := 54) rfl d_fold_53 (by first | rfl | assumption) ?_
      refine own_iinc_2 (z := (1 : Int32)) (pc' := 57) rfl d_fold_54 rfl ?_
      refine own_goto (pc' := 14) d_fold_57 (by decide) (by decide) ?_
      exact own_weak (ih (I + 1) (i + 1) d9 _ h9 _ (by omega) hi1 (One.val rfl) (by simp [hbs']) (u9.2 _ (by simp [hds'])) u9.1.1 u9.1.2 E9 X9 (by rw [esn]; exact T9)) (fun x hx => hx) (by show 2 + I + 1 ≤ 2 + (I + 1); omega) (by show 6 + 4 * I + 4 ≤ 6 + 4 * (I + 1); omega)
    have same : ∀ sf : List Addr, own_rg 65 90 c = false → b ∈ sf → d ∈ sf → own_WP K M_fold (own_ret (Q_fold K cs h)) 49 [.val (.ref x), .val (.ref b), .val (.int i), .val (.int c)] [.ref b] sf h4 (2 + I) (6 + 4 * I) := by
      intro sf q hbs' hds'
      refine own_iload_n (pc' := 50) rfl d_fold_49 rfl ?_
      have := tail sf hbs' hds'
      rw [show own_lw c = c by rw [own_lw, q]; rfl] at this
      exact this
    refine own_iload_n (pc' := 15) rfl d_fold_14 rfl ?_
    refine own_aload_n (pc' := 16) rfl d_fold_15 rfl (by first | rfl | assumption) ?_
    refine own_virtual0v (M' := M_sl) d_fold_16 (pc' := 19) rfl (tw_71 hw) (tw_72 hw) (tw_74 hw) (tw_73 hw) (tw_20 hw) (tw_75 hw) (by decide) rfl (own_lenOf pd_23 rfl) rfl rfl (own_ble (by show 2 + I + 0 ≤ 6; omega)) (own_ble (by show 6 + 4 * I + 0 ≤ 22; omega)) S4.1 (c_sl K a0 hw g SC hg x cs h4 S4) (by simp) ?_
    rintro w h5 xs5 ⟨rfl, rfl⟩
    refine own_icmpge (pcT := 60) (pcF := 22) d_fold_19 (by decide) (by decide) rfl (fun q => ?_) (fun q => ?_)
    · exact absurd (by rw [Int32.lt_iff_toInt_lt]; omega) q
    refine own_aload_n (pc' := 23) rfl d_fold_22 rfl (by first | rfl | assumption) ?_
    refine own_iload_n (pc' := 24) rfl d_fold_23 rfl ?_
    refine own_virtual1v (M' := M_sca) d_fold_24 (pc' := 27) rfl (tw_167 hw) (tw_168 hw) (tw_170 hw) (tw_169 hw) (tw_20 hw) (tw_171 hw) (by decide) rfl (own_lenOf pd_34 rfl) rfl rfl (own_ble (by show 2 + I + 0 + 0 ≤ 6; omega)) (own_ble (by show 6 + 4 * I + 0 + 0 ≤ 22; omega)) S4.1 (c_sca K a0 hw hU g SC hg rf hrf SF x cs i I c _ S4 (by omega) hi hc) (by simp) ?_
    rintro w h6 xs6 ⟨rfl, rfl⟩
    refine own_istore_n3 (pc' := 28) rfl d_fold_27 (by first | exact One.u | exact One.val rfl | assumption | exact One.val (by assumption)) ?_
    refine own_aload_n (pc' := 29) rfl d_fold_28 rfl (by first | rfl | assumption) ?_
    refine own_iload_n (pc' := 30) rfl d_fold_29 rfl ?_
    refine own_bipush (v := (65 : Int32)) (pc' := 32) rfl d_fold_30 rfl ?_
    refine own_icmplt (pcT := 49) (pcF := 35) d_fold_32 (by decide) (by decide) rfl (fun q2 => ?_) (fun q2 => ?_)
    · rw [Int32.lt_iff_toInt_lt] at q2
      exact own_weak (same _ (own_rg_f (by omega)) (by simp [hbs]) (by simp [hds])) (fun x hx => hx) (by show 2 + I + 0 + 0 ≤ 2 + I; omega) (by show 6 + 4 * I + 0 + 0 ≤ 6 + 4 * I; omega)
    rw [Int32.lt_iff_toInt_lt] at q2
    refine own_iload_n (pc' := 36) rfl d_fold_35 rfl ?_
    refine own_bipush (v := (90 : Int32)) (pc' := 38) rfl d_fold_36 rfl ?_
    refine own_icmpgt (pcT := 49) (pcF := 41) d_fold_38 (by decide) (by decide) rfl (fun q3 => ?_) (fun q3 => ?_)
    · rw [Int32.lt_iff_toInt_lt] at q3
      exact own_weak (same _ (own_rg_f (by omega)) (by simp [hbs]) (by simp [hds])) (fun x hx => hx) (by show 2 + I + 0 + 0 ≤ 2 + I; omega) (by show 6 + 4 * I + 0 + 0 ≤ 6 + 4 * I; omega)
    rw [Int32.lt_iff_toInt_lt] at q3
    have qu : own_rg 65 90 c = true := own_rg_t (by omega)
    refine own_iload_n (pc' := 42) rfl d_fold_41 rfl ?_
    refine own_bipush (v := (32 : Int32)) (pc' := 44) rfl d_fold_42 rfl ?_
    refine own_iadd (pc' := 45) rfl d_fold_44 ?_
    refine own_i2c (pc' := 46) rfl d_fold_45 ?_
    rw [(own_up_i qu).1]
    refine own_goto (pc' := 50) d_fold_46 (by decide) (by decide) ?_
    have tt := tail (xs6 ++ (xs5 ++ sf)) (by simp [hbs]) (by simp [hds])
    rw [show own_lw c = c + 32 by rw [own_lw, qu]; rfl] at tt
    exact own_weak tt (fun x hx => hx) (by show 2 + I + 0 + 0 ≤ 2 + I; omega) (by show 6 + 4 * I + 0 + 0 ≤ 6 + 4 * I; omega)
theorem d_tis_0 : decode prog_18_method_2_code 0 = .ok (.aload_n 0, 1) := by decide +kernel
theorem d_tis_1 : decode prog_18_method_2_code 1 = .ok (.getfield 7, 3) := by decide +kernel
theorem d_tis_4 : decode prog_18_method_2_code 4 = .ok (.getstatic 21, 3) := by decide +kernel
theorem d_tis_7 : decode prog_18_method_2_code 7 = .ok (.if_acmp .ne 24, 3) := by decide +kernel
theorem d_tis_10 : decode prog_18_method_2_code 10 = .ok (.aload_n 0, 1) := by decide +kernel
theorem d_tis_11 : decode prog_18_method_2_code 11 = .ok (.getfield 13, 3) := by decide +kernel
theorem d_tis_14 : decode prog_18_method_2_code 14 = .ok (.invokestatic 26, 3) := by decide +kernel
theorem d_tis_17 : decode prog_18_method_2_code 17 = .ok (.aload_n 1, 1) := by decide +kernel
theorem d_tis_18 : decode prog_18_method_2_code 18 = .ok (.invokestatic 26, 3) := by decide +kernel
theorem d_tis_21 : decode prog_18_method_2_code 21 = .ok (.invokevirtual 32, 3) := by decide +kernel
theorem d_tis_24 : decode prog_18_method_2_code 24 = .ok (.ifCond .eq 7, 3) := by decide +kernel
theorem d_tis_27 : decode prog_18_method_2_code 27 = .ok (.iconst 1, 1) := by decide +kernel
theorem d_tis_28 : decode prog_18_method_2_code 28 = .ok (.goto 4, 3) := by decide +kernel
theorem d_tis_31 : decode prog_18_method_2_code 31 = .ok (.iconst 0, 1) := by decide +kernel
theorem d_tis_32 : decode prog_18_method_2_code 32 = .ok (.ireturn, 1) := by decide +kernel
abbrev M_tis : own_Mi := ((⟨"com/example/sunder/sunder/SqlTokens$Token", "is", "(Ljava/lang/String;)Z"⟩ : MethodName), prog_18_method_2_code, 2, (Option.some FieldType.boolean), ({ frames := 9, cells := 12, slots := 44, locals := 131 } : Room))
theorem pn_tis : plainFor (own_Mi.y M_tis) = true := plainFor_of_name (by first | (simp [plainName, overriddenIn]; done) | decide +kernel)
set_option maxRecDepth 65536 in
set_option maxHeartbeats 40000000 in
theorem c_tis (K : own_Cx) (a0 : Array Value) (hw : ∀ d ∈ tables_1, d.before a0 K.Z = true) (hU : own_U16 K) (g : Int32) (SC : Sta K.Z K.Z.heap own_sC "COMPACT_STRINGS" "Z" (.int g)) (hg : ¬ g = 0) (rf : Value) (hrf : rf.isRef = true) (SF : Sta K.Z K.Z.heap "jdk/internal/util/Preconditions" "SIOOBE_FORMATTER" "Ljava/util/function/BiFunction;" rf) (kf : Nat → Addr) (hk : own_Kinds K.Z kf) (t kd x y : Addr) (cs ds : List Int32) (h : Heap) (F1 : Fld K.Z h t own_tC "kind" own_kD (.ref kd)) (F2 : Fld K.Z h t own_tC "text" "Ljava/lang/String;" (.ref x)) (X : own_Str K.Z h x cs) (Y : own_Str K.Z h y ds) (hc : cs.length ≤ 2) (hd : ds.length ≤ 2) :
    own_Met K M_tis #[.ref t, .ref y] [] h (own_ret fun w h' _ => w = .int (if kd = kf 0 ∧ cs.map own_lw = ds.map own_lw then 1 else 0)) := by
  obtain ⟨k0, k1, k2, k3, k4, k5, k6⟩ := hk
  refine own_met_2_0 (M := M_tis) pn_tis rfl (by first | rfl | exact own_cat (by assumption)) (by first | rfl | exact own_cat (by assumption)) ?_
  refine own_aload_n (pc' := 1) rfl d_tis_0 rfl (by first | rfl | assumption) ?_
  refine own_getF (pc' := 4) rfl d_tis_1 (tw_52 hw) Via.refl F1 ?_
  refine own_getS (pc' := 7) rfl d_tis_4 (tw_63 hw) Via.refl (by assumption) ?_
  refine own_acmpne (pcT := 31) (pcF := 10) d_tis_7 (by decide) (by decide) rfl (by first | rfl | assumption) (by first | rfl | assumption) (fun q => ?_) (fun q => ?_)
  · have nk : ¬ kd = kf 0 := fun z => q (by rw [z])
    refine own_iconst (v := (0 : Int32)) (pc' := 32) rfl d_tis_31 rfl ?_
    refine own_ireturnN (t := .boolean) rfl (by simp) (by first | exact own_nb0 | exact own_nb1 | rfl) d_tis_32 rfl rfl ?_
    show Value.int 0 = _
    rw [if_neg (fun z => nk z.1)]
  · have ek : kd = kf 0 := Value.ref.inj q
    refine own_aload_n (pc' := 11) rfl d_tis_10 rfl (by first | rfl | assumption) ?_
    refine own_getF (pc' := 14) rfl d_tis_11 (tw_54 hw) Via.refl F2 ?_
    refine own_static1v (M' := M_fold) d_tis_14 (pc' := 17) rfl (tw_64 hw) (tw_65 hw) (tw_66 hw) (tw_67 hw) (by decide) rfl (own_lenOf pd_35 rfl) rfl rfl rfl rfl (c_fold K a0 hw hU g SC hg rf hrf SF x cs h X hc) (by simp) ?_
    rintro w h1 xs1 ⟨a, rfl, E1, A1⟩
    refine own_aload_n (pc' := 18) rfl d_tis_17 rfl (by first | rfl | assumption) ?_
    refine own_static1v (M' := M_fold) d_tis_18 (pc' := 21) rfl (tw_64 hw) (tw_65 hw) (tw_66 hw) (tw_67 hw) (by decide) rfl (own_lenOf pd_35 rfl) rfl rfl rfl rfl (c_fold K a0 hw hU g SC hg rf hrf SF y ds h1 (Y.ext E1) hd) (by simp) ?_
    rintro w h2 xs2 ⟨b, rfl, E2, B2⟩
    refine own_virtual1v (M' := M_seq) d_tis_21 (pc' := 24) rfl (tw_143 hw) (tw_144 hw) (tw_146 hw) (tw_145 hw) (tw_20 hw) (tw_147 hw) (by decide) rfl (own_lenOf pd_36 rfl) rfl rfl rfl rfl (A1.ext E2).1 (c_seq K a0 hw g SC hg a b _ _ h2 (A1.ext E2) B2) (by simp) ?_
    rintro w h3 xs3 ⟨rfl, rfl⟩
    by_cases z : cs.map own_lw = ds.map own_lw
    · rw [if_pos z]
      refine own_ifeq (pcT := 31) (pcF := 27) d_tis_24 (by decide) (by decide) rfl (fun q2 => ?_) (fun q2 => ?_)
      · exact absurd q2 (by decide)
      refine own_iconst (v := (1 : Int32)) (pc' := 28) rfl d_tis_27 rfl ?_
      refine own_goto (pc' := 32) d_tis_28 (by decide) (by decide) ?_
      refine own_ireturnN (t := .boolean) rfl (by simp) (by first | exact own_nb0 | exact own_nb1 | rfl) d_tis_32 rfl rfl ?_
      show Value.int 1 = _
      rw [if_pos ⟨ek, z⟩]
    · rw [if_neg z]
      refine own_ifeq (pcT := 31) (pcF := 27) d_tis_24 (by decide) (by decide) rfl (fun q2 => ?_) (fun q2 => ?_)
      rotate_left 1
      · exact absurd rfl q2
      refine own_iconst (v := (0 : Int32)) (pc' := 32) rfl d_tis_31 rfl ?_
      refine own_ireturnN (t := .boolean) rfl (by simp) (by first | exact own_nb0 | exact own_nb1 | rfl) d_tis_32 rfl rfl ?_
      show Value.int 0 = _
      rw [if_neg (fun y => z y.2)]
theorem own_take2 {t0 t1 k0 k1 tl kl : Int32} {TL KL : Nat} (hT : (TL = 0 ∧ tl = 0) ∨ (TL = 1 ∧ tl = 1) ∨ (TL = 2 ∧ tl = 2)) (hK : (KL = 0 ∧ kl = 0) ∨ (KL = 1 ∧ kl = 1) ∨ (KL = 2 ∧ kl = 2)) : (([t0, t1].take TL).map own_lw = ([k0, k1].take KL).map own_lw) ↔ (tl = kl ∧ (tl.toInt < 1 ∨ own_lw t0 = own_lw k0) ∧ (tl.toInt < 2 ∨ own_lw t1 = own_lw k1)) := by
  have e0 : (0 : Int32).toInt = 0 := rfl
  have e1 : (1 : Int32).toInt = 1 := rfl
  have e2 : (2 : Int32).toInt = 2 := rfl
  rcases hT with ⟨rfl, rfl⟩ | ⟨rfl, rfl⟩ | ⟨rfl, rfl⟩ <;> rcases hK with ⟨rfl, rfl⟩ | ⟨rfl, rfl⟩ | ⟨rfl, rfl⟩ <;> simp only [e0, e1, e2, List.take, List.map] <;> simp
abbrev M_law : own_Mi := (x, code, maxLocals, ret, room_1)
theorem pn_law : plainFor (own_Mi.y M_law) = true := plainFor_of_name (by first | (simp [plainName, overriddenIn]; done) | decide +kernel)
set_option maxRecDepth 65536 in
set_option maxHeartbeats 40000000 in
theorem c_law (K : own_Cx) (a0 : Array Value) (hw : ∀ d ∈ tables_1, d.before a0 K.Z = true) (hnw : K.nw = false) (hEL : EW K.Z a0 K.E) (hme : ("java/lang/String", 7) ∈ K.E) (hU : own_U16 K) (rf : Value) (hrf : rf.isRef = true) (SF : Sta K.Z K.Z.heap "jdk/internal/util/Preconditions" "SIOOBE_FORMATTER" "Ljava/util/function/BiFunction;" rf) (g : Int32) (SC : Sta K.Z K.Z.heap own_sC "COMPACT_STRINGS" "Z" (.int g)) (hg : ¬ g = 0) (kf : Nat → Addr) (hk : own_Kinds K.Z kf) (p0 p1 p2 p3 : Int32) (h : Heap) :
    own_Met K M_law #[.int p0, .int p1, .int p2, .int p3] [] h (own_ret fun w _ _ => w = .int 1) := by
  have v2 : (2 : Int32).toInt = 2 := rfl
  have v1 : (1 : Int32).toInt = 1 := rfl
  have mm : ∀ (x r : Int32), ((2 : Int32).toInt < (x &&& 3).toInt ∧ r = 2) ∨ ((x &&& 3).toInt ≤ (2 : Int32).toInt ∧ r = x &&& 3) → 0 ≤ r.toInt ∧ r.toInt < 3 := by
    intro x r hr
    have := c_mask x 3 2 (by decide) (by decide)
    rcases hr with ⟨z, rfl⟩ | ⟨z, rfl⟩ <;> omega
  have gen : ∀ x : Int32, ∃ c : Int32, x.toUInt32.toUInt16.toUInt32.toInt32 = c ∧ 0 ≤ c.toInt ∧ c.toInt < 65536 := fun x => ⟨_, rfl, own_ch_r x⟩
  obtain ⟨t0, et0, rt0⟩ := gen (p1 &&& 65535)
  obtain ⟨t1, et1, rt1⟩ := gen (XT.ushr p1 16 &&& 65535)
  obtain ⟨f0, ef0, rf0⟩ := gen (p2 &&& 65535)
  obtain ⟨f1, ef1, rf1⟩ := gen (XT.ushr p2 16 &&& 65535)
  refine own_met_4_11 (M := M_law) pn_law rfl (by first | rfl | exact own_cat (by assumption)) (by first | rfl | exact own_cat (by assumption)) (by first | rfl | exact own_cat (by assumption)) (by first | rfl | exact own_cat (by assumption)) ?_
  refine own_iload_n (pc' := 1) rfl at_0 rfl ?_
  refine own_bipush (v := (7 : Int32)) (pc' := 3) rfl at_1 rfl ?_
  refine own_iand (pc' := 4) rfl at_3 ?_
  refine own_static1v (M' := M_kof) at_4 (pc' := 7) rfl (tw_0 hw) (tw_1 hw) (tw_2 hw) (tw_3 hw) (by decide) rfl (own_lenOf pd_37 rfl) rfl rfl rfl rfl (c_kof K a0 hw kf hk _ h) (by simp) ?_
  rintro w h1 xs1 ⟨kd, rfl, rfl⟩
  refine own_astore_4 (pc' := 9) rfl at_7 (by first | exact One.u | exact One.val rfl | assumption | exact One.val (by assumption)) (by first | rfl | assumption) ?_
  refine own_iload_n (pc' := 10) rfl at_9 rfl ?_
  refine own_iconst (v := (3 : Int32)) (pc' := 11) rfl at_10 rfl ?_
  refine own_iushr (pc' := 12) rfl at_11 ?_
  refine own_iconst (v := (3 : Int32)) (pc' := 13) rfl at_12 rfl ?_
  refine own_iand (pc' := 14) rfl at_13 ?_
  refine own_iconst (v := (2 : Int32)) (pc' := 15) rfl at_14 rfl ?_
  refine own_static2v (M' := M_mmn) at_15 (pc' := 18) rfl (tw_7 hw) (tw_8 hw) (tw_9 hw) (tw_10 hw) (by decide) rfl (own_lenOf pd_38 rfl) rfl rfl rfl rfl (c_mmn K a0 hw _ _ _) (by simp) ?_
  rintro w h2 xs2 ⟨tl, rfl, htl, rfl⟩
  have rtl := mm _ _ htl
  obtain ⟨TL, hTL⟩ := own_n3 rtl.1 rtl.2
  refine own_istore_5 (pc' := 20) rfl at_18 (by first | exact One.u | exact One.val rfl | assumption | exact One.val (by assumption)) ?_
  refine own_iload_n (pc' := 21) rfl at_20 rfl ?_
  refine own_iconst (v := (5 : Int32)) (pc' := 22) rfl at_21 rfl ?_
  refine own_iushr (pc' := 23) rfl at_22 ?_
  refine own_iconst (v := (1 : Int32)) (pc' := 24) rfl at_23 rfl ?_
  refine own_iand (pc' := 25) rfl at_24 ?_
  suffices k43 : ∀ (kl : Int32) (sf : List Addr), 0 ≤ kl.toInt ∧ kl.toInt < 3 → own_WP K M_law (own_ret fun w _ _ => w = .int 1) 43 [.val (.int p0), .val (.int p1), .val (.int p2), .val (.int p3), .val (.ref kd), .val (.int tl), .unset, .unset, .unset, .unset, .unset, .unset, .unset, .unset, .unset] [.int kl] sf h2 0 0 by
    refine own_ifne (pcT := 33) (pcF := 28) at_25 (by decide) (by decide) rfl (fun q => ?_) (fun q => ?_)
    · skip
      refine own_iload_n (pc' := 34) rfl at_33 rfl ?_
      refine own_bipush (v := (6 : Int32)) (pc' := 36) rfl at_34 rfl ?_
      refine own_iushr (pc' := 37) rfl at_36 ?_
      refine own_iconst (v := (3 : Int32)) (pc' := 38) rfl at_37 rfl ?_
      refine own_iand (pc' := 39) rfl at_38 ?_
      refine own_iconst (v := (2 : Int32)) (pc' := 40) rfl at_39 rfl ?_
      refine own_static2v (M' := M_mmn) at_40 (pc' := 43) rfl (tw_7 hw) (tw_8 hw) (tw_9 hw) (tw_10 hw) (by decide) rfl (own_lenOf pd_38 rfl) rfl rfl rfl rfl (c_mmn K a0 hw _ _ _) (by simp) ?_
      rintro w h3 xs3 ⟨kl, rfl, hkl, rfl⟩
      exact own_weak (k43 kl _ (mm _ _ hkl)) (fun x hx => hx) (by exact Nat.le_of_ble_eq_true rfl) (by exact Nat.le_of_ble_eq_true rfl)
    · skip
      refine own_iload (pc' := 30) rfl at_28 rfl ?_
      refine own_goto (pc' := 43) at_30 (by decide) (by decide) ?_
      exact own_weak (k43 tl _ rtl) (fun x hx => hx) (by exact Nat.le_of_ble_eq_true rfl) (by exact Nat.le_of_ble_eq_true rfl)
  intro kl sf rkl
  obtain ⟨KL, hKL⟩ := own_n3 rkl.1 rkl.2
  refine own_istore_6 (pc' := 45) rfl at_43 (by first | exact One.u | exact One.val rfl | assumption | exact One.val (by assumption)) ?_
  refine own_iload_n (pc' := 46) rfl at_45 rfl ?_
  refine own_ldcI (pc' := 48) rfl at_46 (tw_11 hw) ?_
  refine own_iand (pc' := 49) rfl at_48 ?_
  refine own_i2c (pc' := 50) rfl at_49 ?_
  rw [et0]
  refine own_istore_7 (pc' := 52) rfl at_50 (by first | exact One.u | exact One.val rfl | assumption | exact One.val (by assumption)) ?_
  refine own_iload_n (pc' := 53) rfl at_52 rfl ?_
  refine own_bipush (v := (16 : Int32)) (pc' := 55) rfl at_53 rfl ?_
  refine own_iushr (pc' := 56) rfl at_55 ?_
  refine own_ldcI (pc' := 58) rfl at_56 (tw_11 hw) ?_
  refine own_iand (pc' := 59) rfl at_58 ?_
  refine own_i2c (pc' := 60) rfl at_59 ?_
  rw [et1]
  refine own_istore_8 (pc' := 62) rfl at_60 (by first | exact One.u | exact One.val rfl | assumption | exact One.val (by assumption)) ?_
  refine own_iload_n (pc' := 63) rfl at_62 rfl ?_
  refine own_bipush (v := (8 : Int32)) (pc' := 65) rfl at_63 rfl ?_
  refine own_iushr (pc' := 66) rfl at_65 ?_
  refine own_iconst (v := (3 : Int32)) (pc' := 67) rfl at_66 rfl ?_
  refine own_iand (pc' := 68) rfl at_67 ?_
  refine own_iload (pc' := 70) rfl at_68 rfl ?_
  refine own_iload_n (pc' := 71) rfl at_70 rfl ?_
  refine own_ldcI (pc' := 73) rfl at_71 (tw_11 hw) ?_
  refine own_iand (pc' := 74) rfl at_73 ?_
  refine own_i2c (pc' := 75) rfl at_74 ?_
  rw [ef0]
  refine own_static3v (M' := M_drv) at_75 (pc' := 78) rfl (tw_12 hw) (tw_13 hw) (tw_2 hw) (tw_14 hw) (by decide) rfl (own_lenOf pd_39 rfl) rfl rfl rfl rfl (c_drv K a0 hw _ t0 f0 _ rt0 rf0) (by simp) ?_
  rintro w h3 xs3 ⟨k0, rfl, rk0, rfl⟩
  refine own_istore_9 (pc' := 80) rfl at_78 (by first | exact One.u | exact One.val rfl | assumption | exact One.val (by assumption)) ?_
  refine own_iload_n (pc' := 81) rfl at_80 rfl ?_
  refine own_bipush (v := (10 : Int32)) (pc' := 83) rfl at_81 rfl ?_
  refine own_iushr (pc' := 84) rfl at_83 ?_
  refine own_iconst (v := (3 : Int32)) (pc' := 85) rfl at_84 rfl ?_
  refine own_iand (pc' := 86) rfl at_85 ?_
  refine own_iload (pc' := 88) rfl at_86 rfl ?_
  refine own_iload_n (pc' := 89) rfl at_88 rfl ?_
  refine own_bipush (v := (16 : Int32)) (pc' := 91) rfl at_89 rfl ?_
  refine own_iushr (pc' := 92) rfl at_91 ?_
  refine own_ldcI (pc' := 94) rfl at_92 (tw_11 hw) ?_
  refine own_iand (pc' := 95) rfl at_94 ?_
  refine own_i2c (pc' := 96) rfl at_95 ?_
  rw [ef1]
  refine own_static3v (M' := M_drv) at_96 (pc' := 99) rfl (tw_12 hw) (tw_13 hw) (tw_2 hw) (tw_14 hw) (by decide) rfl (own_lenOf pd_39 rfl) rfl rfl rfl rfl (c_drv K a0 hw _ t1 f1 _ rt1 rf1) (by simp) ?_
  rintro w h4 xs4 ⟨k1, rfl, rk1, rfl⟩
  have cT : own_Chs [t0, t1] := by
    intro c hc
    simp only [List.mem_cons, List.not_mem_nil, or_false] at hc
    rcases hc with rfl | rfl <;> assumption
  have cK : own_Chs [k0, k1] := by
    intro c hc
    simp only [List.mem_cons, List.not_mem_nil, or_false] at hc
    rcases hc with rfl | rfl <;> assumption
  refine own_istore_10 (pc' := 101) rfl at_99 (by first | exact One.u | exact One.val rfl | assumption | exact One.val (by assumption)) ?_
  refine own_iload (pc' := 103) rfl at_101 rfl ?_
  refine own_iload (pc' := 105) rfl at_103 rfl ?_
  refine own_iload (pc' := 107) rfl at_105 rfl ?_
  refine own_static3v (M' := M_mk) at_107 (pc' := 110) rfl (tw_15 hw) (tw_16 hw) (tw_2 hw) (tw_17 hw) (by decide) rfl (own_lenOf pd_40 rfl) rfl rfl rfl rfl (c_mk K a0 hw hU hnw hEL hme g SC hg tl t0 t1 TL _ hTL cT) (by simp) ?_
  rintro w h5 xs5 ⟨tx, rfl, E5, X5⟩
  refine own_astore_11 (pc' := 112) rfl at_110 (by first | exact One.u | exact One.val rfl | assumption | exact One.val (by assumption)) (by first | rfl | assumption) ?_
  refine own_iload (pc' := 114) rfl at_112 rfl ?_
  refine own_iload (pc' := 116) rfl at_114 rfl ?_
  refine own_iload (pc' := 118) rfl at_116 rfl ?_
  refine own_static3v (M' := M_mk) at_118 (pc' := 121) rfl (tw_15 hw) (tw_16 hw) (tw_2 hw) (tw_17 hw) (by decide) rfl (own_lenOf pd_40 rfl) rfl rfl rfl rfl (c_mk K a0 hw hU hnw hEL hme g SC hg kl k0 k1 KL _ hKL cK) (by simp) ?_
  rintro w h6 xs6 ⟨kx, rfl, E6, Y6⟩
  have X6 := X5.ext E6
  refine own_astore_12 (pc' := 123) rfl at_121 (by first | exact One.u | exact One.val rfl | assumption | exact One.val (by assumption)) (by first | rfl | assumption) ?_
  refine own_new (pc' := 126) rfl at_123 (tw_40 hw) (tw_41 hw) (tw_42 hw) rfl rfl ?_
  intro t h7 et E7 T7 D7
  have lt7 : @LT.lt Nat _ _ _ := T7.lt
  refine own_dup (pc' := 127) rfl at_126 (by first | rfl | assumption) ?_
  refine own_aload (pc' := 129) rfl at_127 rfl (by first | rfl | assumption) ?_
  refine own_aload (pc' := 131) rfl at_129 rfl (by first | rfl | assumption) ?_
  refine own_iload_n (pc' := 132) rfl at_131 rfl ?_
  refine own_special3n (M' := M_tok) at_132 (pc' := 135) rfl rfl rfl (tw_43 hw) (tw_44 hw) (tw_42 hw) (tw_45 hw) (by decide) rfl (own_lenOf pd_41 rfl) rfl rfl rfl rfl (c_tok K a0 hw t kd tx p3 h7 T7 (D7 (Or.inr (tw_53 hw)) (ty := .object own_kC) (by decide)) (D7 (Or.inr (tw_55 hw)) (ty := .object "java/lang/String") (by decide)) (D7 (Or.inr (tw_57 hw)) (ty := .int) (by decide))) (by simp) ?_
  rintro h8 xs8 ⟨k8, T8, F8, G8⟩
  have E8 : Ext h6 h8 := own_ext_keep E7 k8 (by intro z hz; cases List.mem_singleton.mp hz; omega)
  refine own_aload (pc' := 137) rfl at_135 rfl (by first | rfl | assumption) ?_
  refine own_virtual1v (M' := M_tis) at_137 (pc' := 140) rfl (tw_58 hw) (tw_59 hw) (tw_61 hw) (tw_60 hw) (tw_42 hw) (tw_62 hw) (by decide) rfl (own_lenOf pd_42 rfl) rfl rfl rfl rfl T8 (c_tis K a0 hw hU g SC hg rf hrf SF kf hk t kd tx kx _ _ h8 F8 G8 (X6.ext E8) (Y6.ext E8) (by rcases hTL with ⟨rfl, -⟩ | ⟨rfl, -⟩ | ⟨rfl, -⟩ <;> simp) (by rcases hKL with ⟨rfl, -⟩ | ⟨rfl, -⟩ | ⟨rfl, -⟩ <;> simp)) (by simp) ?_
  rintro w h9 xs9 rfl
  have ht := own_take2 (t0 := t0) (t1 := t1) (k0 := k0) (k1 := k1) hTL hKL
  obtain ⟨act, eact⟩ : ∃ act : Int32, (if kd = kf 0 ∧ ([t0, t1].take TL).map own_lw = ([k0, k1].take KL).map own_lw then (1 : Int32) else 0) = act := ⟨_, rfl⟩
  rw [eact]
  obtain ⟨z0, -⟩ := hk
  have fin : ∀ (ex : Int32) (sf : List Addr), act = ex → own_WP K M_law (own_ret fun w _ _ => w = .int 1) 200 [.val (.int p0), .val (.int p1), .val (.int p2), .val (.int p3), .val (.ref kd), .val (.int tl), .val (.int kl), .val (.int t0), .val (.int t1), .val (.int k0), .val (.int k1), .val (.ref tx), .val (.ref kx), .val (.int act), .unset] [.int ex] sf h9 25 75 := by
    intro ex sf e
    subst e
    refine own_istore_14 (pc' := 202) rfl at_200 (by first | exact One.u | exact One.val rfl | assumption | exact One.val (by assumption)) ?_
    refine own_iload (pc' := 204) rfl at_202 rfl ?_
    refine own_iload (pc' := 206) rfl at_204 rfl ?_
    refine own_icmpne (pcT := 213) (pcF := 209) at_206 (by decide) (by decide) rfl (fun q => ?_) (fun q => ?_)
    · exact absurd rfl q
    refine own_iconst (v := (1 : Int32)) (pc' := 210) rfl at_209 rfl ?_
    refine own_goto (pc' := 214) at_210 (by decide) (by decide) ?_
    refine own_ireturnN (t := .boolean) rfl (by simp) (by first | exact own_nb0 | exact own_nb1 | rfl) at_214 rfl rfl ?_
    rfl
  have no : ∀ sf : List Addr, ¬ (kd = kf 0 ∧ ([t0, t1].take TL).map own_lw = ([k0, k1].take KL).map own_lw) → own_WP K M_law (own_ret fun w _ _ => w = .int 1) 199 [.val (.int p0), .val (.int p1), .val (.int p2), .val (.int p3), .val (.ref kd), .val (.int tl), .val (.int kl), .val (.int t0), .val (.int t1), .val (.int k0), .val (.int k1), .val (.ref tx), .val (.ref kx), .val (.int act), .unset] [] sf h9 25 75 := by
    intro sf q
    refine own_iconst (v := (0 : Int32)) (pc' := 200) rfl at_199 rfl ?_
    exact fin 0 sf (by rw [← eact, if_neg q])
  refine own_istore_13 (pc' := 142) rfl at_140 (by first | exact One.u | exact One.val rfl | assumption | exact One.val (by assumption)) ?_
  refine own_aload (pc' := 144) rfl at_142 rfl (by first | rfl | assumption) ?_
  refine own_getS (pc' := 147) rfl at_144 (tw_4 hw) Via.refl z0 ?_
  refine own_acmpne (pcT := 199) (pcF := 150) at_147 (by decide) (by decide) rfl (by first | rfl | assumption) (by first | rfl | assumption) (fun q1 => ?_) (fun q1 => ?_)
  · exact own_weak (no _ (fun y => q1 (by rw [y.1]))) (fun x hx => hx) (by exact Nat.le_of_ble_eq_true rfl) (by exact Nat.le_of_ble_eq_true rfl)
  have ek : kd = kf 0 := Value.ref.inj q1
  refine own_iload (pc' := 152) rfl at_150 rfl ?_
  refine own_iload (pc' := 154) rfl at_152 rfl ?_
  refine own_icmpne (pcT := 199) (pcF := 157) at_154 (by decide) (by decide) rfl (fun q2 => ?_) (fun q2 => ?_)
  · exact own_weak (no _ (fun y => q2 (ht.mp y.2).1)) (fun x hx => hx) (by exact Nat.le_of_ble_eq_true rfl) (by exact Nat.le_of_ble_eq_true rfl)
  suffices k176 : ∀ sf : List Addr, (tl.toInt < 1 ∨ own_lw t0 = own_lw k0) → own_WP K M_law (own_ret fun w _ _ => w = .int 1) 176 [.val (.int p0), .val (.int p1), .val (.int p2), .val (.int p3), .val (.ref kd), .val (.int tl), .val (.int kl), .val (.int t0), .val (.int t1), .val (.int k0), .val (.int k1), .val (.ref tx), .val (.ref kx), .val (.int act), .unset] [] sf h9 25 75 by
    refine own_iload (pc' := 159) rfl at_157 rfl ?_
    refine own_iconst (v := (1 : Int32)) (pc' := 160) rfl at_159 rfl ?_
    refine own_icmplt (pcT := 176) (pcF := 163) at_160 (by decide) (by decide) rfl (fun q3 => ?_) (fun q3 => ?_)
    · rw [Int32.lt_iff_toInt_lt] at q3
      exact own_weak (k176 _ (Or.inl q3)) (fun x hx => hx) (by exact Nat.le_of_ble_eq_true rfl) (by exact Nat.le_of_ble_eq_true rfl)
    rw [Int32.lt_iff_toInt_lt] at q3
    refine own_iload (pc' := 165) rfl at_163 rfl ?_
    refine own_static1v (M' := M_low) at_165 (pc' := 168) rfl (tw_204 hw) (tw_205 hw) (tw_2 hw) (tw_206 hw) (by decide) rfl (own_lenOf pd_43 rfl) rfl rfl rfl rfl (c_low K a0 hw t0 _) (by simp) ?_
    rintro w g1 ys1 ⟨rfl, rfl⟩
    refine own_iload (pc' := 170) rfl at_168 rfl ?_
    refine own_static1v (M' := M_low) at_170 (pc' := 173) rfl (tw_204 hw) (tw_205 hw) (tw_2 hw) (tw_206 hw) (by decide) rfl (own_lenOf pd_43 rfl) rfl rfl rfl rfl (c_low K a0 hw k0 _) (by simp) ?_
    rintro w g2 ys2 ⟨rfl, rfl⟩
    refine own_icmpne (pcT := 199) (pcF := 176) at_173 (by decide) (by decide) rfl (fun q4 => ?_) (fun q4 => ?_)
    · exact own_weak (no _ (fun y => (ht.mp y.2).2.1.elim q3 q4)) (fun x hx => hx) (by exact Nat.le_of_ble_eq_true rfl) (by exact Nat.le_of_ble_eq_true rfl)
    exact own_weak (k176 _ (Or.inr q4)) (fun x hx => hx) (by exact Nat.le_of_ble_eq_true rfl) (by exact Nat.le_of_ble_eq_true rfl)
  intro sf2 hA
  have yes : ∀ sf : List Addr, (tl.toInt < 2 ∨ own_lw t1 = own_lw k1) → own_WP K M_law (own_ret fun w _ _ => w = .int 1) 195 [.val (.int p0), .val (.int p1), .val (.int p2), .val (.int p3), .val (.ref kd), .val (.int tl), .val (.int kl), .val (.int t0), .val (.int t1), .val (.int k0), .val (.int k1), .val (.ref tx), .val (.ref kx), .val (.int act), .unset] [] sf h9 25 75 := by
    intro sf hB
    refine own_iconst (v := (1 : Int32)) (pc' := 196) rfl at_195 rfl ?_
    refine own_goto (pc' := 200) at_196 (by decide) (by decide) ?_
    exact fin 1 sf (by rw [← eact, if_pos ⟨ek, ht.mpr ⟨q2, hA, hB⟩⟩])
  refine own_iload (pc' := 178) rfl at_176 rfl ?_
  refine own_iconst (v := (2 : Int32)) (pc' := 179) rfl at_178 rfl ?_
  refine own_icmplt (pcT := 195) (pcF := 182) at_179 (by decide) (by decide) rfl (fun q3 => ?_) (fun q3 => ?_)
  · rw [Int32.lt_iff_toInt_lt] at q3
    exact yes _ (Or.inl q3)
  rw [Int32.lt_iff_toInt_lt] at q3
  refine own_iload (pc' := 184) rfl at_182 rfl ?_
  refine own_static1v (M' := M_low) at_184 (pc' := 187) rfl (tw_204 hw) (tw_205 hw) (tw_2 hw) (tw_206 hw) (by decide) rfl (own_lenOf pd_43 rfl) rfl rfl rfl rfl (c_low K a0 hw t1 _) (by simp) ?_
  rintro w g1 ys1 ⟨rfl, rfl⟩
  refine own_iload (pc' := 189) rfl at_187 rfl ?_
  refine own_static1v (M' := M_low) at_189 (pc' := 192) rfl (tw_204 hw) (tw_205 hw) (tw_2 hw) (tw_206 hw) (by decide) rfl (own_lenOf pd_43 rfl) rfl rfl rfl rfl (c_low K a0 hw k1 _) (by simp) ?_
  rintro w g2 ys2 ⟨rfl, rfl⟩
  refine own_icmpne (pcT := 199) (pcF := 195) at_192 (by decide) (by decide) rfl (fun q4 => ?_) (fun q4 => ?_)
  · exact own_weak (no _ (fun y => (ht.mp y.2).2.2.elim q3 q4)) (fun x hx => hx) (by exact Nat.le_of_ble_eq_true rfl) (by exact Nat.le_of_ble_eq_true rfl)
  exact own_weak (yes _ (Or.inr q4)) (fun x hx => hx) (by exact Nat.le_of_ble_eq_true rfl) (by exact Nat.le_of_ble_eq_true rfl)
abbrev own_EL : List (String × Nat) := [("java/lang/String", 7)]
theorem own_EW {a0 : Array Value} {Z : State} (hw : ∀ d ∈ tables_1, d.before a0 Z = true) : EW Z a0 own_EL := (EW.cons (hw _ (List.mem_of_getElem? (i := 32) rfl)) (by decide +kernel) EW.nil)
set_option maxRecDepth 65536 in
set_option maxHeartbeats 40000000 in
theorem comes_1 {Post : Tables → Env → Array Value → State → Outcome → State → Prop} (hpost : ∀ tb e args s v u, (limb_1_1.after args s (.returned v) u = true ∧ limb_1_2.after args s (.returned v) u = true ∧ True) → ReturnedEndW s (.returned v) u (Jvm.fieldLocs frame_1_writes args s ++ Jvm.arrayLocs frame_1_arrays args s ++ Jvm.staticLocs frame_1_statics s) 48 1280 → Post tb e args s (.returned v) u) :
    ArmFor flags0 classFile x code maxLocals ret World_1 tables_1 room_1 Calls_1 rest_1 Pre_1 Post := by
  intro l hfl _ _ p e ha hc hk s m args below hf hA hF happ hP
  obtain ⟨hcalls, hrest, hpre⟩ := hP
  obtain ⟨-, -, -, hnamed, -, -, -, hat⟩ := (Spec.applies_iff hf).mp happ
  obtain ⟨hg, hn⟩ := and_e (Cond.before_iff.mp (show (Jvm.Cond.and given_1 narrow_1).before args s = true from hpre))
  obtain ⟨gc, gv⟩ := and_e hg
  obtain ⟨g0, gv⟩ := and_e gv
  obtain ⟨g1, gv⟩ := and_e gv
  obtain ⟨g2, gv⟩ := and_e gv
  obtain ⟨w0, w1, w2, w3, rfl⟩ : ∃ w0 w1 w2 w3 : Value, args = #[w0, w1, w2, w3] := by
    have hs : args.size = 4 := by simpa [Cond.value, given_1] using gc
    obtain ⟨L⟩ := args
    match L, hs with
    | [w0, w1, w2, w3], _ => exact ⟨w0, w1, w2, w3, rfl⟩
  have hw := fun d (hd : d ∈ tables_1) => atoms_spec (ws := Jvm.Cond.code x code maxLocals ret :: tables_1) hat d (List.mem_cons_of_mem _ hd)
  obtain ⟨hsets, hown0⟩ := atoms_of _ (rest_1_c_eq ▸ (show rest_1_c.before _ s = true from hrest))
  have hfit : Fit s := fun {y c} hc i hi => by
    obtain ⟨ha, rfl⟩ := Array.getElem?_eq_some_iff.mp hc
    have q := List.all_eq_true.mp ((Array.all_eq_true_iff_forall_mem.mp hF) _ (Array.getElem_mem ha)) i (List.mem_range.mpr hi)
    simpa [Array.getElem?_eq_getElem hi] using q
  obtain ⟨p0, ev0⟩ := is_v g0
  obtain rfl : w0 = (.int p0) := Option.some.inj ev0
  obtain ⟨p1, ev1⟩ := is_v g1
  obtain rfl : w1 = (.int p1) := Option.some.inj ev1
  obtain ⟨p2, ev2⟩ := is_v g2
  obtain rfl : w2 = (.int p2) := Option.some.inj ev2
  obtain ⟨p3, ev3⟩ := is_v gv
  obtain rfl : w3 = (.int p3) := Option.some.inj ev3
  obtain ⟨gcs, ecs⟩ := is_v (Cond.before_iff.mp (hsets _ (List.mem_of_getElem? (i := 1) rfl)))
  have SC : Sta s s.heap "java/lang/String" "COMPACT_STRINGS" "Z" (.int gcs) := Sta.start ecs (Or.inl (hsets _ (List.mem_of_getElem? (i := 0) rfl)))
  have hgc : ¬ (gcs = (0 : Int32)) := gotF (Cond.eq_ints ecs (Term.int_eval (0))) (not_v (Cond.before_iff.mp (hsets _ (List.mem_of_getElem? (i := 2) rfl))))
  have hEW := own_EW hw
  have hCH : CHv s own_EL s.vm s.heap := CHv.start hEW (fun p hp => hcalls.1 p (by simpa [consts_1] using hp)) (hsets _ (List.mem_of_getElem? (i := 2) rfl)) (tw_33 hw) (tw_19 hw)
  have own_seti : ∀ (t : Term) (i : Int32), (Jvm.Cond.eq t (Term.int i)).before #[.int p0, .int p1, .int p2, .int p3] s = true → t.eval #[.int p0, .int p1, .int p2, .int p3] s none [] s = some (.int i) := by
    intro t i hq
    have hq := Cond.before_iff.mp hq
    obtain ⟨x, y, q1, q2, q3, -⟩ := cmp_v (Or.inl hq)
    cases (Term.int_eval i).symm.trans q2
    cases x <;> simp only [Kin] at q3
    · have := gotT (Cond.eq_ints q1 (Term.int_eval i)) hq
      rw [q1, this]
    all_goals first | (obtain ⟨z, q3⟩ := q3; cases q3) | (cases q3.2)
  have hU : own_U16 (l, s, own_EL, false) := ⟨Sta.start (own_seti _ _ (hsets _ (List.mem_of_getElem? (i := 12) rfl))) (Or.inl (hsets _ (List.mem_of_getElem? (i := 11) rfl))), Sta.start (own_seti _ _ (hsets _ (List.mem_of_getElem? (i := 15) rfl))) (Or.inl (hsets _ (List.mem_of_getElem? (i := 14) rfl))), Sta.start (own_seti _ _ (hsets _ (List.mem_of_getElem? (i := 18) rfl))) (Or.inl (hsets _ (List.mem_of_getElem? (i := 17) rfl)))⟩
  obtain ⟨rf, erf, hrf⟩ := isR_v (Cond.before_iff.mp (hsets _ (List.mem_of_getElem? (i := 8) rfl)))
  have SF : Sta s s.heap "jdk/internal/util/Preconditions" "SIOOBE_FORMATTER" "Ljava/util/function/BiFunction;" rf := Sta.start erf (Or.inl (hsets _ (List.mem_of_getElem? (i := 7) rfl)))
  obtain ⟨n1, hn⟩ := and_e hn
  obtain ⟨n2, hn⟩ := and_e hn
  obtain ⟨n3, hn⟩ := and_e hn
  obtain ⟨n4, hn⟩ := and_e hn
  obtain ⟨n5, hn⟩ := and_e hn
  obtain ⟨n6, hn⟩ := and_e hn
  obtain ⟨n7, hn⟩ := and_e hn
  obtain ⟨n8, hn⟩ := and_e hn
  obtain ⟨n9, hn⟩ := and_e hn
  obtain ⟨n10, hn⟩ := and_e hn
  obtain ⟨n11, hn⟩ := and_e hn
  obtain ⟨n12, hn⟩ := and_e hn
  obtain ⟨n13, n14⟩ := and_e hn
  obtain ⟨k0, e0⟩ := exa_v n1
  obtain ⟨k4, e4⟩ := exa_v n2
  obtain ⟨k2, e2⟩ := exa_v n5
  obtain ⟨k1, e1⟩ := exa_v n7
  obtain ⟨k3, e3⟩ := exa_v n9
  obtain ⟨k5, e5⟩ := exa_v n11
  obtain ⟨k6, e6⟩ := exa_v n13
  have hini : (Jvm.Cond.initialized "com/example/sunder/sunder/SqlTokens$Kind").before _ s = true := (tw_5 hw)
  have hkd : own_Kinds s (fun i => [k0, k1, k2, k3, k4, k5, k6].getD i 0) := ⟨Sta.start e0 (Or.inr ⟨hini, (tw_6 hw)⟩), Sta.start e1 (Or.inr ⟨hini, (tw_239 hw)⟩), Sta.start e2 (Or.inr ⟨hini, (tw_208 hw)⟩), Sta.start e3 (Or.inr ⟨hini, (tw_241 hw)⟩), Sta.start e4 (Or.inr ⟨hini, (tw_154 hw)⟩), Sta.start e5 (Or.inr ⟨hini, (tw_282 hw)⟩), Sta.start e6 (Or.inr ⟨hini, (tw_284 hw)⟩)⟩
  have main := c_law (l, s, own_EL, false) _ hw rfl hEW (by show _ ∈ own_EL; simp [own_EL]) hU rf hrf SF gcs SC hgc _ hkd p0 p1 p2 p3 s.heap
  obtain ⟨n, o, h1, h2, h3, v, L, xs, rfl, ⟨w, e0, hq⟩, N, hC, hS, hE, hR, hwm⟩ := main tables_1 p e ha hc hk s m _ below hf ((Spec.applies_iff_loose hf).mp happ).1 ⟨rfl, State.Warmed39.refl s, rfl, ⟨_, hEW⟩, hCH, (fun x hx => nomatch hx), own_ext_refl _⟩ trivial
  subst e0
  subst hq
  refine ⟨n, _, h1, h2, h3, hpost _ _ _ _ _ _ ⟨Cond.after_iff.mpr rfl, Cond.after_iff.mpr (eq_i res_at (Term.int_eval (1)) rfl), trivial⟩ ⟨⟨_, rfl⟩, hR.2.1, hR.2.2.1, (hR.2.2.2.sift fun y hy => Or.inr (N y hy)).mono (by decide) (by decide)⟩⟩
theorem main_1_1 : Claimed_1_1 := comes_1 fun _ _ _ _ _ _ h hF => ⟨h.1, hF⟩
theorem main_1_2 : Claimed_1_2 := comes_1 fun _ _ _ _ _ _ h hF => ⟨h.2.1, hF⟩
end Jvm.Pilot.@@N@@
namespace Jvm.Pilot.@@N@@
open Jvm Jvm.ClassFile Sem Op Lib Jvm.Free Jvm.Stand Jvm.Pilot.@@N@@.Jvm.D
/-! MADE BY PROGRAM (witnessworld.py) out of the Statement's table words and the real class files: 29 classes; the members and pool entries that the words name. The judged class is class 1, her method 1. -/
namespace start1
open Jvm.ClassFile
def u (s : String) : CpInfo := .utf8 (stringToUtf16 s)
/-- a pool by its gaps: so many unusable entries, then the entry; so many at the end -/
def gap : Nat → List CpInfo → List CpInfo
  | 0, r => r
  | n + 1, r => .unusable :: gap n r
def poolList (es : List (Nat × CpInfo)) (last : Nat) : List CpInfo := es.foldr (fun e r => gap e.1 (e.2 :: r)) (gap last [])
def pool (es : List (Nat × CpInfo)) (last : Nat) : Array CpInfo := ⟨poolList es last⟩
def fileOf (pool : Array CpInfo) (this : Nat) (attrs : Array Attribute := #[]) (ms : Array MethodInfo := #[]) (fl : Nat := 33) (sup : Nat := 0) (ifs : Array Nat := #[]) (fds : Array FieldInfo := #[]) : ClassFile where
  minorVersion := 0
  majorVersion := 65
  constantPool := pool
  accessFlags := fl
  thisClass := this
  superClass := sup
  interfaces := ifs
  fields := fds
  methods := ms
  attributes := attrs
def plain (name : String) (sup : Option ClassId) : Class where
  name := name
  kind := .ordinary
  loader := none
  accessFlags := 33
  super := sup
  interfaces := #[]
  cf := none
  fields := #[]
  methods := #[]
  instanceTypes := #[]
  staticTypes := #[]
  resolved := #[]
  callSites := []
  init := .initialized
  statics := none
  mirror := none

def pool0 : Array CpInfo := pool [(5, u "<init>"), (0, u "()V"), (1, .class_ 10), (1, u "java/lang/Object"), (85, u "clone"), (0, u "()Ljava/lang/Object;")] 26

def k0c0 : Code := { maxStack := 0, maxLocals := 1, code := object_method_1_code, exceptionTable := #[], attributes := #[] }
def k0m0 : Method := { name := "<init>", desc := "()V", sig := { parameters := [], returnType := none }, accessFlags := 1, code := some k0c0 }
def k0m1 : Method := { name := "clone", desc := "()Ljava/lang/Object;", sig := { parameters := [], returnType := some (.object "java/lang/Object") }, accessFlags := 260, code := none }
/-- java/lang/Object -/
def k0 : Class := { plain "java/lang/Object" none with
  accessFlags := 33
  interfaces := #[]
  cf := some (fileOf pool0 8 #[] #[{ accessFlags := 1, nameIndex := 5, descriptorIndex := 6, attributes := #[] }, { accessFlags := 260, nameIndex := 96, descriptorIndex := 97, attributes := #[] }] 33 0 #[] #[])
  fields := #[]
  methods := #[k0m0, k0m1]
  instanceTypes := #[]
  staticTypes := #[]
  resolved := Array.replicate 124 none
  statics := none }

def pool1 : Array CpInfo := pool [(2, .class_ 4), (1, u "java/lang/Object"), (0, u "<init>"), (0, u "()V"), (0, .methodref 8 9), (0, .class_ 10), (0, .nameAndType 11 12), (0, u "com/example/sunder/sunder/TokenIsPinLaw"), (0, u "kindOf"), (0, u "(I)Lcom/example/sunder/sunder/SqlTokens$Kind;"), (0, .methodref 14 15), (0, .class_ 16), (0, .nameAndType 17 18), (0, u "java/lang/Math"), (0, u "min"), (0, u "(II)I"), (0, .integer 65535), (0, .methodref 8 21), (0, .nameAndType 22 23), (0, u "derive"), (0, u "(ICC)C"), (0, .methodref 8 25), (0, .nameAndType 26 27), (0, u "make"), (0, u "(ICC)Ljava/lang/String;"), (0, .class_ 29), (0, u "com/example/sunder/sunder/SqlTokens$Token"), (0, .methodref 28 31), (0, .nameAndType 5 32), (0, u "(Lcom/example/sunder/sunder/SqlTokens$Kind;Ljava/lang/String;I)V"), (0, .methodref 28 34), (0, .nameAndType 35 36), (0, u "is"), (0, u "(Ljava/lang/String;)Z"), (0, .fieldref 38 39), (0, .class_ 40), (0, .nameAndType 41 42), (0, u "com/example/sunder/sunder/SqlTokens$Kind"), (0, u "WORD"), (0, u "Lcom/example/sunder/sunder/SqlTokens$Kind;"), (0, .methodref 8 44), (0, .nameAndType 45 46), (0, u "lower"), (0, u "(C)I"), (0, .fieldref 38 48), (0, .nameAndType 49 42), (0, u "QUOTED"), (0, .fieldref 38 51), (0, .nameAndType 52 42), (0, u "STRING"), (0, .fieldref 38 54), (0, .nameAndType 55 42), (0, u "BLOB"), (0, .fieldref 38 57), (0, .nameAndType 58 42), (0, u "NUMBER"), (0, .fieldref 38 60), (0, .nameAndType 61 42), (0, u "SYMBOL"), (0, .fieldref 38 63), (0, .nameAndType 64 42), (0, u "END_OF_TEXT"), (0, .class_ 66), (0, u "java/lang/String"), (0, .methodref 65 68), (0, .nameAndType 5 69), (0, u "([C)V"), (0, .methodref 65 71), (0, .nameAndType 72 73), (0, u "valueOf"), (0, u "(C)Ljava/lang/String;"), (2, u "law"), (0, u "(IIII)Z")] 8

def k1m0 : Method := { name := "<init>", desc := "()V", sig := { parameters := [], returnType := none }, accessFlags := 1, code := none }
def k1c1 : Code := { maxStack := 5, maxLocals := 15, code := code, exceptionTable := #[], attributes := #[] }
def k1m1 : Method := { name := "law", desc := "(IIII)Z", sig := { parameters := [.int, .int, .int, .int], returnType := some .boolean }, accessFlags := 9, code := some k1c1 }
def k1c2 : Code := { maxStack := 2, maxLocals := 1, code := method_3_code, exceptionTable := #[], attributes := #[] }
def k1m2 : Method := { name := "kindOf", desc := "(I)Lcom/example/sunder/sunder/SqlTokens$Kind;", sig := { parameters := [.int], returnType := some (.object "com/example/sunder/sunder/SqlTokens$Kind") }, accessFlags := 10, code := some k1c2 }
def k1c3 : Code := { maxStack := 2, maxLocals := 3, code := method_4_code, exceptionTable := #[], attributes := #[] }
def k1m3 : Method := { name := "derive", desc := "(ICC)C", sig := { parameters := [.int, .char, .char], returnType := some .char }, accessFlags := 10, code := some k1c3 }
def k1c4 : Code := { maxStack := 6, maxLocals := 3, code := method_5_code, exceptionTable := #[], attributes := #[] }
def k1m4 : Method := { name := "make", desc := "(ICC)Ljava/lang/String;", sig := { parameters := [.int, .char, .char], returnType := some (.object "java/lang/String") }, accessFlags := 10, code := some k1c4 }
def k1c5 : Code := { maxStack := 2, maxLocals := 1, code := method_6_code, exceptionTable := #[], attributes := #[] }
def k1m5 : Method := { name := "lower", desc := "(C)I", sig := { parameters := [.char], returnType := some .int }, accessFlags := 10, code := some k1c5 }
/-- com/example/sunder/sunder/TokenIsPinLaw -/
def k1 : Class := { plain "com/example/sunder/sunder/TokenIsPinLaw" (some 0) with
  accessFlags := 49
  interfaces := #[]
  cf := some (fileOf pool1 8 #[] #[{ accessFlags := 1, nameIndex := 5, descriptorIndex := 6, attributes := #[] }, { accessFlags := 9, nameIndex := 76, descriptorIndex := 77, attributes := #[] }, { accessFlags := 10, nameIndex := 11, descriptorIndex := 12, attributes := #[] }, { accessFlags := 10, nameIndex := 22, descriptorIndex := 23, attributes := #[] }, { accessFlags := 10, nameIndex := 26, descriptorIndex := 27, attributes := #[] }, { accessFlags := 10, nameIndex := 45, descriptorIndex := 46, attributes := #[] }] 49 2 #[] #[])
  fields := #[]
  methods := #[k1m0, k1m1, k1m2, k1m3, k1m4, k1m5]
  instanceTypes := #[]
  staticTypes := #[]
  resolved := Array.replicate 86 none
  statics := none }

def pool2 : Array CpInfo := pool [(1, .class_ 2), (0, u "java/lang/constant/Constable"), (0, .class_ 4), (0, u "java/lang/Object")] 6

/-- java/lang/constant/Constable -/
def k2 : Class := { plain "java/lang/constant/Constable" (some 0) with
  accessFlags := 1537
  interfaces := #[]
  cf := some (fileOf pool2 1 #[] #[] 1537 3 #[] #[])
  fields := #[]
  methods := #[]
  instanceTypes := #[]
  staticTypes := #[]
  resolved := Array.replicate 11 none
  statics := none }

def pool3 : Array CpInfo := pool [(1, .class_ 2), (0, u "java/lang/Comparable"), (0, .class_ 4), (0, u "java/lang/Object")] 7

/-- java/lang/Comparable -/
def k3 : Class := { plain "java/lang/Comparable" (some 0) with
  accessFlags := 1537
  interfaces := #[]
  cf := some (fileOf pool3 1 #[] #[] 1537 3 #[] #[])
  fields := #[]
  methods := #[]
  instanceTypes := #[]
  staticTypes := #[]
  resolved := Array.replicate 12 none
  statics := none }

def pool4 : Array CpInfo := pool [(1, .class_ 2), (0, u "java/io/Serializable"), (0, .class_ 4), (0, u "java/lang/Object")] 2

/-- java/io/Serializable -/
def k4 : Class := { plain "java/io/Serializable" (some 0) with
  accessFlags := 1537
  interfaces := #[]
  cf := some (fileOf pool4 1 #[] #[] 1537 3 #[] #[])
  fields := #[]
  methods := #[]
  instanceTypes := #[]
  staticTypes := #[]
  resolved := Array.replicate 7 none
  statics := none }

def pool5 : Array CpInfo := pool [(2, .class_ 4), (1, u "java/lang/Enum"), (0, u "name"), (0, u "Ljava/lang/String;"), (2, u "ordinal"), (0, u "I"), (1, .class_ 14), (1, u "java/lang/Object"), (4, u "hash"), (86, .class_ 108), (1, u "java/lang/Enum$EnumDesc"), (2, .class_ 112), (0, u "java/lang/constant/Constable"), (0, .class_ 114), (0, u "java/lang/Comparable"), (0, .class_ 116), (0, u "java/io/Serializable")] 87

/-- java/lang/Enum -/
def k5 : Class := { plain "java/lang/Enum" (some 0) with
  accessFlags := 1057
  interfaces := #[2, 3, 4]
  cf := some (fileOf pool5 2 #[.nestMembers #[106]] #[] 1057 12 #[111, 113, 115] #[{ accessFlags := 18, nameIndex := 5, descriptorIndex := 6, attributes := #[] }, { accessFlags := 18, nameIndex := 9, descriptorIndex := 10, attributes := #[] }, { accessFlags := 2, nameIndex := 19, descriptorIndex := 10, attributes := #[] }])
  fields := #[{ name := "name", type := (.object "java/lang/String"), accessFlags := 18, slot := 0, constantValue := 0 }, { name := "ordinal", type := .int, accessFlags := 18, slot := 1, constantValue := 0 }, { name := "hash", type := .int, accessFlags := 2, slot := 2, constantValue := 0 }]
  methods := #[]
  instanceTypes := #[(.object "java/lang/String"), .int, .int]
  staticTypes := #[]
  resolved := Array.replicate 204 none
  statics := none }

def pool6 : Array CpInfo := pool [(1, .class_ 2), (0, u "com/example/sunder/sunder/SqlTokens$Kind"), (2, u "WORD"), (0, u "Lcom/example/sunder/sunder/SqlTokens$Kind;"), (2, u "QUOTED"), (2, u "STRING"), (2, u "BLOB"), (2, u "NUMBER"), (2, u "SYMBOL"), (2, u "END_OF_TEXT"), (2, u "$VALUES"), (0, u "[Lcom/example/sunder/sunder/SqlTokens$Kind;"), (6, .class_ 37), (1, u "java/lang/Enum"), (30, .class_ 69), (0, u "com/example/sunder/sunder/SqlTokens")] 2

/-- com/example/sunder/sunder/SqlTokens$Kind -/
def k6 : Class := { plain "com/example/sunder/sunder/SqlTokens$Kind" (some 5) with
  accessFlags := 16432
  interfaces := #[]
  cf := some (fileOf pool6 1 #[.nestHost 68] #[] 16432 35 #[] #[{ accessFlags := 16409, nameIndex := 5, descriptorIndex := 6, attributes := #[] }, { accessFlags := 16409, nameIndex := 9, descriptorIndex := 6, attributes := #[] }, { accessFlags := 16409, nameIndex := 12, descriptorIndex := 6, attributes := #[] }, { accessFlags := 16409, nameIndex := 15, descriptorIndex := 6, attributes := #[] }, { accessFlags := 16409, nameIndex := 18, descriptorIndex := 6, attributes := #[] }, { accessFlags := 16409, nameIndex := 21, descriptorIndex := 6, attributes := #[] }, { accessFlags := 16409, nameIndex := 24, descriptorIndex := 6, attributes := #[] }, { accessFlags := 4122, nameIndex := 27, descriptorIndex := 28, attributes := #[] }])
  fields := #[{ name := "WORD", type := (.object "com/example/sunder/sunder/SqlTokens$Kind"), accessFlags := 16409, slot := 0, constantValue := 0 }, { name := "QUOTED", type := (.object "com/example/sunder/sunder/SqlTokens$Kind"), accessFlags := 16409, slot := 1, constantValue := 0 }, { name := "STRING", type := (.object "com/example/sunder/sunder/SqlTokens$Kind"), accessFlags := 16409, slot := 2, constantValue := 0 }, { name := "BLOB", type := (.object "com/example/sunder/sunder/SqlTokens$Kind"), accessFlags := 16409, slot := 3, constantValue := 0 }, { name := "NUMBER", type := (.object "com/example/sunder/sunder/SqlTokens$Kind"), accessFlags := 16409, slot := 4, constantValue := 0 }, { name := "SYMBOL", type := (.object "com/example/sunder/sunder/SqlTokens$Kind"), accessFlags := 16409, slot := 5, constantValue := 0 }, { name := "END_OF_TEXT", type := (.object "com/example/sunder/sunder/SqlTokens$Kind"), accessFlags := 16409, slot := 6, constantValue := 0 }, { name := "$VALUES", type := (.array (.object "com/example/sunder/sunder/SqlTokens$Kind")), accessFlags := 4122, slot := 7, constantValue := 0 }]
  methods := #[]
  instanceTypes := #[(.object "java/lang/String"), .int, .int]
  staticTypes := #[(.object "com/example/sunder/sunder/SqlTokens$Kind"), (.object "com/example/sunder/sunder/SqlTokens$Kind"), (.object "com/example/sunder/sunder/SqlTokens$Kind"), (.object "com/example/sunder/sunder/SqlTokens$Kind"), (.object "com/example/sunder/sunder/SqlTokens$Kind"), (.object "com/example/sunder/sunder/SqlTokens$Kind"), (.object "com/example/sunder/sunder/SqlTokens$Kind"), (.array (.object "com/example/sunder/sunder/SqlTokens$Kind"))]
  resolved := Array.replicate 72 none
  statics := some 0 }

def pool7 : Array CpInfo := pool [(1, .class_ 2), (0, u "java/lang/Math"), (1, .class_ 6), (1, u "java/lang/Object"), (0, u "<init>"), (0, u "()V"), (89, .class_ 100), (1, u "java/lang/Math$RandomNumberGeneratorHolder"), (71, u "negativeZeroFloatBits"), (0, u "J"), (2, u "negativeZeroDoubleBits"), (24, u "min"), (43, u "$assertionsDisabled"), (0, u "Z"), (88, u "(II)I"), (2, u "twoToTheDoubleScaleDown"), (0, u "D"), (4, u "twoToTheDoubleScaleUp"), (9, u "E"), (3, u "PI"), (2, u "TAU"), (2, u "DEGREES_TO_RADIANS"), (0, u "RADIANS_TO_DEGREES")] 94

def k7m0 : Method := { name := "<init>", desc := "()V", sig := { parameters := [], returnType := none }, accessFlags := 2, code := none }
def k7c1 : Code := { maxStack := 2, maxLocals := 2, code := jdk_29_method_69_code, exceptionTable := #[], attributes := #[] }
def k7m1 : Method := { name := "min", desc := "(II)I", sig := { parameters := [.int, .int], returnType := some .int }, accessFlags := 9, code := some k7c1 }
/-- java/lang/Math -/
def k7 : Class := { plain "java/lang/Math" (some 0) with
  accessFlags := 49
  interfaces := #[]
  cf := some (fileOf pool7 1 #[.nestMembers #[98]] #[{ accessFlags := 2, nameIndex := 7, descriptorIndex := 8, attributes := #[] }, { accessFlags := 9, nameIndex := 201, descriptorIndex := 335, attributes := #[] }] 49 4 #[] #[{ accessFlags := 25, nameIndex := 354, descriptorIndex := 339, attributes := #[] }, { accessFlags := 25, nameIndex := 358, descriptorIndex := 339, attributes := #[] }, { accessFlags := 25, nameIndex := 361, descriptorIndex := 339, attributes := #[] }, { accessFlags := 26, nameIndex := 364, descriptorIndex := 339, attributes := #[] }, { accessFlags := 26, nameIndex := 365, descriptorIndex := 339, attributes := #[] }, { accessFlags := 26, nameIndex := 172, descriptorIndex := 173, attributes := #[] }, { accessFlags := 26, nameIndex := 176, descriptorIndex := 173, attributes := #[] }, { accessFlags := 8, nameIndex := 344, descriptorIndex := 339, attributes := #[] }, { accessFlags := 8, nameIndex := 338, descriptorIndex := 339, attributes := #[] }, { accessFlags := 4120, nameIndex := 245, descriptorIndex := 246, attributes := #[] }])
  fields := #[{ name := "E", type := .double, accessFlags := 25, slot := 0, constantValue := 0 }, { name := "PI", type := .double, accessFlags := 25, slot := 1, constantValue := 0 }, { name := "TAU", type := .double, accessFlags := 25, slot := 2, constantValue := 0 }, { name := "DEGREES_TO_RADIANS", type := .double, accessFlags := 26, slot := 3, constantValue := 0 }, { name := "RADIANS_TO_DEGREES", type := .double, accessFlags := 26, slot := 4, constantValue := 0 }, { name := "negativeZeroFloatBits", type := .long, accessFlags := 26, slot := 5, constantValue := 0 }, { name := "negativeZeroDoubleBits", type := .long, accessFlags := 26, slot := 6, constantValue := 0 }, { name := "twoToTheDoubleScaleUp", type := .double, accessFlags := 8, slot := 7, constantValue := 0 }, { name := "twoToTheDoubleScaleDown", type := .double, accessFlags := 8, slot := 8, constantValue := 0 }, { name := "$assertionsDisabled", type := .boolean, accessFlags := 4120, slot := 9, constantValue := 0 }]
  methods := #[k7m0, k7m1]
  instanceTypes := #[]
  staticTypes := #[.double, .double, .double, .double, .double, .long, .long, .double, .double, .boolean]
  resolved := Array.replicate 460 none
  statics := none }

def pool8 : Array CpInfo := pool [(2, .class_ 4), (1, u "java/lang/CharSequence"), (42, .class_ 48), (0, u "java/lang/CharSequence$1CodePointIterator"), (10, .class_ 60), (0, u "java/lang/CharSequence$1CharIterator"), (5, .class_ 67), (0, u "java/lang/Object")] 63

/-- java/lang/CharSequence -/
def k8 : Class := { plain "java/lang/CharSequence" (some 0) with
  accessFlags := 1537
  interfaces := #[]
  cf := some (fileOf pool8 2 #[.nestMembers #[47, 59]] #[] 1537 66 #[] #[])
  fields := #[]
  methods := #[]
  instanceTypes := #[]
  staticTypes := #[]
  resolved := Array.replicate 131 none
  statics := none }

def pool9 : Array CpInfo := pool [(1, .class_ 2), (0, u "java/lang/constant/ConstantDesc"), (0, .class_ 4), (0, u "java/lang/Object")] 32

/-- java/lang/constant/ConstantDesc -/
def k9 : Class := { plain "java/lang/constant/ConstantDesc" (some 0) with
  accessFlags := 1537
  interfaces := #[]
  cf := some (fileOf pool9 1 #[] #[] 1537 3 #[] #[])
  fields := #[]
  methods := #[]
  instanceTypes := #[]
  staticTypes := #[]
  resolved := Array.replicate 37 none
  statics := none }

def pool10 : Array CpInfo := pool [(1, .methodref 2 3), (0, .class_ 4), (0, .nameAndType 5 6), (0, u "java/lang/Object"), (0, u "<init>"), (0, u "()V"), (0, .string 8), (0, u ""), (0, .fieldref 10 11), (0, .class_ 12), (0, .nameAndType 13 14), (0, u "java/lang/String"), (0, u "value"), (0, u "[B"), (0, .fieldref 10 16), (0, .nameAndType 17 18), (0, u "coder"), (0, u "B"), (2, u "hash"), (0, u "I"), (2, u "hashIsZero"), (0, u "Z"), (0, .methodref 10 28), (0, .nameAndType 5 29), (0, u "([CIILjava/lang/Void;)V"), (6, u "checkBoundsOffCount"), (0, u "(III)I"), (0, .fieldref 10 39), (0, .nameAndType 40 26), (0, u "COMPACT_STRINGS"), (1, .class_ 44), (1, u "java/lang/StringUTF16"), (0, u "compress"), (1, .methodref 42 48), (0, .nameAndType 49 50), (0, u "coderFromArrayLen"), (0, u "([BI)B"), (2, u "toBytes"), (0, .methodref 55 56), (0, .class_ 57), (0, .nameAndType 58 59), (0, u "java/util/Arrays"), (0, u "copyOfRange"), (0, u "([BII)[B"), (47, .class_ 109), (1, u "java/lang/StringLatin1"), (32, u "()Z"), (34, .methodref 42 178), (0, .nameAndType 45 179), (0, u "([CII)[B"), (29, .methodref 10 210), (0, .nameAndType 5 211), (0, u "([BB)V"), (122, u "()I"), (0, .methodref 10 336), (0, .nameAndType 17 337), (0, u "()B"), (2, u "()[B"), (22, u "([BI)C"), (5, u "(C)Z"), (21, u "(II)V"), (35, u "(I)C"), (61, .methodref 10 490), (0, .nameAndType 5 491), (0, u "(Ljava/lang/AbstractStringBuilder;Ljava/lang/Void;)V"), (0, .methodref 10 493), (0, .nameAndType 494 142), (0, u "isLatin1"), (0, .methodref 107 496), (0, .nameAndType 497 363), (0, u "charAt"), (0, .methodref 42 496), (2, u "checkIndex"), (4, .nameAndType 507 334), (0, u "length"), (33, .methodref 107 542), (0, .nameAndType 543 544), (0, u "equals"), (0, u "([B[B)Z"), (4, .methodref 550 506), (0, .class_ 551), (0, u "java/lang/AbstractStringBuilder"), (0, .methodref 550 553), (0, .nameAndType 554 340), (0, u "getValue"), (18, u "(Ljava/lang/Object;)Z"), (1, .class_ 576), (0, u "java/lang/CharSequence"), (22, u "CASE_INSENSITIVE_ORDER"), (0, u "Ljava/util/Comparator;"), (181, u "valueOf"), (0, u "(C)Ljava/lang/String;"), (226, u "([C)V"), (4, .methodref 107 1016), (0, .nameAndType 1017 369), (0, u "canEncode"), (0, .methodref 107 1019), (0, .nameAndType 53 1020), (0, u "(C)[B"), (0, .methodref 42 1019), (25, .methodref 550 493), (0, .fieldref 550 1049), (0, .nameAndType 1050 26), (0, u "maybeLatin1"), (2, .fieldref 1054 1055), (0, .class_ 1056), (0, .nameAndType 1057 1058), (0, u "jdk/internal/util/Preconditions"), (0, u "SIOOBE_FORMATTER"), (0, u "Ljava/util/function/BiFunction;"), (0, .methodref 1054 1060), (0, .nameAndType 501 1061), (0, u "(IILjava/util/function/BiFunction;)I"), (2, u "(IIILjava/util/function/BiFunction;)I"), (0, .methodref 1054 1066), (0, .nameAndType 1067 1064), (0, u "checkFromIndexSize"), (33, u "serialPersistentFields"), (0, u "[Ljava/io/ObjectStreamField;"), (0, .class_ 1104), (0, u "java/lang/String$CaseInsensitiveComparator"), (1, .class_ 1107), (0, u "java/io/Serializable"), (0, .class_ 1109), (0, u "java/lang/Comparable"), (0, .class_ 1111), (0, u "java/lang/constant/Constable"), (0, .class_ 1113), (0, u "java/lang/constant/ConstantDesc"), (2, u "serialVersionUID"), (0, u "J"), (3, u "REPL"), (0, u "C"), (2, u "LATIN1"), (1, u "UTF16"), (105, u "(Ljava/lang/StringBuilder;)V")] 217

def k10m0 : Method := { name := "<init>", desc := "()V", sig := { parameters := [], returnType := none }, accessFlags := 1, code := none }
def k10c1 : Code := { maxStack := 5, maxLocals := 2, code := jdk_42_method_3_code, exceptionTable := #[], attributes := #[] }
def k10m1 : Method := { name := "<init>", desc := "([C)V", sig := { parameters := [(.array .char)], returnType := none }, accessFlags := 1, code := some k10c1 }
def k10c2 : Code := { maxStack := 3, maxLocals := 2, code := jdk_42_method_53_code, exceptionTable := #[], attributes := #[] }
def k10m2 : Method := { name := "<init>", desc := "(Ljava/lang/StringBuilder;)V", sig := { parameters := [(.object "java/lang/StringBuilder")], returnType := none }, accessFlags := 1, code := some k10c2 }
def k10c3 : Code := { maxStack := 2, maxLocals := 1, code := jdk_42_method_54_code, exceptionTable := #[], attributes := #[] }
def k10m3 : Method := { name := "length", desc := "()I", sig := { parameters := [], returnType := some .int }, accessFlags := 1, code := some k10c3 }
def k10c4 : Code := { maxStack := 2, maxLocals := 2, code := jdk_42_method_56_code, exceptionTable := #[], attributes := #[] }
def k10m4 : Method := { name := "charAt", desc := "(I)C", sig := { parameters := [.int], returnType := some .char }, accessFlags := 1, code := some k10c4 }
def k10c5 : Code := { maxStack := 2, maxLocals := 3, code := jdk_42_method_66_code, exceptionTable := #[], attributes := #[] }
def k10m5 : Method := { name := "equals", desc := "(Ljava/lang/Object;)Z", sig := { parameters := [(.object "java/lang/Object")], returnType := some .boolean }, accessFlags := 1, code := some k10c5 }
def k10c6 : Code := { maxStack := 4, maxLocals := 1, code := jdk_42_method_139_code, exceptionTable := #[], attributes := #[] }
def k10m6 : Method := { name := "valueOf", desc := "(C)Ljava/lang/String;", sig := { parameters := [.char], returnType := some (.object "java/lang/String") }, accessFlags := 9, code := some k10c6 }
def k10c7 : Code := { maxStack := 4, maxLocals := 6, code := jdk_42_method_149_code, exceptionTable := #[], attributes := #[] }
def k10m7 : Method := { name := "<init>", desc := "([CIILjava/lang/Void;)V", sig := { parameters := [(.array .char), .int, .int, (.object "java/lang/Void")], returnType := none }, accessFlags := 2, code := some k10c7 }
def k10c8 : Code := { maxStack := 5, maxLocals := 5, code := jdk_42_method_150_code, exceptionTable := #[], attributes := #[] }
def k10m8 : Method := { name := "<init>", desc := "(Ljava/lang/AbstractStringBuilder;Ljava/lang/Void;)V", sig := { parameters := [(.object "java/lang/AbstractStringBuilder"), (.object "java/lang/Void")], returnType := none }, accessFlags := 0, code := some k10c8 }
def k10c9 : Code := { maxStack := 2, maxLocals := 3, code := jdk_42_method_151_code, exceptionTable := #[], attributes := #[] }
def k10m9 : Method := { name := "<init>", desc := "([BB)V", sig := { parameters := [(.array .byte), .byte], returnType := none }, accessFlags := 0, code := some k10c9 }
def k10c10 : Code := { maxStack := 1, maxLocals := 1, code := jdk_42_method_152_code, exceptionTable := #[], attributes := #[] }
def k10m10 : Method := { name := "coder", desc := "()B", sig := { parameters := [], returnType := some .byte }, accessFlags := 0, code := some k10c10 }
def k10c11 : Code := { maxStack := 1, maxLocals := 1, code := jdk_42_method_154_code, exceptionTable := #[], attributes := #[] }
def k10m11 : Method := { name := "isLatin1", desc := "()Z", sig := { parameters := [], returnType := some .boolean }, accessFlags := 0, code := some k10c11 }
def k10c12 : Code := { maxStack := 3, maxLocals := 2, code := jdk_42_method_155_code, exceptionTable := #[], attributes := #[] }
def k10m12 : Method := { name := "checkIndex", desc := "(II)V", sig := { parameters := [.int, .int], returnType := none }, accessFlags := 8, code := some k10c12 }
def k10c13 : Code := { maxStack := 4, maxLocals := 3, code := jdk_42_method_157_code, exceptionTable := #[], attributes := #[] }
def k10m13 : Method := { name := "checkBoundsOffCount", desc := "(III)I", sig := { parameters := [.int, .int, .int], returnType := some .int }, accessFlags := 8, code := some k10c13 }
/-- java/lang/String -/
def k10 : Class := { plain "java/lang/String" (some 0) with
  accessFlags := 49
  interfaces := #[4, 3, 8, 2, 9]
  cf := some (fileOf pool10 10 #[.nestMembers #[1103]] #[{ accessFlags := 1, nameIndex := 5, descriptorIndex := 6, attributes := #[] }, { accessFlags := 1, nameIndex := 5, descriptorIndex := 1010, attributes := #[] }, { accessFlags := 1, nameIndex := 5, descriptorIndex := 1233, attributes := #[] }, { accessFlags := 1, nameIndex := 507, descriptorIndex := 334, attributes := #[] }, { accessFlags := 1, nameIndex := 497, descriptorIndex := 427, attributes := #[] }, { accessFlags := 1, nameIndex := 543, descriptorIndex := 573, attributes := #[] }, { accessFlags := 9, nameIndex := 782, descriptorIndex := 783, attributes := #[] }, { accessFlags := 2, nameIndex := 5, descriptorIndex := 29, attributes := #[] }, { accessFlags := 0, nameIndex := 5, descriptorIndex := 491, attributes := #[] }, { accessFlags := 0, nameIndex := 5, descriptorIndex := 211, attributes := #[] }, { accessFlags := 0, nameIndex := 17, descriptorIndex := 337, attributes := #[] }, { accessFlags := 0, nameIndex := 494, descriptorIndex := 142, attributes := #[] }, { accessFlags := 8, nameIndex := 501, descriptorIndex := 391, attributes := #[] }, { accessFlags := 8, nameIndex := 36, descriptorIndex := 37, attributes := #[] }] 49 2 #[1106, 1108, 575, 1110, 1112] #[{ accessFlags := 18, nameIndex := 13, descriptorIndex := 14, attributes := #[] }, { accessFlags := 18, nameIndex := 17, descriptorIndex := 18, attributes := #[] }, { accessFlags := 2, nameIndex := 21, descriptorIndex := 22, attributes := #[] }, { accessFlags := 2, nameIndex := 25, descriptorIndex := 26, attributes := #[] }, { accessFlags := 26, nameIndex := 1116, descriptorIndex := 1117, attributes := #[] }, { accessFlags := 24, nameIndex := 40, descriptorIndex := 26, attributes := #[] }, { accessFlags := 26, nameIndex := 1101, descriptorIndex := 1102, attributes := #[] }, { accessFlags := 26, nameIndex := 1121, descriptorIndex := 1122, attributes := #[] }, { accessFlags := 25, nameIndex := 599, descriptorIndex := 600, attributes := #[] }, { accessFlags := 24, nameIndex := 1125, descriptorIndex := 18, attributes := #[] }, { accessFlags := 24, nameIndex := 1127, descriptorIndex := 18, attributes := #[] }])
  fields := #[{ name := "value", type := (.array .byte), accessFlags := 18, slot := 0, constantValue := 0 }, { name := "coder", type := .byte, accessFlags := 18, slot := 1, constantValue := 0 }, { name := "hash", type := .int, accessFlags := 2, slot := 2, constantValue := 0 }, { name := "hashIsZero", type := .boolean, accessFlags := 2, slot := 3, constantValue := 0 }, { name := "serialVersionUID", type := .long, accessFlags := 26, slot := 0, constantValue := 0 }, { name := "COMPACT_STRINGS", type := .boolean, accessFlags := 24, slot := 1, constantValue := 0 }, { name := "serialPersistentFields", type := (.array (.object "java/io/ObjectStreamField")), accessFlags := 26, slot := 2, constantValue := 0 }, { name := "REPL", type := .char, accessFlags := 26, slot := 3, constantValue := 0 }, { name := "CASE_INSENSITIVE_ORDER", type := (.object "java/util/Comparator"), accessFlags := 25, slot := 4, constantValue := 0 }, { name := "LATIN1", type := .byte, accessFlags := 24, slot := 5, constantValue := 0 }, { name := "UTF16", type := .byte, accessFlags := 24, slot := 6, constantValue := 0 }]
  methods := #[k10m0, k10m1, k10m2, k10m3, k10m4, k10m5, k10m6, k10m7, k10m8, k10m9, k10m10, k10m11, k10m12, k10m13]
  instanceTypes := #[(.array .byte), .byte, .int, .boolean]
  staticTypes := #[.long, .boolean, (.array (.object "java/io/ObjectStreamField")), .char, (.object "java/util/Comparator"), .byte, .byte]
  resolved := Array.replicate 1451 none
  statics := some 1 }

def pool11 : Array CpInfo := pool [(1, .methodref 2 3), (0, .class_ 4), (0, .nameAndType 5 6), (0, u "java/lang/Object"), (0, u "<init>"), (0, u "()V"), (0, .class_ 8), (0, u "java/lang/Record")] 13

def k11c0 : Code := { maxStack := 1, maxLocals := 1, code := jdk_30_method_1_code, exceptionTable := #[], attributes := #[] }
def k11m0 : Method := { name := "<init>", desc := "()V", sig := { parameters := [], returnType := none }, accessFlags := 4, code := some k11c0 }
/-- java/lang/Record -/
def k11 : Class := { plain "java/lang/Record" (some 0) with
  accessFlags := 1057
  interfaces := #[]
  cf := some (fileOf pool11 7 #[] #[{ accessFlags := 4, nameIndex := 5, descriptorIndex := 6, attributes := #[] }] 1057 2 #[] #[])
  fields := #[]
  methods := #[k11m0]
  instanceTypes := #[]
  staticTypes := #[]
  resolved := Array.replicate 22 none
  statics := none }

def pool12 : Array CpInfo := pool [(1, .methodref 2 3), (0, .class_ 4), (0, .nameAndType 5 6), (0, u "java/lang/Record"), (0, u "<init>"), (0, u "()V"), (0, .fieldref 8 9), (0, .class_ 10), (0, .nameAndType 11 12), (0, u "com/example/sunder/sunder/SqlTokens$Token"), (0, u "kind"), (0, u "Lcom/example/sunder/sunder/SqlTokens$Kind;"), (0, .fieldref 8 14), (0, .nameAndType 15 16), (0, u "text"), (0, u "Ljava/lang/String;"), (0, .fieldref 8 18), (0, .nameAndType 19 20), (0, u "line"), (0, u "I"), (0, .fieldref 22 23), (0, .class_ 24), (0, .nameAndType 25 12), (0, u "com/example/sunder/sunder/SqlTokens$Kind"), (0, u "WORD"), (0, .methodref 27 28), (0, .class_ 29), (0, .nameAndType 30 31), (0, u "com/example/sunder/sunder/SqlTokens"), (0, u "fold"), (0, u "(Ljava/lang/String;)Ljava/lang/String;"), (0, .methodref 33 34), (0, .class_ 35), (0, .nameAndType 36 37), (0, u "java/lang/String"), (0, u "equals"), (0, u "(Ljava/lang/Object;)Z"), (41, u "(Lcom/example/sunder/sunder/SqlTokens$Kind;Ljava/lang/String;I)V"), (3, u "is"), (0, u "(Ljava/lang/String;)Z")] 33

def k12c0 : Code := { maxStack := 2, maxLocals := 4, code := prog_18_method_1_code, exceptionTable := #[], attributes := #[] }
def k12m0 : Method := { name := "<init>", desc := "(Lcom/example/sunder/sunder/SqlTokens$Kind;Ljava/lang/String;I)V", sig := { parameters := [(.object "com/example/sunder/sunder/SqlTokens$Kind"), (.object "java/lang/String"), .int], returnType := none }, accessFlags := 0, code := some k12c0 }
def k12c1 : Code := { maxStack := 2, maxLocals := 2, code := prog_18_method_2_code, exceptionTable := #[], attributes := #[] }
def k12m1 : Method := { name := "is", desc := "(Ljava/lang/String;)Z", sig := { parameters := [(.object "java/lang/String")], returnType := some .boolean }, accessFlags := 0, code := some k12c1 }
/-- com/example/sunder/sunder/SqlTokens$Token -/
def k12 : Class := { plain "com/example/sunder/sunder/SqlTokens$Token" (some 11) with
  accessFlags := 48
  interfaces := #[]
  cf := some (fileOf pool12 8 #[.nestHost 27] #[{ accessFlags := 0, nameIndex := 5, descriptorIndex := 79, attributes := #[] }, { accessFlags := 0, nameIndex := 83, descriptorIndex := 84, attributes := #[] }] 48 2 #[] #[{ accessFlags := 18, nameIndex := 11, descriptorIndex := 12, attributes := #[] }, { accessFlags := 18, nameIndex := 15, descriptorIndex := 16, attributes := #[] }, { accessFlags := 18, nameIndex := 19, descriptorIndex := 20, attributes := #[] }])
  fields := #[{ name := "kind", type := (.object "com/example/sunder/sunder/SqlTokens$Kind"), accessFlags := 18, slot := 0, constantValue := 0 }, { name := "text", type := (.object "java/lang/String"), accessFlags := 18, slot := 1, constantValue := 0 }, { name := "line", type := .int, accessFlags := 18, slot := 2, constantValue := 0 }]
  methods := #[k12m0, k12m1]
  instanceTypes := #[(.object "com/example/sunder/sunder/SqlTokens$Kind"), (.object "java/lang/String"), .int]
  staticTypes := #[]
  resolved := Array.replicate 118 none
  statics := none }

def pool13 : Array CpInfo := pool [(2, .class_ 4), (1, u "java/lang/Object"), (0, u "<init>"), (5, .class_ 13), (1, u "com/example/sunder/sunder/SqlTokens"), (0, u "ahead"), (0, u "Ljava/util/Deque;"), (2, u "line"), (0, u "I"), (2, u "text"), (0, u "Ljava/lang/String;"), (3, .class_ 29), (1, u "java/lang/String"), (4, u "at"), (0, .class_ 36), (0, u "java/lang/StringBuilder"), (0, .methodref 27 38), (0, .nameAndType 39 40), (0, u "length"), (0, u "()I"), (0, .methodref 35 42), (0, .nameAndType 5 43), (0, u "(I)V"), (0, .methodref 27 45), (0, .nameAndType 46 47), (0, u "charAt"), (0, u "(I)C"), (0, .methodref 35 49), (0, .nameAndType 50 51), (0, u "append"), (0, u "(C)Ljava/lang/StringBuilder;"), (0, .methodref 35 53), (0, .nameAndType 54 55), (0, u "toString"), (0, u "()Ljava/lang/String;"), (5, .class_ 63), (1, u "com/example/sunder/sunder/SqlTokens$Token"), (3, .class_ 69), (1, u "com/example/sunder/sunder/SqlTokens$Kind"), (125, u "fold"), (0, u "(Ljava/lang/String;)Ljava/lang/String;")] 23

def k13c0 : Code := { maxStack := 3, maxLocals := 4, code := prog_16_method_2_code, exceptionTable := #[], attributes := #[] }
def k13m0 : Method := { name := "fold", desc := "(Ljava/lang/String;)Ljava/lang/String;", sig := { parameters := [(.object "java/lang/String")], returnType := some (.object "java/lang/String") }, accessFlags := 8, code := some k13c0 }
/-- com/example/sunder/sunder/SqlTokens -/
def k13 : Class := { plain "com/example/sunder/sunder/SqlTokens" (some 0) with
  accessFlags := 48
  interfaces := #[]
  cf := some (fileOf pool13 11 #[.nestMembers #[61, 67]] #[{ accessFlags := 8, nameIndex := 195, descriptorIndex := 196, attributes := #[] }] 48 2 #[] #[{ accessFlags := 18, nameIndex := 22, descriptorIndex := 23, attributes := #[] }, { accessFlags := 18, nameIndex := 14, descriptorIndex := 15, attributes := #[] }, { accessFlags := 2, nameIndex := 34, descriptorIndex := 19, attributes := #[] }, { accessFlags := 2, nameIndex := 18, descriptorIndex := 19, attributes := #[] }])
  fields := #[{ name := "text", type := (.object "java/lang/String"), accessFlags := 18, slot := 0, constantValue := 0 }, { name := "ahead", type := (.object "java/util/Deque"), accessFlags := 18, slot := 1, constantValue := 0 }, { name := "at", type := .int, accessFlags := 2, slot := 2, constantValue := 0 }, { name := "line", type := .int, accessFlags := 2, slot := 3, constantValue := 0 }]
  methods := #[k13m0]
  instanceTypes := #[(.object "java/lang/String"), (.object "java/util/Deque"), .int, .int]
  staticTypes := #[]
  resolved := Array.replicate 220 none
  statics := none }

def pool14 : Array CpInfo := pool [(1, .class_ 2), (0, u "java/lang/Appendable"), (0, .class_ 4), (0, u "java/lang/Object")] 9

/-- java/lang/Appendable -/
def k14 : Class := { plain "java/lang/Appendable" (some 0) with
  accessFlags := 1537
  interfaces := #[]
  cf := some (fileOf pool14 1 #[] #[] 1537 3 #[] #[])
  fields := #[]
  methods := #[]
  instanceTypes := #[]
  staticTypes := #[]
  resolved := Array.replicate 14 none
  statics := none }

def pool15 : Array CpInfo := pool [(1, .class_ 2), (0, u "java/lang/String"), (0, .methodref 4 5), (0, .class_ 6), (0, .nameAndType 7 8), (0, u "java/lang/Object"), (0, u "<init>"), (0, u "()V"), (1, .class_ 12), (1, u "java/lang/AbstractStringBuilder"), (0, u "EMPTYVALUE"), (0, u "[B"), (0, .fieldref 10 16), (0, .nameAndType 17 14), (0, u "value"), (0, .fieldref 1 19), (0, .nameAndType 20 21), (0, u "COMPACT_STRINGS"), (0, u "Z"), (0, .fieldref 10 23), (0, .nameAndType 24 25), (0, u "coder"), (0, u "B"), (0, .methodref 27 28), (0, .class_ 29), (0, .nameAndType 30 31), (0, u "java/lang/StringUTF16"), (0, u "newBytesFor"), (0, u "(I)[B"), (2, u "length"), (0, u "()I"), (9, u "append"), (2, .class_ 49), (0, u "java/lang/CharSequence"), (25, u "maybeLatin1"), (3, .fieldref 10 80), (0, .nameAndType 81 82), (0, u "count"), (0, u "I"), (0, .methodref 10 84), (0, .nameAndType 85 86), (0, u "isLatin1"), (0, u "()Z"), (1, .class_ 90), (1, u "java/lang/StringLatin1"), (9, .methodref 10 101), (0, .nameAndType 102 103), (0, u "ensureCapacityInternal"), (0, u "(I)V"), (21, .methodref 88 126), (0, .nameAndType 127 128), (0, u "inflate"), (0, u "([BI[BII)V"), (7, u "([BII)V"), (54, .methodref 88 192), (0, .nameAndType 193 194), (0, u "canEncode"), (0, u "(C)Z"), (0, .methodref 10 196), (0, .nameAndType 127 8), (0, .methodref 27 198), (0, .nameAndType 199 136), (0, u "putCharSB"), (92, u "(C)Ljava/lang/AbstractStringBuilder;"), (110, u "()[B"), (40, .class_ 445), (0, u "java/lang/Appendable"), (106, u "getValue")] 56

def k15m0 : Method := { name := "<init>", desc := "()V", sig := { parameters := [], returnType := none }, accessFlags := 0, code := none }
def k15c1 : Code := { maxStack := 2, maxLocals := 2, code := jdk_68_method_2_code, exceptionTable := #[], attributes := #[] }
def k15m1 : Method := { name := "<init>", desc := "(I)V", sig := { parameters := [.int], returnType := none }, accessFlags := 0, code := some k15c1 }
def k15c2 : Code := { maxStack := 1, maxLocals := 1, code := jdk_68_method_6_code, exceptionTable := #[], attributes := #[] }
def k15m2 : Method := { name := "length", desc := "()I", sig := { parameters := [], returnType := some .int }, accessFlags := 1, code := some k15c2 }
def k15c3 : Code := { maxStack := 4, maxLocals := 3, code := jdk_68_method_9_code, exceptionTable := #[], attributes := #[] }
def k15m3 : Method := { name := "ensureCapacityInternal", desc := "(I)V", sig := { parameters := [.int], returnType := none }, accessFlags := 2, code := some k15c3 }
def k15c4 : Code := { maxStack := 5, maxLocals := 2, code := jdk_68_method_11_code, exceptionTable := #[], attributes := #[] }
def k15m4 : Method := { name := "inflate", desc := "()V", sig := { parameters := [], returnType := none }, accessFlags := 2, code := some k15c4 }
def k15c5 : Code := { maxStack := 5, maxLocals := 2, code := jdk_68_method_31_code, exceptionTable := #[], attributes := #[] }
def k15m5 : Method := { name := "append", desc := "(C)Ljava/lang/AbstractStringBuilder;", sig := { parameters := [.char], returnType := some (.object "java/lang/AbstractStringBuilder") }, accessFlags := 1, code := some k15c5 }
def k15c6 : Code := { maxStack := 1, maxLocals := 1, code := jdk_68_method_64_code, exceptionTable := #[], attributes := #[] }
def k15m6 : Method := { name := "getValue", desc := "()[B", sig := { parameters := [], returnType := some (.array .byte) }, accessFlags := 16, code := some k15c6 }
def k15c7 : Code := { maxStack := 1, maxLocals := 1, code := jdk_68_method_68_code, exceptionTable := #[], attributes := #[] }
def k15m7 : Method := { name := "isLatin1", desc := "()Z", sig := { parameters := [], returnType := some .boolean }, accessFlags := 16, code := some k15c7 }
/-- java/lang/AbstractStringBuilder -/
def k15 : Class := { plain "java/lang/AbstractStringBuilder" (some 0) with
  accessFlags := 1056
  interfaces := #[14, 8]
  cf := some (fileOf pool15 10 #[] #[{ accessFlags := 0, nameIndex := 7, descriptorIndex := 8, attributes := #[] }, { accessFlags := 0, nameIndex := 7, descriptorIndex := 103, attributes := #[] }, { accessFlags := 1, nameIndex := 34, descriptorIndex := 35, attributes := #[] }, { accessFlags := 2, nameIndex := 102, descriptorIndex := 103, attributes := #[] }, { accessFlags := 2, nameIndex := 127, descriptorIndex := 8, attributes := #[] }, { accessFlags := 1, nameIndex := 45, descriptorIndex := 292, attributes := #[] }, { accessFlags := 16, nameIndex := 552, descriptorIndex := 403, attributes := #[] }, { accessFlags := 16, nameIndex := 85, descriptorIndex := 86, attributes := #[] }] 1056 4 #[444, 48] #[{ accessFlags := 0, nameIndex := 17, descriptorIndex := 14, attributes := #[] }, { accessFlags := 0, nameIndex := 24, descriptorIndex := 25, attributes := #[] }, { accessFlags := 0, nameIndex := 75, descriptorIndex := 21, attributes := #[] }, { accessFlags := 0, nameIndex := 81, descriptorIndex := 82, attributes := #[] }, { accessFlags := 26, nameIndex := 13, descriptorIndex := 14, attributes := #[] }])
  fields := #[{ name := "value", type := (.array .byte), accessFlags := 0, slot := 0, constantValue := 0 }, { name := "coder", type := .byte, accessFlags := 0, slot := 1, constantValue := 0 }, { name := "maybeLatin1", type := .boolean, accessFlags := 0, slot := 2, constantValue := 0 }, { name := "count", type := .int, accessFlags := 0, slot := 3, constantValue := 0 }, { name := "EMPTYVALUE", type := (.array .byte), accessFlags := 26, slot := 0, constantValue := 0 }]
  methods := #[k15m0, k15m1, k15m2, k15m3, k15m4, k15m5, k15m6, k15m7]
  instanceTypes := #[(.array .byte), .byte, .boolean, .int]
  staticTypes := #[(.array .byte)]
  resolved := Array.replicate 609 none
  statics := none }

def pool16 : Array CpInfo := pool [(1, .methodref 2 3), (0, .class_ 4), (0, .nameAndType 5 6), (0, u "java/lang/AbstractStringBuilder"), (0, u "<init>"), (0, u "(I)V"), (11, .class_ 20), (1, u "java/lang/String"), (3, .class_ 26), (1, u "java/lang/StringBuilder"), (0, u "append"), (22, .methodref 2 51), (0, .nameAndType 27 52), (0, u "(C)Ljava/lang/AbstractStringBuilder;"), (84, .methodref 18 138), (0, .nameAndType 5 139), (0, u "(Ljava/lang/StringBuilder;)V"), (5, u "()V"), (10, u "()I"), (129, u "(C)Ljava/lang/StringBuilder;"), (56, .methodref 2 344), (0, .nameAndType 345 156), (0, u "length"), (3, .class_ 350), (0, u "java/lang/Appendable"), (0, .class_ 352), (0, u "java/io/Serializable"), (0, .class_ 354), (0, u "java/lang/Comparable"), (0, .class_ 356), (0, u "java/lang/CharSequence"), (0, u "serialVersionUID"), (0, u "J"), (40, u "toString"), (0, u "()Ljava/lang/String;")] 21

def k16m0 : Method := { name := "<init>", desc := "()V", sig := { parameters := [], returnType := none }, accessFlags := 1, code := none }
def k16c1 : Code := { maxStack := 2, maxLocals := 2, code := jdk_67_method_2_code, exceptionTable := #[], attributes := #[] }
def k16m1 : Method := { name := "<init>", desc := "(I)V", sig := { parameters := [.int], returnType := none }, accessFlags := 1, code := some k16c1 }
def k16c2 : Code := { maxStack := 2, maxLocals := 2, code := jdk_67_method_14_code, exceptionTable := #[], attributes := #[] }
def k16m2 : Method := { name := "append", desc := "(C)Ljava/lang/StringBuilder;", sig := { parameters := [.char], returnType := some (.object "java/lang/StringBuilder") }, accessFlags := 1, code := some k16c2 }
def k16c3 : Code := { maxStack := 3, maxLocals := 1, code := jdk_67_method_42_code, exceptionTable := #[], attributes := #[] }
def k16m3 : Method := { name := "toString", desc := "()Ljava/lang/String;", sig := { parameters := [], returnType := some (.object "java/lang/String") }, accessFlags := 1, code := some k16c3 }
def k16c4 : Code := { maxStack := 1, maxLocals := 1, code := jdk_67_method_93_code, exceptionTable := #[], attributes := #[] }
def k16m4 : Method := { name := "length", desc := "()I", sig := { parameters := [], returnType := some .int }, accessFlags := 4161, code := some k16c4 }
/-- java/lang/StringBuilder -/
def k16 : Class := { plain "java/lang/StringBuilder" (some 15) with
  accessFlags := 49
  interfaces := #[14, 4, 3, 8]
  cf := some (fileOf pool16 24 #[] #[{ accessFlags := 1, nameIndex := 5, descriptorIndex := 145, attributes := #[] }, { accessFlags := 1, nameIndex := 5, descriptorIndex := 6, attributes := #[] }, { accessFlags := 1, nameIndex := 27, descriptorIndex := 286, attributes := #[] }, { accessFlags := 1, nameIndex := 399, descriptorIndex := 400, attributes := #[] }, { accessFlags := 4161, nameIndex := 345, descriptorIndex := 156, attributes := #[] }] 49 2 #[349, 351, 353, 355] #[{ accessFlags := 24, nameIndex := 357, descriptorIndex := 358, attributes := #[] }])
  fields := #[{ name := "serialVersionUID", type := .long, accessFlags := 24, slot := 0, constantValue := 0 }]
  methods := #[k16m0, k16m1, k16m2, k16m3, k16m4]
  instanceTypes := #[(.array .byte), .byte, .boolean, .int]
  staticTypes := #[.long]
  resolved := Array.replicate 422 none
  statics := none }

def pool17 : Array CpInfo := pool [(2, .class_ 4), (1, u "java/lang/Object"), (0, u "<init>"), (0, u "()V"), (7, .class_ 16), (1, u "java/util/Arrays"), (57, .class_ 76), (1, u "java/util/Arrays$NaturalOrder"), (32, u "()Ljava/lang/Object;"), (3, .class_ 115), (1, u "java/util/Arrays$LegacyMergeSort"), (1, u "Z"), (10, .nameAndType 129 109), (0, u "clone"), (9, u "copyOfRange"), (170, .methodref 311 128), (0, .class_ 312), (0, u "[B"), (29, u "([BII)[B"), (32, .class_ 376), (0, u "java/util/Arrays$ArrayList"), (68, u "$assertionsDisabled"), (269, u "MIN_ARRAY_SORT_GRAN"), (0, u "I"), (2, u "INSERTIONSORT_THRESHOLD"), (255, .class_ 976), (0, u "java/util/Arrays$ArrayItr")] 52

def k17m0 : Method := { name := "<init>", desc := "()V", sig := { parameters := [], returnType := none }, accessFlags := 2, code := none }
def k17c1 : Code := { maxStack := 3, maxLocals := 3, code := jdk_65_method_132_code, exceptionTable := #[], attributes := #[] }
def k17m1 : Method := { name := "copyOfRange", desc := "([BII)[B", sig := { parameters := [(.array .byte), .int, .int], returnType := some (.array .byte) }, accessFlags := 9, code := some k17c1 }
/-- java/util/Arrays -/
def k17 : Class := { plain "java/util/Arrays" (some 0) with
  accessFlags := 49
  interfaces := #[]
  cf := some (fileOf pool17 14 #[.nestMembers #[975, 375, 113, 74]] #[{ accessFlags := 2, nameIndex := 5, descriptorIndex := 6, attributes := #[] }, { accessFlags := 9, nameIndex := 139, descriptorIndex := 342, attributes := #[] }] 49 2 #[] #[{ accessFlags := 26, nameIndex := 715, descriptorIndex := 716, attributes := #[] }, { accessFlags := 26, nameIndex := 719, descriptorIndex := 716, attributes := #[] }, { accessFlags := 4120, nameIndex := 445, descriptorIndex := 117, attributes := #[] }])
  fields := #[{ name := "MIN_ARRAY_SORT_GRAN", type := .int, accessFlags := 26, slot := 0, constantValue := 0 }, { name := "INSERTIONSORT_THRESHOLD", type := .int, accessFlags := 26, slot := 1, constantValue := 0 }, { name := "$assertionsDisabled", type := .boolean, accessFlags := 4120, slot := 2, constantValue := 0 }]
  methods := #[k17m0, k17m1]
  instanceTypes := #[]
  staticTypes := #[.int, .int, .boolean]
  resolved := Array.replicate 1029 none
  statics := none }

def pool18 : Array CpInfo := pool [(1, .class_ 2), (0, u "java/lang/Cloneable"), (0, .class_ 4), (0, u "java/lang/Object")] 2

/-- java/lang/Cloneable -/
def k18 : Class := { plain "java/lang/Cloneable" (some 0) with
  accessFlags := 1537
  interfaces := #[]
  cf := some (fileOf pool18 1 #[] #[] 1537 3 #[] #[])
  fields := #[]
  methods := #[]
  instanceTypes := #[]
  staticTypes := #[]
  resolved := Array.replicate 7 none
  statics := none }

def pool19 : Array CpInfo := pool [(1, .class_ 2), (0, u "java/lang/String"), (1, .class_ 6), (1, u "java/lang/Object"), (0, u "<init>"), (0, u "()V"), (0, .methodref 1 10), (0, .nameAndType 11 12), (0, u "checkIndex"), (0, u "(II)V"), (1, .class_ 16), (1, u "java/lang/StringLatin1"), (0, u "inflate"), (2, .class_ 22), (1, u "java/lang/StringUTF16"), (3, .nameAndType 17 27), (0, u "([BI[BII)V"), (25, u "([BI)C"), (36, u "canEncode"), (14, u "(C)Z"), (15, u "$assertionsDisabled"), (0, u "Z"), (98, .class_ 223), (1, u "java/lang/StringLatin1$LinesSpliterator"), (16, .methodref 20 26), (11, u "charAt"), (28, u "equals"), (0, u "([B[B)Z"), (97, u "toBytes"), (1, u "(C)[B"), (7, .class_ 391), (0, u "java/lang/StringLatin1$CharsSpliterator")] 3

def k19m0 : Method := { name := "<init>", desc := "()V", sig := { parameters := [], returnType := none }, accessFlags := 0, code := none }
def k19c1 : Code := { maxStack := 2, maxLocals := 2, code := jdk_43_method_2_code, exceptionTable := #[], attributes := #[] }
def k19m1 : Method := { name := "charAt", desc := "([BI)C", sig := { parameters := [(.array .byte), .int], returnType := some .char }, accessFlags := 9, code := some k19c1 }
def k19c2 : Code := { maxStack := 2, maxLocals := 1, code := jdk_43_method_3_code, exceptionTable := #[], attributes := #[] }
def k19m2 : Method := { name := "canEncode", desc := "(C)Z", sig := { parameters := [.char], returnType := some .boolean }, accessFlags := 9, code := some k19c2 }
def k19c3 : Code := { maxStack := 3, maxLocals := 3, code := jdk_43_method_13_code, exceptionTable := #[], attributes := #[] }
def k19m3 : Method := { name := "equals", desc := "([B[B)Z", sig := { parameters := [(.array .byte), (.array .byte)], returnType := some .boolean }, accessFlags := 9, code := some k19c3 }
def k19c4 : Code := { maxStack := 4, maxLocals := 1, code := jdk_43_method_46_code, exceptionTable := #[], attributes := #[] }
def k19m4 : Method := { name := "toBytes", desc := "(C)[B", sig := { parameters := [.char], returnType := some (.array .byte) }, accessFlags := 9, code := some k19c4 }
def k19c5 : Code := { maxStack := 5, maxLocals := 5, code := jdk_43_method_50_code, exceptionTable := #[], attributes := #[] }
def k19m5 : Method := { name := "inflate", desc := "([BI[BII)V", sig := { parameters := [(.array .byte), .int, (.array .byte), .int, .int], returnType := none }, accessFlags := 9, code := some k19c5 }
/-- java/lang/StringLatin1 -/
def k19 : Class := { plain "java/lang/StringLatin1" (some 0) with
  accessFlags := 48
  interfaces := #[]
  cf := some (fileOf pool19 14 #[.nestMembers #[390, 221]] #[{ accessFlags := 0, nameIndex := 7, descriptorIndex := 8, attributes := #[] }, { accessFlags := 9, nameIndex := 252, descriptorIndex := 53, attributes := #[] }, { accessFlags := 9, nameIndex := 90, descriptorIndex := 105, attributes := #[] }, { accessFlags := 9, nameIndex := 281, descriptorIndex := 282, attributes := #[] }, { accessFlags := 9, nameIndex := 380, descriptorIndex := 382, attributes := #[] }, { accessFlags := 9, nameIndex := 17, descriptorIndex := 27, attributes := #[] }] 48 4 #[] #[{ accessFlags := 4120, nameIndex := 121, descriptorIndex := 122, attributes := #[] }])
  fields := #[{ name := "$assertionsDisabled", type := .boolean, accessFlags := 4120, slot := 0, constantValue := 0 }]
  methods := #[k19m0, k19m1, k19m2, k19m3, k19m4, k19m5]
  instanceTypes := #[]
  staticTypes := #[.boolean]
  resolved := Array.replicate 395 none
  statics := none }

def pool20 : Array CpInfo := pool [(2, .class_ 4), (1, u "java/lang/Object"), (0, u "<init>"), (0, u "()V"), (17, .class_ 26), (1, u "jdk/internal/util/Preconditions"), (6, u "checkIndex"), (15, u "checkFromIndexSize"), (5, .class_ 56), (0, u "jdk/internal/util/Preconditions$4"), (57, .class_ 115), (0, u "jdk/internal/util/Preconditions$1"), (7, u "SIOOBE_FORMATTER"), (0, u "Ljava/util/function/BiFunction;"), (0, .class_ 126), (0, u "jdk/internal/util/Preconditions$2"), (3, u "AIOOBE_FORMATTER"), (0, .class_ 132), (0, u "jdk/internal/util/Preconditions$3"), (3, u "IOOBE_FORMATTER"), (41, u "(IILjava/util/function/BiFunction;)I"), (4, u "(IIILjava/util/function/BiFunction;)I")] 10

def k20m0 : Method := { name := "<init>", desc := "()V", sig := { parameters := [], returnType := none }, accessFlags := 1, code := none }
def k20c1 : Code := { maxStack := 3, maxLocals := 3, code := jdk_41_method_11_code, exceptionTable := #[], attributes := #[] }
def k20m1 : Method := { name := "checkIndex", desc := "(IILjava/util/function/BiFunction;)I", sig := { parameters := [.int, .int, (.object "java/util/function/BiFunction")], returnType := some .int }, accessFlags := 9, code := some k20c1 }
def k20c2 : Code := { maxStack := 4, maxLocals := 4, code := jdk_41_method_13_code, exceptionTable := #[], attributes := #[] }
def k20m2 : Method := { name := "checkFromIndexSize", desc := "(IIILjava/util/function/BiFunction;)I", sig := { parameters := [.int, .int, .int, (.object "java/util/function/BiFunction")], returnType := some .int }, accessFlags := 9, code := some k20c2 }
/-- jdk/internal/util/Preconditions -/
def k20 : Class := { plain "jdk/internal/util/Preconditions" (some 0) with
  accessFlags := 33
  interfaces := #[]
  cf := some (fileOf pool20 24 #[.nestMembers #[55, 131, 125, 114]] #[{ accessFlags := 1, nameIndex := 5, descriptorIndex := 6, attributes := #[] }, { accessFlags := 9, nameIndex := 33, descriptorIndex := 178, attributes := #[] }, { accessFlags := 9, nameIndex := 49, descriptorIndex := 183, attributes := #[] }] 33 2 #[] #[{ accessFlags := 25, nameIndex := 123, descriptorIndex := 124, attributes := #[] }, { accessFlags := 25, nameIndex := 130, descriptorIndex := 124, attributes := #[] }, { accessFlags := 25, nameIndex := 136, descriptorIndex := 124, attributes := #[] }])
  fields := #[{ name := "SIOOBE_FORMATTER", type := (.object "java/util/function/BiFunction"), accessFlags := 25, slot := 0, constantValue := 0 }, { name := "AIOOBE_FORMATTER", type := (.object "java/util/function/BiFunction"), accessFlags := 25, slot := 1, constantValue := 0 }, { name := "IOOBE_FORMATTER", type := (.object "java/util/function/BiFunction"), accessFlags := 25, slot := 2, constantValue := 0 }]
  methods := #[k20m0, k20m1, k20m2]
  instanceTypes := #[]
  staticTypes := #[(.object "java/util/function/BiFunction"), (.object "java/util/function/BiFunction"), (.object "java/util/function/BiFunction")]
  resolved := Array.replicate 194 none
  statics := some 2 }

def pool21 : Array CpInfo := pool [(3, .class_ 4), (0, u "java/lang/String"), (1, .class_ 8), (1, u "java/lang/Object"), (0, u "<init>"), (0, u "()V"), (0, .methodref 12 13), (0, .class_ 14), (0, .nameAndType 15 16), (0, u "java/lang/StringUTF16"), (0, u "newBytesLength"), (0, u "(I)I"), (3, .integer 1073741823), (23, .fieldref 12 45), (0, .nameAndType 46 47), (0, u "$assertionsDisabled"), (0, u "Z"), (0, .methodref 12 49), (0, .nameAndType 50 51), (0, u "length"), (0, u "([B)I"), (7, .fieldref 12 60), (0, .nameAndType 61 62), (0, u "HI_BYTE_SHIFT"), (0, u "I"), (0, .fieldref 12 64), (0, .nameAndType 65 62), (0, u "LO_BYTE_SHIFT"), (1, .methodref 12 68), (0, .nameAndType 69 70), (0, u "checkIndex"), (0, u "(I[B)V"), (0, .methodref 12 72), (0, .nameAndType 73 74), (0, u "getChar"), (0, u "([BI)C"), (24, u "(II[B)V"), (7, .methodref 12 108), (0, .nameAndType 109 110), (0, u "newBytesFor"), (0, u "(I)[B"), (0, .methodref 12 112), (0, .nameAndType 113 114), (0, u "putChar"), (0, u "([BII)V"), (0, .methodref 12 116), (0, .nameAndType 117 118), (0, u "compress"), (0, u "([CI[BII)I"), (0, .methodref 12 120), (0, .nameAndType 121 122), (0, u "toBytes"), (0, u "([CII)[B"), (17, u "inflate"), (0, u "([BI[BII)V"), (31, .methodref 12 174), (0, .nameAndType 175 99), (0, u "checkBoundsOffCount"), (85, u "coderFromArrayLen"), (0, u "([BI)B"), (18, u "(III)I"), (87, .class_ 371), (1, u "java/lang/StringUTF16$LinesSpliterator"), (20, u "charAt"), (21, .methodref 3 415), (0, .nameAndType 69 416), (0, u "(II)V"), (2, .methodref 3 420), (0, .nameAndType 175 281), (9, u "MAX_LENGTH"), (44, u "(C)[B"), (110, u "putCharSB"), (40, .class_ 628), (0, u "java/lang/StringUTF16$CodePointsSpliterator"), (0, .class_ 630), (0, u "java/lang/StringUTF16$CharsSpliterator")] 4

def k21m0 : Method := { name := "<init>", desc := "()V", sig := { parameters := [], returnType := none }, accessFlags := 0, code := none }
def k21c1 : Code := { maxStack := 1, maxLocals := 1, code := jdk_52_method_2_code, exceptionTable := #[], attributes := #[] }
def k21m1 : Method := { name := "newBytesFor", desc := "(I)[B", sig := { parameters := [.int], returnType := some (.array .byte) }, accessFlags := 9, code := some k21c1 }
def k21c2 : Code := { maxStack := 4, maxLocals := 1, code := jdk_52_method_3_code, exceptionTable := #[], attributes := #[] }
def k21m2 : Method := { name := "newBytesLength", desc := "(I)I", sig := { parameters := [.int], returnType := some .int }, accessFlags := 9, code := some k21c2 }
def k21c3 : Code := { maxStack := 4, maxLocals := 3, code := jdk_52_method_4_code, exceptionTable := #[], attributes := #[] }
def k21m3 : Method := { name := "putChar", desc := "([BII)V", sig := { parameters := [(.array .byte), .int, .int], returnType := none }, accessFlags := 8, code := some k21c3 }
def k21c4 : Code := { maxStack := 3, maxLocals := 2, code := jdk_52_method_5_code, exceptionTable := #[], attributes := #[] }
def k21m4 : Method := { name := "getChar", desc := "([BI)C", sig := { parameters := [(.array .byte), .int], returnType := some .char }, accessFlags := 8, code := some k21c4 }
def k21c5 : Code := { maxStack := 2, maxLocals := 1, code := jdk_52_method_6_code, exceptionTable := #[], attributes := #[] }
def k21m5 : Method := { name := "length", desc := "([B)I", sig := { parameters := [(.array .byte)], returnType := some .int }, accessFlags := 9, code := some k21c5 }
def k21c6 : Code := { maxStack := 4, maxLocals := 5, code := jdk_52_method_14_code, exceptionTable := #[], attributes := #[] }
def k21m6 : Method := { name := "toBytes", desc := "([CII)[B", sig := { parameters := [(.array .char), .int, .int], returnType := some (.array .byte) }, accessFlags := 9, code := some k21c6 }
def k21c7 : Code := { maxStack := 2, maxLocals := 2, code := jdk_52_method_15_code, exceptionTable := #[], attributes := #[] }
def k21m7 : Method := { name := "coderFromArrayLen", desc := "([BI)B", sig := { parameters := [(.array .byte), .int], returnType := some .byte }, accessFlags := 8, code := some k21c7 }
def k21c8 : Code := { maxStack := 5, maxLocals := 6, code := jdk_52_method_16_code, exceptionTable := #[], attributes := #[] }
def k21m8 : Method := { name := "compress", desc := "([CII)[B", sig := { parameters := [(.array .char), .int, .int], returnType := some (.array .byte) }, accessFlags := 9, code := some k21c8 }
def k21c9 : Code := { maxStack := 3, maxLocals := 7, code := jdk_52_method_21_code, exceptionTable := #[], attributes := #[] }
def k21m9 : Method := { name := "compress", desc := "([CI[BII)I", sig := { parameters := [(.array .char), .int, (.array .byte), .int, .int], returnType := some .int }, accessFlags := 9, code := some k21c9 }
def k21c10 : Code := { maxStack := 3, maxLocals := 2, code := jdk_52_method_24_code, exceptionTable := #[], attributes := #[] }
def k21m10 : Method := { name := "toBytes", desc := "(C)[B", sig := { parameters := [.char], returnType := some (.array .byte) }, accessFlags := 9, code := some k21c10 }
def k21c11 : Code := { maxStack := 3, maxLocals := 3, code := jdk_52_method_71_code, exceptionTable := #[], attributes := #[] }
def k21m11 : Method := { name := "putCharSB", desc := "([BII)V", sig := { parameters := [(.array .byte), .int, .int], returnType := none }, accessFlags := 9, code := some k21c11 }
def k21c12 : Code := { maxStack := 2, maxLocals := 2, code := jdk_52_method_83_code, exceptionTable := #[], attributes := #[] }
def k21m12 : Method := { name := "charAt", desc := "([BI)C", sig := { parameters := [(.array .byte), .int], returnType := some .char }, accessFlags := 9, code := some k21c12 }
def k21c13 : Code := { maxStack := 4, maxLocals := 6, code := jdk_52_method_86_code, exceptionTable := #[], attributes := #[] }
def k21m13 : Method := { name := "inflate", desc := "([BI[BII)V", sig := { parameters := [(.array .byte), .int, (.array .byte), .int, .int], returnType := none }, accessFlags := 9, code := some k21c13 }
def k21c14 : Code := { maxStack := 2, maxLocals := 2, code := jdk_52_method_91_code, exceptionTable := #[], attributes := #[] }
def k21m14 : Method := { name := "checkIndex", desc := "(I[B)V", sig := { parameters := [.int, (.array .byte)], returnType := none }, accessFlags := 9, code := some k21c14 }
def k21c15 : Code := { maxStack := 3, maxLocals := 3, code := jdk_52_method_94_code, exceptionTable := #[], attributes := #[] }
def k21m15 : Method := { name := "checkBoundsOffCount", desc := "(II[B)V", sig := { parameters := [.int, .int, (.array .byte)], returnType := none }, accessFlags := 9, code := some k21c15 }
/-- java/lang/StringUTF16 -/
def k21 : Class := { plain "java/lang/StringUTF16" (some 0) with
  accessFlags := 48
  interfaces := #[]
  cf := some (fileOf pool21 12 #[.nestMembers #[627, 629, 369]] #[{ accessFlags := 0, nameIndex := 9, descriptorIndex := 10, attributes := #[] }, { accessFlags := 9, nameIndex := 109, descriptorIndex := 110, attributes := #[] }, { accessFlags := 9, nameIndex := 15, descriptorIndex := 16, attributes := #[] }, { accessFlags := 8, nameIndex := 113, descriptorIndex := 114, attributes := #[] }, { accessFlags := 8, nameIndex := 73, descriptorIndex := 74, attributes := #[] }, { accessFlags := 9, nameIndex := 50, descriptorIndex := 51, attributes := #[] }, { accessFlags := 9, nameIndex := 121, descriptorIndex := 122, attributes := #[] }, { accessFlags := 8, nameIndex := 261, descriptorIndex := 262, attributes := #[] }, { accessFlags := 9, nameIndex := 117, descriptorIndex := 122, attributes := #[] }, { accessFlags := 9, nameIndex := 117, descriptorIndex := 118, attributes := #[] }, { accessFlags := 9, nameIndex := 121, descriptorIndex := 475, attributes := #[] }, { accessFlags := 9, nameIndex := 586, descriptorIndex := 114, attributes := #[] }, { accessFlags := 9, nameIndex := 392, descriptorIndex := 74, attributes := #[] }, { accessFlags := 9, nameIndex := 140, descriptorIndex := 141, attributes := #[] }, { accessFlags := 9, nameIndex := 69, descriptorIndex := 70, attributes := #[] }, { accessFlags := 9, nameIndex := 175, descriptorIndex := 99, attributes := #[] }] 48 6 #[] #[{ accessFlags := 26, nameIndex := 61, descriptorIndex := 62, attributes := #[] }, { accessFlags := 26, nameIndex := 65, descriptorIndex := 62, attributes := #[] }, { accessFlags := 24, nameIndex := 430, descriptorIndex := 62, attributes := #[] }, { accessFlags := 4120, nameIndex := 46, descriptorIndex := 47, attributes := #[] }])
  fields := #[{ name := "HI_BYTE_SHIFT", type := .int, accessFlags := 26, slot := 0, constantValue := 0 }, { name := "LO_BYTE_SHIFT", type := .int, accessFlags := 26, slot := 1, constantValue := 0 }, { name := "MAX_LENGTH", type := .int, accessFlags := 24, slot := 2, constantValue := 0 }, { name := "$assertionsDisabled", type := .boolean, accessFlags := 4120, slot := 3, constantValue := 0 }]
  methods := #[k21m0, k21m1, k21m2, k21m3, k21m4, k21m5, k21m6, k21m7, k21m8, k21m9, k21m10, k21m11, k21m12, k21m13, k21m14, k21m15]
  instanceTypes := #[]
  staticTypes := #[.int, .int, .int, .boolean]
  resolved := Array.replicate 635 none
  statics := some 3 }

def pool22 : Array CpInfo := pool [(9, u "<init>"), (6, .class_ 18), (1, u "java/lang/Object"), (0, u "()V"), (1, .class_ 23), (1, u "jdk/internal/util/ArraysSupport"), (0, u "LOG2_ARRAY_LONG_INDEX_SCALE"), (0, u "I"), (2, u "U"), (0, u "Ljdk/internal/misc/Unsafe;"), (8, u "BIG_ENDIAN"), (0, u "Z"), (8, u "LOG2_BYTE_BIT_SIZE"), (4, u "LOG2_ARRAY_INT_INDEX_SCALE"), (54, u "JLA"), (0, u "Ljdk/internal/access/JavaLangAccess;"), (11, u "LOG2_ARRAY_BOOLEAN_INDEX_SCALE"), (9, u "LOG2_ARRAY_BYTE_INDEX_SCALE"), (5, u "LOG2_ARRAY_CHAR_INDEX_SCALE"), (5, u "LOG2_ARRAY_SHORT_INDEX_SCALE"), (18, u "LOG2_ARRAY_FLOAT_INDEX_SCALE"), (24, u "LOG2_ARRAY_DOUBLE_INDEX_SCALE"), (89, u "T_BOOLEAN"), (2, u "T_CHAR"), (1, u "T_FLOAT"), (1, u "T_DOUBLE"), (1, u "T_BYTE"), (1, u "T_SHORT"), (1, u "T_INT"), (1, u "T_LONG"), (1, u "SOFT_MAX_ARRAY_LENGTH")] 83

def k22m0 : Method := { name := "<init>", desc := "()V", sig := { parameters := [], returnType := none }, accessFlags := 2, code := none }
/-- jdk/internal/util/ArraysSupport -/
def k22 : Class := { plain "jdk/internal/util/ArraysSupport" (some 0) with
  accessFlags := 33
  interfaces := #[]
  cf := some (fileOf pool22 21 #[] #[{ accessFlags := 2, nameIndex := 9, descriptorIndex := 19, attributes := #[] }] 33 16 #[] #[{ accessFlags := 24, nameIndex := 28, descriptorIndex := 29, attributes := #[] }, { accessFlags := 26, nameIndex := 38, descriptorIndex := 39, attributes := #[] }, { accessFlags := 25, nameIndex := 121, descriptorIndex := 25, attributes := #[] }, { accessFlags := 25, nameIndex := 131, descriptorIndex := 25, attributes := #[] }, { accessFlags := 25, nameIndex := 137, descriptorIndex := 25, attributes := #[] }, { accessFlags := 25, nameIndex := 143, descriptorIndex := 25, attributes := #[] }, { accessFlags := 25, nameIndex := 53, descriptorIndex := 25, attributes := #[] }, { accessFlags := 25, nameIndex := 24, descriptorIndex := 25, attributes := #[] }, { accessFlags := 25, nameIndex := 162, descriptorIndex := 25, attributes := #[] }, { accessFlags := 25, nameIndex := 187, descriptorIndex := 25, attributes := #[] }, { accessFlags := 26, nameIndex := 48, descriptorIndex := 25, attributes := #[] }, { accessFlags := 25, nameIndex := 277, descriptorIndex := 25, attributes := #[] }, { accessFlags := 25, nameIndex := 280, descriptorIndex := 25, attributes := #[] }, { accessFlags := 25, nameIndex := 282, descriptorIndex := 25, attributes := #[] }, { accessFlags := 25, nameIndex := 284, descriptorIndex := 25, attributes := #[] }, { accessFlags := 25, nameIndex := 286, descriptorIndex := 25, attributes := #[] }, { accessFlags := 25, nameIndex := 288, descriptorIndex := 25, attributes := #[] }, { accessFlags := 25, nameIndex := 290, descriptorIndex := 25, attributes := #[] }, { accessFlags := 25, nameIndex := 292, descriptorIndex := 25, attributes := #[] }, { accessFlags := 26, nameIndex := 108, descriptorIndex := 109, attributes := #[] }, { accessFlags := 25, nameIndex := 294, descriptorIndex := 25, attributes := #[] }])
  fields := #[{ name := "U", type := (.object "jdk/internal/misc/Unsafe"), accessFlags := 24, slot := 0, constantValue := 0 }, { name := "BIG_ENDIAN", type := .boolean, accessFlags := 26, slot := 1, constantValue := 0 }, { name := "LOG2_ARRAY_BOOLEAN_INDEX_SCALE", type := .int, accessFlags := 25, slot := 2, constantValue := 0 }, { name := "LOG2_ARRAY_BYTE_INDEX_SCALE", type := .int, accessFlags := 25, slot := 3, constantValue := 0 }, { name := "LOG2_ARRAY_CHAR_INDEX_SCALE", type := .int, accessFlags := 25, slot := 4, constantValue := 0 }, { name := "LOG2_ARRAY_SHORT_INDEX_SCALE", type := .int, accessFlags := 25, slot := 5, constantValue := 0 }, { name := "LOG2_ARRAY_INT_INDEX_SCALE", type := .int, accessFlags := 25, slot := 6, constantValue := 0 }, { name := "LOG2_ARRAY_LONG_INDEX_SCALE", type := .int, accessFlags := 25, slot := 7, constantValue := 0 }, { name := "LOG2_ARRAY_FLOAT_INDEX_SCALE", type := .int, accessFlags := 25, slot := 8, constantValue := 0 }, { name := "LOG2_ARRAY_DOUBLE_INDEX_SCALE", type := .int, accessFlags := 25, slot := 9, constantValue := 0 }, { name := "LOG2_BYTE_BIT_SIZE", type := .int, accessFlags := 26, slot := 10, constantValue := 0 }, { name := "T_BOOLEAN", type := .int, accessFlags := 25, slot := 11, constantValue := 0 }, { name := "T_CHAR", type := .int, accessFlags := 25, slot := 12, constantValue := 0 }, { name := "T_FLOAT", type := .int, accessFlags := 25, slot := 13, constantValue := 0 }, { name := "T_DOUBLE", type := .int, accessFlags := 25, slot := 14, constantValue := 0 }, { name := "T_BYTE", type := .int, accessFlags := 25, slot := 15, constantValue := 0 }, { name := "T_SHORT", type := .int, accessFlags := 25, slot := 16, constantValue := 0 }, { name := "T_INT", type := .int, accessFlags := 25, slot := 17, constantValue := 0 }, { name := "T_LONG", type := .int, accessFlags := 25, slot := 18, constantValue := 0 }, { name := "JLA", type := (.object "jdk/internal/access/JavaLangAccess"), accessFlags := 26, slot := 19, constantValue := 0 }, { name := "SOFT_MAX_ARRAY_LENGTH", type := .int, accessFlags := 25, slot := 20, constantValue := 0 }]
  methods := #[k22m0]
  instanceTypes := #[]
  staticTypes := #[(.object "jdk/internal/misc/Unsafe"), .boolean, .int, .int, .int, .int, .int, .int, .int, .int, .int, .int, .int, .int, .int, .int, .int, .int, .int, (.object "jdk/internal/access/JavaLangAccess"), .int]
  resolved := Array.replicate 378 none
  statics := none }

/-- the primitive byte -/
def k23 : Class := { plain "byte" none with kind := .primitive 'B', accessFlags := 0x411 }
/-- [B -/
def k24 : Class := { plain "[B" (some 0) with kind := .array 23 .byte, interfaces := #[18, 4], accessFlags := 1041 }

/-- the primitive char -/
def k25 : Class := { plain "char" none with kind := .primitive 'C', accessFlags := 0x411 }
/-- [C -/
def k26 : Class := { plain "[C" (some 0) with kind := .array 25 .char, interfaces := #[18, 4], accessFlags := 1041 }

/-- the primitive int -/
def k27 : Class := { plain "int" none with kind := .primitive 'I', accessFlags := 0x411 }
/-- [I -/
def k28 : Class := { plain "[I" (some 0) with kind := .array 27 .int, interfaces := #[18, 4], accessFlags := 1041 }

def heap : Heap := #[{ cls := 6, slots := #[.ref 4, .ref 5, .ref 6, .ref 7, .ref 8, .ref 9, .ref 10, .null], vm := .statics 6 },
  { cls := 10, slots := #[.long 0, .int 1, .null, .int 0, .null, .int 0, .int 0], vm := .statics 10 },
  { cls := 20, slots := #[.null, .null, .null], vm := .statics 20 },
  { cls := 21, slots := #[.int 0, .int 8, .int 0, .int 1], vm := .statics 21 },
  { cls := 6, slots := #[.null, .int 0, .int 0], vm := .none },
  { cls := 6, slots := #[.null, .int 1, .int 0], vm := .none },
  { cls := 6, slots := #[.null, .int 2, .int 0], vm := .none },
  { cls := 6, slots := #[.null, .int 3, .int 0], vm := .none },
  { cls := 6, slots := #[.null, .int 4, .int 0], vm := .none },
  { cls := 6, slots := #[.null, .int 5, .int 0], vm := .none },
  { cls := 6, slots := #[.null, .int 6, .int 0], vm := .none }]
def classes : Array Class := #[k0, k1, k2, k3, k4, k5, k6, k7, k8, k9, k10, k11, k12, k13, k14, k15, k16, k17, k18, k19, k20, k21, k22, k23, k24, k25, k26, k27, k28]
def interned : List (Array UInt16 × Addr) := []
def slotsUsed : Nat := 43
def theMethod : MethodId := ⟨1, 1⟩
def args0 : Array Value := #[.int 5, .int 6, .int 7, .int 8]
def aboutOver (below : List Frame) : State where
  vm := { classes := classes, interned := interned.toArray }
  heap := heap
  slotsUsed := slotsUsed
  threads := #[{ frames := .invoking theMethod args0 :: below }]
def below0 : List Frame := [.native { method := ⟨0, 0⟩, args := #[] }]
def about1 : State := aboutOver below0
def p0 : Program := .bare "" "" ""
def e0 : Env := launch0.env 0 0 0
theorem w_frames : about1.frames = Frame.invoking theMethod args0 :: below0 := rfl
set_option maxRecDepth 65536 in
theorem w_args : argsFit about1.vm theMethod args0 = true := by decide +kernel
set_option maxRecDepth 65536 in
theorem w_heap : heapFits about1 = true := by decide +kernel
set_option maxRecDepth 65536 in
theorem w_runnable : about1.curStatus? = some .runnable := by decide +kernel
set_option maxRecDepth 65536 in
theorem w_alone : about1.alone = true := by decide +kernel
set_option maxRecDepth 65536 in
theorem w_named : about1.methodNamed? x = some theMethod := by decide +kernel
set_option maxRecDepth 65536 in
theorem w_hears : about1.hears theMethod below0 = true := by decide +kernel
set_option maxRecDepth 65536 in
theorem w_ripe : about1.ripe theMethod args0 below0 = true := by decide +kernel
theorem w_running : about1.status = .running := rfl
set_option maxRecDepth 65536 in
theorem w_room : about1.hasRoom e0.platform room_1 = true :=
  launch0.hasRoom_least _ room_1 (by decide +kernel) (by decide +kernel) (by decide +kernel) (by decide +kernel) (by decide +kernel) (by decide +kernel)
theorem allAtoms_all (ts : List Jvm.Cond) (a : Array Jvm.Value) (st : Jvm.State) : (allAtoms ts).before a st = ts.all (fun c => c.before a st) := by
  induction ts with
  | nil => rfl
  | cons c t ih =>
    show (Jvm.Cond.and c (allAtoms t)).before a st = _
    rw [Jvm.Cond.before_and, ih, List.all_cons]
def words1 : List Jvm.Cond := Jvm.Cond.code x code maxLocals ret :: tables_1
/-- a 'code' word, met by the world's own term for the bytes: nothing is compared byte by byte -/
theorem code_word {y : MethodName} {bytes : ByteArray} {mx : Nat} {rt : Option FieldType} {a : Array Value} {s : State} {m : MethodId} {meth : Method} {c : Code} (h1 : s.methodNamed? y = some m) (h2 : s.vm.method? m = some meth) (h3 : meth.code = some c) (h4 : c.code = bytes)
    (h5 : (c.maxLocals == mx && c.exceptionTable.isEmpty && decide (c.maxStack ≤ mostOperands) && decide (meth.sig.returnType = rt) && !meth.locks && decide (parseMethodDescriptor y.desc = some meth.sig)) = true) : (Jvm.Cond.code y bytes mx rt).before a s = true := by
  simp only [Bool.and_eq_true, beq_iff_eq, Bool.not_eq_true', decide_eq_true_eq] at h5
  obtain ⟨⟨⟨⟨⟨g1, g2⟩, g3⟩, g4⟩, g5⟩, g6⟩ := h5
  simp [Cond.before, Cond.holds, Cond.value, h1, h2, h3, h4, g1, g2, g3, g4, g5, g6]
def isCode : Jvm.Cond → Bool
  | .code _ _ _ _ => true
  | _ => false
theorem all_split {L : List Jvm.Cond} {P : Jvm.Cond → Bool} (h1 : L.all (fun c => isCode c || P c) = true) (h2 : ∀ c ∈ L.filter isCode, P c = true) : L.all P = true := by
  refine List.all_eq_true.mpr fun c hc => ?_
  have h := List.all_eq_true.mp h1 c hc
  rcases Bool.eq_false_or_eq_true (isCode c) with hi | hi
  · exact h2 c (List.mem_filter.mpr ⟨hc, hi⟩)
  · simpa [hi] using h
set_option maxRecDepth 65536 in
theorem w_c0 : (Jvm.Cond.code x code maxLocals ret).before args0 about1 = true := code_word (m := ⟨1, 1⟩) (meth := k1m1) (c := k1c1) (by decide +kernel) rfl rfl rfl (by decide +kernel)
set_option maxRecDepth 65536 in
theorem w_c1 : (Jvm.Cond.code ({ cls := "com/example/sunder/sunder/TokenIsPinLaw", name := "kindOf", desc := "(I)Lcom/example/sunder/sunder/SqlTokens$Kind;" } : Jvm.MethodName) method_3_code (1 : Nat) (Option.some (Jvm.ClassFile.FieldType.object "com/example/sunder/sunder/SqlTokens$Kind"))).before args0 about1 = true := code_word (m := ⟨1, 2⟩) (meth := k1m2) (c := k1c2) (by decide +kernel) rfl rfl rfl (by decide +kernel)
set_option maxRecDepth 65536 in
theorem w_c2 : (Jvm.Cond.code ({ cls := "java/lang/Math", name := "min", desc := "(II)I" } : Jvm.MethodName) jdk_29_method_69_code (2 : Nat) (Option.some Jvm.ClassFile.FieldType.int)).before args0 about1 = true := code_word (m := ⟨7, 1⟩) (meth := k7m1) (c := k7c1) (by decide +kernel) rfl rfl rfl (by decide +kernel)
set_option maxRecDepth 65536 in
theorem w_c3 : (Jvm.Cond.code ({ cls := "com/example/sunder/sunder/TokenIsPinLaw", name := "derive", desc := "(ICC)C" } : Jvm.MethodName) method_4_code (3 : Nat) (Option.some Jvm.ClassFile.FieldType.char)).before args0 about1 = true := code_word (m := ⟨1, 3⟩) (meth := k1m3) (c := k1c3) (by decide +kernel) rfl rfl rfl (by decide +kernel)
set_option maxRecDepth 65536 in
theorem w_c4 : (Jvm.Cond.code ({ cls := "com/example/sunder/sunder/TokenIsPinLaw", name := "make", desc := "(ICC)Ljava/lang/String;" } : Jvm.MethodName) method_5_code (3 : Nat) (Option.some (Jvm.ClassFile.FieldType.object "java/lang/String"))).before args0 about1 = true := code_word (m := ⟨1, 4⟩) (meth := k1m4) (c := k1c4) (by decide +kernel) rfl rfl rfl (by decide +kernel)
set_option maxRecDepth 65536 in
theorem w_c5 : (Jvm.Cond.code ({ cls := "java/lang/String", name := "<init>", desc := "([C)V" } : Jvm.MethodName) jdk_42_method_3_code (2 : Nat) (Option.none : Option Jvm.ClassFile.FieldType)).before args0 about1 = true := code_word (m := ⟨10, 1⟩) (meth := k10m1) (c := k10c1) (by decide +kernel) rfl rfl rfl (by decide +kernel)
set_option maxRecDepth 65536 in
theorem w_c6 : (Jvm.Cond.code ({ cls := "java/lang/String", name := "<init>", desc := "([CIILjava/lang/Void;)V" } : Jvm.MethodName) jdk_42_method_149_code (6 : Nat) (Option.none : Option Jvm.ClassFile.FieldType)).before args0 about1 = true := code_word (m := ⟨10, 7⟩) (meth := k10m7) (c := k10c7) (by decide +kernel) rfl rfl rfl (by decide +kernel)
set_option maxRecDepth 65536 in
theorem w_c7 : (Jvm.Cond.code ({ cls := "java/lang/Object", name := "<init>", desc := "()V" } : Jvm.MethodName) object_method_1_code (1 : Nat) (Option.none : Option Jvm.ClassFile.FieldType)).before args0 about1 = true := code_word (m := ⟨0, 0⟩) (meth := k0m0) (c := k0c0) (by decide +kernel) rfl rfl rfl (by decide +kernel)
set_option maxRecDepth 65536 in
theorem w_c8 : (Jvm.Cond.code ({ cls := "com/example/sunder/sunder/SqlTokens$Token", name := "<init>", desc := "(Lcom/example/sunder/sunder/SqlTokens$Kind;Ljava/lang/String;I)V" } : Jvm.MethodName) prog_18_method_1_code (4 : Nat) (Option.none : Option Jvm.ClassFile.FieldType)).before args0 about1 = true := code_word (m := ⟨12, 0⟩) (meth := k12m0) (c := k12c0) (by decide +kernel) rfl rfl rfl (by decide +kernel)
set_option maxRecDepth 65536 in
theorem w_c9 : (Jvm.Cond.code ({ cls := "java/lang/Record", name := "<init>", desc := "()V" } : Jvm.MethodName) jdk_30_method_1_code (1 : Nat) (Option.none : Option Jvm.ClassFile.FieldType)).before args0 about1 = true := code_word (m := ⟨11, 0⟩) (meth := k11m0) (c := k11c0) (by decide +kernel) rfl rfl rfl (by decide +kernel)
set_option maxRecDepth 65536 in
theorem w_c10 : (Jvm.Cond.code ({ cls := "com/example/sunder/sunder/SqlTokens$Token", name := "is", desc := "(Ljava/lang/String;)Z" } : Jvm.MethodName) prog_18_method_2_code (2 : Nat) (Option.some Jvm.ClassFile.FieldType.boolean)).before args0 about1 = true := code_word (m := ⟨12, 1⟩) (meth := k12m1) (c := k12c1) (by decide +kernel) rfl rfl rfl (by decide +kernel)
set_option maxRecDepth 65536 in
theorem w_c11 : (Jvm.Cond.code ({ cls := "com/example/sunder/sunder/SqlTokens", name := "fold", desc := "(Ljava/lang/String;)Ljava/lang/String;" } : Jvm.MethodName) prog_16_method_2_code (4 : Nat) (Option.some (Jvm.ClassFile.FieldType.object "java/lang/String"))).before args0 about1 = true := code_word (m := ⟨13, 0⟩) (meth := k13m0) (c := k13c0) (by decide +kernel) rfl rfl rfl (by decide +kernel)
set_option maxRecDepth 65536 in
theorem w_c12 : (Jvm.Cond.code ({ cls := "java/lang/String", name := "length", desc := "()I" } : Jvm.MethodName) jdk_42_method_54_code (1 : Nat) (Option.some Jvm.ClassFile.FieldType.int)).before args0 about1 = true := code_word (m := ⟨10, 3⟩) (meth := k10m3) (c := k10c3) (by decide +kernel) rfl rfl rfl (by decide +kernel)
set_option maxRecDepth 65536 in
theorem w_c13 : (Jvm.Cond.code ({ cls := "java/lang/String", name := "coder", desc := "()B" } : Jvm.MethodName) jdk_42_method_152_code (1 : Nat) (Option.some Jvm.ClassFile.FieldType.byte)).before args0 about1 = true := code_word (m := ⟨10, 10⟩) (meth := k10m10) (c := k10c10) (by decide +kernel) rfl rfl rfl (by decide +kernel)
set_option maxRecDepth 65536 in
theorem w_c14 : (Jvm.Cond.code ({ cls := "java/lang/StringBuilder", name := "<init>", desc := "(I)V" } : Jvm.MethodName) jdk_67_method_2_code (2 : Nat) (Option.none : Option Jvm.ClassFile.FieldType)).before args0 about1 = true := code_word (m := ⟨16, 1⟩) (meth := k16m1) (c := k16c1) (by decide +kernel) rfl rfl rfl (by decide +kernel)
set_option maxRecDepth 65536 in
theorem w_c15 : (Jvm.Cond.code ({ cls := "java/lang/AbstractStringBuilder", name := "<init>", desc := "(I)V" } : Jvm.MethodName) jdk_68_method_2_code (2 : Nat) (Option.none : Option Jvm.ClassFile.FieldType)).before args0 about1 = true := code_word (m := ⟨15, 1⟩) (meth := k15m1) (c := k15c1) (by decide +kernel) rfl rfl rfl (by decide +kernel)
set_option maxRecDepth 65536 in
theorem w_c16 : (Jvm.Cond.code ({ cls := "java/lang/StringBuilder", name := "toString", desc := "()Ljava/lang/String;" } : Jvm.MethodName) jdk_67_method_42_code (1 : Nat) (Option.some (Jvm.ClassFile.FieldType.object "java/lang/String"))).before args0 about1 = true := code_word (m := ⟨16, 3⟩) (meth := k16m3) (c := k16c3) (by decide +kernel) rfl rfl rfl (by decide +kernel)
set_option maxRecDepth 65536 in
theorem w_c17 : (Jvm.Cond.code ({ cls := "java/lang/String", name := "<init>", desc := "(Ljava/lang/StringBuilder;)V" } : Jvm.MethodName) jdk_42_method_53_code (2 : Nat) (Option.none : Option Jvm.ClassFile.FieldType)).before args0 about1 = true := code_word (m := ⟨10, 2⟩) (meth := k10m2) (c := k10c2) (by decide +kernel) rfl rfl rfl (by decide +kernel)
set_option maxRecDepth 65536 in
theorem w_c18 : (Jvm.Cond.code ({ cls := "java/lang/String", name := "<init>", desc := "(Ljava/lang/AbstractStringBuilder;Ljava/lang/Void;)V" } : Jvm.MethodName) jdk_42_method_150_code (5 : Nat) (Option.none : Option Jvm.ClassFile.FieldType)).before args0 about1 = true := code_word (m := ⟨10, 8⟩) (meth := k10m8) (c := k10c8) (by decide +kernel) rfl rfl rfl (by decide +kernel)
set_option maxRecDepth 65536 in
theorem w_c19 : (Jvm.Cond.code ({ cls := "java/lang/AbstractStringBuilder", name := "getValue", desc := "()[B" } : Jvm.MethodName) jdk_68_method_64_code (1 : Nat) (Option.some (Jvm.ClassFile.FieldType.array Jvm.ClassFile.FieldType.byte))).before args0 about1 = true := code_word (m := ⟨15, 6⟩) (meth := k15m6) (c := k15c6) (by decide +kernel) rfl rfl rfl (by decide +kernel)
set_option maxRecDepth 65536 in
theorem w_c20 : (Jvm.Cond.code ({ cls := "java/lang/StringBuilder", name := "length", desc := "()I" } : Jvm.MethodName) jdk_67_method_93_code (1 : Nat) (Option.some Jvm.ClassFile.FieldType.int)).before args0 about1 = true := code_word (m := ⟨16, 4⟩) (meth := k16m4) (c := k16c4) (by decide +kernel) rfl rfl rfl (by decide +kernel)
set_option maxRecDepth 65536 in
theorem w_c21 : (Jvm.Cond.code ({ cls := "java/lang/AbstractStringBuilder", name := "length", desc := "()I" } : Jvm.MethodName) jdk_68_method_6_code (1 : Nat) (Option.some Jvm.ClassFile.FieldType.int)).before args0 about1 = true := code_word (m := ⟨15, 2⟩) (meth := k15m2) (c := k15c2) (by decide +kernel) rfl rfl rfl (by decide +kernel)
set_option maxRecDepth 65536 in
theorem w_c22 : (Jvm.Cond.code ({ cls := "java/lang/AbstractStringBuilder", name := "isLatin1", desc := "()Z" } : Jvm.MethodName) jdk_68_method_68_code (1 : Nat) (Option.some Jvm.ClassFile.FieldType.boolean)).before args0 about1 = true := code_word (m := ⟨15, 7⟩) (meth := k15m7) (c := k15c7) (by decide +kernel) rfl rfl rfl (by decide +kernel)
set_option maxRecDepth 65536 in
theorem w_c23 : (Jvm.Cond.code ({ cls := "java/util/Arrays", name := "copyOfRange", desc := "([BII)[B" } : Jvm.MethodName) jdk_65_method_132_code (3 : Nat) (Option.some (Jvm.ClassFile.FieldType.array Jvm.ClassFile.FieldType.byte))).before args0 about1 = true := code_word (m := ⟨17, 1⟩) (meth := k17m1) (c := k17c1) (by decide +kernel) rfl rfl rfl (by decide +kernel)
set_option maxRecDepth 65536 in
theorem w_c24 : (Jvm.Cond.code ({ cls := "java/lang/String", name := "equals", desc := "(Ljava/lang/Object;)Z" } : Jvm.MethodName) jdk_42_method_66_code (3 : Nat) (Option.some Jvm.ClassFile.FieldType.boolean)).before args0 about1 = true := code_word (m := ⟨10, 5⟩) (meth := k10m5) (c := k10c5) (by decide +kernel) rfl rfl rfl (by decide +kernel)
set_option maxRecDepth 65536 in
theorem w_c25 : (Jvm.Cond.code ({ cls := "java/lang/StringLatin1", name := "equals", desc := "([B[B)Z" } : Jvm.MethodName) jdk_43_method_13_code (3 : Nat) (Option.some Jvm.ClassFile.FieldType.boolean)).before args0 about1 = true := code_word (m := ⟨19, 3⟩) (meth := k19m3) (c := k19c3) (by decide +kernel) rfl rfl rfl (by decide +kernel)
set_option maxRecDepth 65536 in
theorem w_c26 : (Jvm.Cond.code ({ cls := "java/lang/String", name := "valueOf", desc := "(C)Ljava/lang/String;" } : Jvm.MethodName) jdk_42_method_139_code (1 : Nat) (Option.some (Jvm.ClassFile.FieldType.object "java/lang/String"))).before args0 about1 = true := code_word (m := ⟨10, 6⟩) (meth := k10m6) (c := k10c6) (by decide +kernel) rfl rfl rfl (by decide +kernel)
set_option maxRecDepth 65536 in
theorem w_c27 : (Jvm.Cond.code ({ cls := "java/lang/StringLatin1", name := "canEncode", desc := "(C)Z" } : Jvm.MethodName) jdk_43_method_3_code (1 : Nat) (Option.some Jvm.ClassFile.FieldType.boolean)).before args0 about1 = true := code_word (m := ⟨19, 2⟩) (meth := k19m2) (c := k19c2) (by decide +kernel) rfl rfl rfl (by decide +kernel)
set_option maxRecDepth 65536 in
theorem w_c28 : (Jvm.Cond.code ({ cls := "java/lang/StringLatin1", name := "toBytes", desc := "(C)[B" } : Jvm.MethodName) jdk_43_method_46_code (1 : Nat) (Option.some (Jvm.ClassFile.FieldType.array Jvm.ClassFile.FieldType.byte))).before args0 about1 = true := code_word (m := ⟨19, 4⟩) (meth := k19m4) (c := k19c4) (by decide +kernel) rfl rfl rfl (by decide +kernel)
set_option maxRecDepth 65536 in
theorem w_c29 : (Jvm.Cond.code ({ cls := "java/lang/String", name := "<init>", desc := "([BB)V" } : Jvm.MethodName) jdk_42_method_151_code (3 : Nat) (Option.none : Option Jvm.ClassFile.FieldType)).before args0 about1 = true := code_word (m := ⟨10, 9⟩) (meth := k10m9) (c := k10c9) (by decide +kernel) rfl rfl rfl (by decide +kernel)
set_option maxRecDepth 65536 in
theorem w_c30 : (Jvm.Cond.code ({ cls := "java/lang/String", name := "charAt", desc := "(I)C" } : Jvm.MethodName) jdk_42_method_56_code (2 : Nat) (Option.some Jvm.ClassFile.FieldType.char)).before args0 about1 = true := code_word (m := ⟨10, 4⟩) (meth := k10m4) (c := k10c4) (by decide +kernel) rfl rfl rfl (by decide +kernel)
set_option maxRecDepth 65536 in
theorem w_c31 : (Jvm.Cond.code ({ cls := "java/lang/String", name := "isLatin1", desc := "()Z" } : Jvm.MethodName) jdk_42_method_154_code (1 : Nat) (Option.some Jvm.ClassFile.FieldType.boolean)).before args0 about1 = true := code_word (m := ⟨10, 11⟩) (meth := k10m11) (c := k10c11) (by decide +kernel) rfl rfl rfl (by decide +kernel)
set_option maxRecDepth 65536 in
theorem w_c32 : (Jvm.Cond.code ({ cls := "java/lang/StringLatin1", name := "charAt", desc := "([BI)C" } : Jvm.MethodName) jdk_43_method_2_code (2 : Nat) (Option.some Jvm.ClassFile.FieldType.char)).before args0 about1 = true := code_word (m := ⟨19, 1⟩) (meth := k19m1) (c := k19c1) (by decide +kernel) rfl rfl rfl (by decide +kernel)
set_option maxRecDepth 65536 in
theorem w_c33 : (Jvm.Cond.code ({ cls := "java/lang/String", name := "checkIndex", desc := "(II)V" } : Jvm.MethodName) jdk_42_method_155_code (2 : Nat) (Option.none : Option Jvm.ClassFile.FieldType)).before args0 about1 = true := code_word (m := ⟨10, 12⟩) (meth := k10m12) (c := k10c12) (by decide +kernel) rfl rfl rfl (by decide +kernel)
set_option maxRecDepth 65536 in
theorem w_c34 : (Jvm.Cond.code ({ cls := "jdk/internal/util/Preconditions", name := "checkIndex", desc := "(IILjava/util/function/BiFunction;)I" } : Jvm.MethodName) jdk_41_method_11_code (3 : Nat) (Option.some Jvm.ClassFile.FieldType.int)).before args0 about1 = true := code_word (m := ⟨20, 1⟩) (meth := k20m1) (c := k20c1) (by decide +kernel) rfl rfl rfl (by decide +kernel)
set_option maxRecDepth 65536 in
theorem w_c35 : (Jvm.Cond.code ({ cls := "java/lang/StringBuilder", name := "append", desc := "(C)Ljava/lang/StringBuilder;" } : Jvm.MethodName) jdk_67_method_14_code (2 : Nat) (Option.some (Jvm.ClassFile.FieldType.object "java/lang/StringBuilder"))).before args0 about1 = true := code_word (m := ⟨16, 2⟩) (meth := k16m2) (c := k16c2) (by decide +kernel) rfl rfl rfl (by decide +kernel)
set_option maxRecDepth 65536 in
theorem w_c36 : (Jvm.Cond.code ({ cls := "java/lang/AbstractStringBuilder", name := "append", desc := "(C)Ljava/lang/AbstractStringBuilder;" } : Jvm.MethodName) jdk_68_method_31_code (2 : Nat) (Option.some (Jvm.ClassFile.FieldType.object "java/lang/AbstractStringBuilder"))).before args0 about1 = true := code_word (m := ⟨15, 5⟩) (meth := k15m5) (c := k15c5) (by decide +kernel) rfl rfl rfl (by decide +kernel)
set_option maxRecDepth 65536 in
theorem w_c37 : (Jvm.Cond.code ({ cls := "java/lang/AbstractStringBuilder", name := "ensureCapacityInternal", desc := "(I)V" } : Jvm.MethodName) jdk_68_method_9_code (3 : Nat) (Option.none : Option Jvm.ClassFile.FieldType)).before args0 about1 = true := code_word (m := ⟨15, 3⟩) (meth := k15m3) (c := k15c3) (by decide +kernel) rfl rfl rfl (by decide +kernel)
set_option maxRecDepth 65536 in
theorem w_c38 : (Jvm.Cond.code ({ cls := "com/example/sunder/sunder/TokenIsPinLaw", name := "lower", desc := "(C)I" } : Jvm.MethodName) method_6_code (1 : Nat) (Option.some Jvm.ClassFile.FieldType.int)).before args0 about1 = true := code_word (m := ⟨1, 5⟩) (meth := k1m5) (c := k1c5) (by decide +kernel) rfl rfl rfl (by decide +kernel)
set_option maxRecDepth 65536 in
theorem w_c39 : (Jvm.Cond.code ({ cls := "java/lang/StringUTF16", name := "compress", desc := "([CII)[B" } : Jvm.MethodName) jdk_52_method_16_code (6 : Nat) (Option.some (Jvm.ClassFile.FieldType.array Jvm.ClassFile.FieldType.byte))).before args0 about1 = true := code_word (m := ⟨21, 8⟩) (meth := k21m8) (c := k21c8) (by decide +kernel) rfl rfl rfl (by decide +kernel)
set_option maxRecDepth 65536 in
theorem w_c40 : (Jvm.Cond.code ({ cls := "java/lang/StringUTF16", name := "compress", desc := "([CI[BII)I" } : Jvm.MethodName) jdk_52_method_21_code (7 : Nat) (Option.some Jvm.ClassFile.FieldType.int)).before args0 about1 = true := code_word (m := ⟨21, 9⟩) (meth := k21m9) (c := k21c9) (by decide +kernel) rfl rfl rfl (by decide +kernel)
set_option maxRecDepth 65536 in
theorem w_c41 : (Jvm.Cond.code ({ cls := "java/lang/StringUTF16", name := "toBytes", desc := "([CII)[B" } : Jvm.MethodName) jdk_52_method_14_code (5 : Nat) (Option.some (Jvm.ClassFile.FieldType.array Jvm.ClassFile.FieldType.byte))).before args0 about1 = true := code_word (m := ⟨21, 6⟩) (meth := k21m6) (c := k21c6) (by decide +kernel) rfl rfl rfl (by decide +kernel)
set_option maxRecDepth 65536 in
theorem w_c42 : (Jvm.Cond.code ({ cls := "java/lang/StringUTF16", name := "newBytesFor", desc := "(I)[B" } : Jvm.MethodName) jdk_52_method_2_code (1 : Nat) (Option.some (Jvm.ClassFile.FieldType.array Jvm.ClassFile.FieldType.byte))).before args0 about1 = true := code_word (m := ⟨21, 1⟩) (meth := k21m1) (c := k21c1) (by decide +kernel) rfl rfl rfl (by decide +kernel)
set_option maxRecDepth 65536 in
theorem w_c43 : (Jvm.Cond.code ({ cls := "java/lang/StringUTF16", name := "newBytesLength", desc := "(I)I" } : Jvm.MethodName) jdk_52_method_3_code (1 : Nat) (Option.some Jvm.ClassFile.FieldType.int)).before args0 about1 = true := code_word (m := ⟨21, 2⟩) (meth := k21m2) (c := k21c2) (by decide +kernel) rfl rfl rfl (by decide +kernel)
set_option maxRecDepth 65536 in
theorem w_c44 : (Jvm.Cond.code ({ cls := "java/lang/StringUTF16", name := "putChar", desc := "([BII)V" } : Jvm.MethodName) jdk_52_method_4_code (3 : Nat) (Option.none : Option Jvm.ClassFile.FieldType)).before args0 about1 = true := code_word (m := ⟨21, 3⟩) (meth := k21m3) (c := k21c3) (by decide +kernel) rfl rfl rfl (by decide +kernel)
set_option maxRecDepth 65536 in
theorem w_c45 : (Jvm.Cond.code ({ cls := "java/lang/StringUTF16", name := "getChar", desc := "([BI)C" } : Jvm.MethodName) jdk_52_method_5_code (2 : Nat) (Option.some Jvm.ClassFile.FieldType.char)).before args0 about1 = true := code_word (m := ⟨21, 4⟩) (meth := k21m4) (c := k21c4) (by decide +kernel) rfl rfl rfl (by decide +kernel)
set_option maxRecDepth 65536 in
theorem w_c46 : (Jvm.Cond.code ({ cls := "java/lang/StringUTF16", name := "coderFromArrayLen", desc := "([BI)B" } : Jvm.MethodName) jdk_52_method_15_code (2 : Nat) (Option.some Jvm.ClassFile.FieldType.byte)).before args0 about1 = true := code_word (m := ⟨21, 7⟩) (meth := k21m7) (c := k21c7) (by decide +kernel) rfl rfl rfl (by decide +kernel)
set_option maxRecDepth 65536 in
theorem w_c47 : (Jvm.Cond.code ({ cls := "java/lang/StringUTF16", name := "charAt", desc := "([BI)C" } : Jvm.MethodName) jdk_52_method_83_code (2 : Nat) (Option.some Jvm.ClassFile.FieldType.char)).before args0 about1 = true := code_word (m := ⟨21, 12⟩) (meth := k21m12) (c := k21c12) (by decide +kernel) rfl rfl rfl (by decide +kernel)
set_option maxRecDepth 65536 in
theorem w_c48 : (Jvm.Cond.code ({ cls := "java/lang/StringUTF16", name := "checkIndex", desc := "(I[B)V" } : Jvm.MethodName) jdk_52_method_91_code (2 : Nat) (Option.none : Option Jvm.ClassFile.FieldType)).before args0 about1 = true := code_word (m := ⟨21, 14⟩) (meth := k21m14) (c := k21c14) (by decide +kernel) rfl rfl rfl (by decide +kernel)
set_option maxRecDepth 65536 in
theorem w_c49 : (Jvm.Cond.code ({ cls := "java/lang/StringUTF16", name := "length", desc := "([B)I" } : Jvm.MethodName) jdk_52_method_6_code (1 : Nat) (Option.some Jvm.ClassFile.FieldType.int)).before args0 about1 = true := code_word (m := ⟨21, 5⟩) (meth := k21m5) (c := k21c5) (by decide +kernel) rfl rfl rfl (by decide +kernel)
set_option maxRecDepth 65536 in
theorem w_c50 : (Jvm.Cond.code ({ cls := "java/lang/AbstractStringBuilder", name := "inflate", desc := "()V" } : Jvm.MethodName) jdk_68_method_11_code (2 : Nat) (Option.none : Option Jvm.ClassFile.FieldType)).before args0 about1 = true := code_word (m := ⟨15, 4⟩) (meth := k15m4) (c := k15c4) (by decide +kernel) rfl rfl rfl (by decide +kernel)
set_option maxRecDepth 65536 in
theorem w_c51 : (Jvm.Cond.code ({ cls := "java/lang/StringLatin1", name := "inflate", desc := "([BI[BII)V" } : Jvm.MethodName) jdk_43_method_50_code (5 : Nat) (Option.none : Option Jvm.ClassFile.FieldType)).before args0 about1 = true := code_word (m := ⟨19, 5⟩) (meth := k19m5) (c := k19c5) (by decide +kernel) rfl rfl rfl (by decide +kernel)
set_option maxRecDepth 65536 in
theorem w_c52 : (Jvm.Cond.code ({ cls := "java/lang/StringUTF16", name := "inflate", desc := "([BI[BII)V" } : Jvm.MethodName) jdk_52_method_86_code (6 : Nat) (Option.none : Option Jvm.ClassFile.FieldType)).before args0 about1 = true := code_word (m := ⟨21, 13⟩) (meth := k21m13) (c := k21c13) (by decide +kernel) rfl rfl rfl (by decide +kernel)
set_option maxRecDepth 65536 in
theorem w_c53 : (Jvm.Cond.code ({ cls := "java/lang/StringUTF16", name := "checkBoundsOffCount", desc := "(II[B)V" } : Jvm.MethodName) jdk_52_method_94_code (3 : Nat) (Option.none : Option Jvm.ClassFile.FieldType)).before args0 about1 = true := code_word (m := ⟨21, 15⟩) (meth := k21m15) (c := k21c15) (by decide +kernel) rfl rfl rfl (by decide +kernel)
set_option maxRecDepth 65536 in
theorem w_c54 : (Jvm.Cond.code ({ cls := "java/lang/String", name := "checkBoundsOffCount", desc := "(III)I" } : Jvm.MethodName) jdk_42_method_157_code (3 : Nat) (Option.some Jvm.ClassFile.FieldType.int)).before args0 about1 = true := code_word (m := ⟨10, 13⟩) (meth := k10m13) (c := k10c13) (by decide +kernel) rfl rfl rfl (by decide +kernel)
set_option maxRecDepth 65536 in
theorem w_c55 : (Jvm.Cond.code ({ cls := "jdk/internal/util/Preconditions", name := "checkFromIndexSize", desc := "(IIILjava/util/function/BiFunction;)I" } : Jvm.MethodName) jdk_41_method_13_code (4 : Nat) (Option.some Jvm.ClassFile.FieldType.int)).before args0 about1 = true := code_word (m := ⟨20, 2⟩) (meth := k20m2) (c := k20c2) (by decide +kernel) rfl rfl rfl (by decide +kernel)
set_option maxRecDepth 65536 in
theorem w_c56 : (Jvm.Cond.code ({ cls := "java/lang/StringUTF16", name := "putCharSB", desc := "([BII)V" } : Jvm.MethodName) jdk_52_method_71_code (3 : Nat) (Option.none : Option Jvm.ClassFile.FieldType)).before args0 about1 = true := code_word (m := ⟨21, 11⟩) (meth := k21m11) (c := k21c11) (by decide +kernel) rfl rfl rfl (by decide +kernel)
set_option maxRecDepth 65536 in
theorem w_c57 : (Jvm.Cond.code ({ cls := "java/lang/StringUTF16", name := "toBytes", desc := "(C)[B" } : Jvm.MethodName) jdk_52_method_24_code (2 : Nat) (Option.some (Jvm.ClassFile.FieldType.array Jvm.ClassFile.FieldType.byte))).before args0 about1 = true := code_word (m := ⟨21, 10⟩) (meth := k21m10) (c := k21c10) (by decide +kernel) rfl rfl rfl (by decide +kernel)
def codes1 : List Jvm.Cond := [Jvm.Cond.code x code maxLocals ret, Jvm.Cond.code ({ cls := "com/example/sunder/sunder/TokenIsPinLaw", name := "kindOf", desc := "(I)Lcom/example/sunder/sunder/SqlTokens$Kind;" } : Jvm.MethodName) method_3_code (1 : Nat) (Option.some (Jvm.ClassFile.FieldType.object "com/example/sunder/sunder/SqlTokens$Kind")), Jvm.Cond.code ({ cls := "java/lang/Math", name := "min", desc := "(II)I" } : Jvm.MethodName) jdk_29_method_69_code (2 : Nat) (Option.some Jvm.ClassFile.FieldType.int), Jvm.Cond.code ({ cls := "com/example/sunder/sunder/TokenIsPinLaw", name := "derive", desc := "(ICC)C" } : Jvm.MethodName) method_4_code (3 : Nat) (Option.some Jvm.ClassFile.FieldType.char), Jvm.Cond.code ({ cls := "com/example/sunder/sunder/TokenIsPinLaw", name := "make", desc := "(ICC)Ljava/lang/String;" } : Jvm.MethodName) method_5_code (3 : Nat) (Option.some (Jvm.ClassFile.FieldType.object "java/lang/String")), Jvm.Cond.code ({ cls := "java/lang/String", name := "<init>", desc := "([C)V" } : Jvm.MethodName) jdk_42_method_3_code (2 : Nat) (Option.none : Option Jvm.ClassFile.FieldType), Jvm.Cond.code ({ cls := "java/lang/String", name := "<init>", desc := "([CIILjava/lang/Void;)V" } : Jvm.MethodName) jdk_42_method_149_code (6 : Nat) (Option.none : Option Jvm.ClassFile.FieldType), Jvm.Cond.code ({ cls := "java/lang/Object", name := "<init>", desc := "()V" } : Jvm.MethodName) object_method_1_code (1 : Nat) (Option.none : Option Jvm.ClassFile.FieldType), Jvm.Cond.code ({ cls := "com/example/sunder/sunder/SqlTokens$Token", name := "<init>", desc := "(Lcom/example/sunder/sunder/SqlTokens$Kind;Ljava/lang/String;I)V" } : Jvm.MethodName) prog_18_method_1_code (4 : Nat) (Option.none : Option Jvm.ClassFile.FieldType), Jvm.Cond.code ({ cls := "java/lang/Record", name := "<init>", desc := "()V" } : Jvm.MethodName) jdk_30_method_1_code (1 : Nat) (Option.none : Option Jvm.ClassFile.FieldType), Jvm.Cond.code ({ cls := "com/example/sunder/sunder/SqlTokens$Token", name := "is", desc := "(Ljava/lang/String;)Z" } : Jvm.MethodName) prog_18_method_2_code (2 : Nat) (Option.some Jvm.ClassFile.FieldType.boolean), Jvm.Cond.code ({ cls := "com/example/sunder/sunder/SqlTokens", name := "fold", desc := "(Ljava/lang/String;)Ljava/lang/String;" } : Jvm.MethodName) prog_16_method_2_code (4 : Nat) (Option.some (Jvm.ClassFile.FieldType.object "java/lang/String")), Jvm.Cond.code ({ cls := "java/lang/String", name := "length", desc := "()I" } : Jvm.MethodName) jdk_42_method_54_code (1 : Nat) (Option.some Jvm.ClassFile.FieldType.int), Jvm.Cond.code ({ cls := "java/lang/String", name := "coder", desc := "()B" } : Jvm.MethodName) jdk_42_method_152_code (1 : Nat) (Option.some Jvm.ClassFile.FieldType.byte), Jvm.Cond.code ({ cls := "java/lang/StringBuilder", name := "<init>", desc := "(I)V" } : Jvm.MethodName) jdk_67_method_2_code (2 : Nat) (Option.none : Option Jvm.ClassFile.FieldType), Jvm.Cond.code ({ cls := "java/lang/AbstractStringBuilder", name := "<init>", desc := "(I)V" } : Jvm.MethodName) jdk_68_method_2_code (2 : Nat) (Option.none : Option Jvm.ClassFile.FieldType), Jvm.Cond.code ({ cls := "java/lang/StringBuilder", name := "toString", desc := "()Ljava/lang/String;" } : Jvm.MethodName) jdk_67_method_42_code (1 : Nat) (Option.some (Jvm.ClassFile.FieldType.object "java/lang/String")), Jvm.Cond.code ({ cls := "java/lang/String", name := "<init>", desc := "(Ljava/lang/StringBuilder;)V" } : Jvm.MethodName) jdk_42_method_53_code (2 : Nat) (Option.none : Option Jvm.ClassFile.FieldType), Jvm.Cond.code ({ cls := "java/lang/String", name := "<init>", desc := "(Ljava/lang/AbstractStringBuilder;Ljava/lang/Void;)V" } : Jvm.MethodName) jdk_42_method_150_code (5 : Nat) (Option.none : Option Jvm.ClassFile.FieldType), Jvm.Cond.code ({ cls := "java/lang/AbstractStringBuilder", name := "getValue", desc := "()[B" } : Jvm.MethodName) jdk_68_method_64_code (1 : Nat) (Option.some (Jvm.ClassFile.FieldType.array Jvm.ClassFile.FieldType.byte)), Jvm.Cond.code ({ cls := "java/lang/StringBuilder", name := "length", desc := "()I" } : Jvm.MethodName) jdk_67_method_93_code (1 : Nat) (Option.some Jvm.ClassFile.FieldType.int), Jvm.Cond.code ({ cls := "java/lang/AbstractStringBuilder", name := "length", desc := "()I" } : Jvm.MethodName) jdk_68_method_6_code (1 : Nat) (Option.some Jvm.ClassFile.FieldType.int), Jvm.Cond.code ({ cls := "java/lang/AbstractStringBuilder", name := "isLatin1", desc := "()Z" } : Jvm.MethodName) jdk_68_method_68_code (1 : Nat) (Option.some Jvm.ClassFile.FieldType.boolean), Jvm.Cond.code ({ cls := "java/util/Arrays", name := "copyOfRange", desc := "([BII)[B" } : Jvm.MethodName) jdk_65_method_132_code (3 : Nat) (Option.some (Jvm.ClassFile.FieldType.array Jvm.ClassFile.FieldType.byte)), Jvm.Cond.code ({ cls := "java/lang/String", name := "equals", desc := "(Ljava/lang/Object;)Z" } : Jvm.MethodName) jdk_42_method_66_code (3 : Nat) (Option.some Jvm.ClassFile.FieldType.boolean), Jvm.Cond.code ({ cls := "java/lang/StringLatin1", name := "equals", desc := "([B[B)Z" } : Jvm.MethodName) jdk_43_method_13_code (3 : Nat) (Option.some Jvm.ClassFile.FieldType.boolean), Jvm.Cond.code ({ cls := "java/lang/String", name := "valueOf", desc := "(C)Ljava/lang/String;" } : Jvm.MethodName) jdk_42_method_139_code (1 : Nat) (Option.some (Jvm.ClassFile.FieldType.object "java/lang/String")), Jvm.Cond.code ({ cls := "java/lang/StringLatin1", name := "canEncode", desc := "(C)Z" } : Jvm.MethodName) jdk_43_method_3_code (1 : Nat) (Option.some Jvm.ClassFile.FieldType.boolean), Jvm.Cond.code ({ cls := "java/lang/StringLatin1", name := "toBytes", desc := "(C)[B" } : Jvm.MethodName) jdk_43_method_46_code (1 : Nat) (Option.some (Jvm.ClassFile.FieldType.array Jvm.ClassFile.FieldType.byte)), Jvm.Cond.code ({ cls := "java/lang/String", name := "<init>", desc := "([BB)V" } : Jvm.MethodName) jdk_42_method_151_code (3 : Nat) (Option.none : Option Jvm.ClassFile.FieldType), Jvm.Cond.code ({ cls := "java/lang/String", name := "charAt", desc := "(I)C" } : Jvm.MethodName) jdk_42_method_56_code (2 : Nat) (Option.some Jvm.ClassFile.FieldType.char), Jvm.Cond.code ({ cls := "java/lang/String", name := "isLatin1", desc := "()Z" } : Jvm.MethodName) jdk_42_method_154_code (1 : Nat) (Option.some Jvm.ClassFile.FieldType.boolean), Jvm.Cond.code ({ cls := "java/lang/StringLatin1", name := "charAt", desc := "([BI)C" } : Jvm.MethodName) jdk_43_method_2_code (2 : Nat) (Option.some Jvm.ClassFile.FieldType.char), Jvm.Cond.code ({ cls := "java/lang/String", name := "checkIndex", desc := "(II)V" } : Jvm.MethodName) jdk_42_method_155_code (2 : Nat) (Option.none : Option Jvm.ClassFile.FieldType), Jvm.Cond.code ({ cls := "jdk/internal/util/Preconditions", name := "checkIndex", desc := "(IILjava/util/function/BiFunction;)I" } : Jvm.MethodName) jdk_41_method_11_code (3 : Nat) (Option.some Jvm.ClassFile.FieldType.int), Jvm.Cond.code ({ cls := "java/lang/StringBuilder", name := "append", desc := "(C)Ljava/lang/StringBuilder;" } : Jvm.MethodName) jdk_67_method_14_code (2 : Nat) (Option.some (Jvm.ClassFile.FieldType.object "java/lang/StringBuilder")), Jvm.Cond.code ({ cls := "java/lang/AbstractStringBuilder", name := "append", desc := "(C)Ljava/lang/AbstractStringBuilder;" } : Jvm.MethodName) jdk_68_method_31_code (2 : Nat) (Option.some (Jvm.ClassFile.FieldType.object "java/lang/AbstractStringBuilder")), Jvm.Cond.code ({ cls := "java/lang/AbstractStringBuilder", name := "ensureCapacityInternal", desc := "(I)V" } : Jvm.MethodName) jdk_68_method_9_code (3 : Nat) (Option.none : Option Jvm.ClassFile.FieldType), Jvm.Cond.code ({ cls := "com/example/sunder/sunder/TokenIsPinLaw", name := "lower", desc := "(C)I" } : Jvm.MethodName) method_6_code (1 : Nat) (Option.some Jvm.ClassFile.FieldType.int), Jvm.Cond.code ({ cls := "java/lang/StringUTF16", name := "compress", desc := "([CII)[B" } : Jvm.MethodName) jdk_52_method_16_code (6 : Nat) (Option.some (Jvm.ClassFile.FieldType.array Jvm.ClassFile.FieldType.byte)), Jvm.Cond.code ({ cls := "java/lang/StringUTF16", name := "compress", desc := "([CI[BII)I" } : Jvm.MethodName) jdk_52_method_21_code (7 : Nat) (Option.some Jvm.ClassFile.FieldType.int), Jvm.Cond.code ({ cls := "java/lang/StringUTF16", name := "toBytes", desc := "([CII)[B" } : Jvm.MethodName) jdk_52_method_14_code (5 : Nat) (Option.some (Jvm.ClassFile.FieldType.array Jvm.ClassFile.FieldType.byte)), Jvm.Cond.code ({ cls := "java/lang/StringUTF16", name := "newBytesFor", desc := "(I)[B" } : Jvm.MethodName) jdk_52_method_2_code (1 : Nat) (Option.some (Jvm.ClassFile.FieldType.array Jvm.ClassFile.FieldType.byte)), Jvm.Cond.code ({ cls := "java/lang/StringUTF16", name := "newBytesLength", desc := "(I)I" } : Jvm.MethodName) jdk_52_method_3_code (1 : Nat) (Option.some Jvm.ClassFile.FieldType.int), Jvm.Cond.code ({ cls := "java/lang/StringUTF16", name := "putChar", desc := "([BII)V" } : Jvm.MethodName) jdk_52_method_4_code (3 : Nat) (Option.none : Option Jvm.ClassFile.FieldType), Jvm.Cond.code ({ cls := "java/lang/StringUTF16", name := "getChar", desc := "([BI)C" } : Jvm.MethodName) jdk_52_method_5_code (2 : Nat) (Option.some Jvm.ClassFile.FieldType.char), Jvm.Cond.code ({ cls := "java/lang/StringUTF16", name := "coderFromArrayLen", desc := "([BI)B" } : Jvm.MethodName) jdk_52_method_15_code (2 : Nat) (Option.some Jvm.ClassFile.FieldType.byte), Jvm.Cond.code ({ cls := "java/lang/StringUTF16", name := "charAt", desc := "([BI)C" } : Jvm.MethodName) jdk_52_method_83_code (2 : Nat) (Option.some Jvm.ClassFile.FieldType.char), Jvm.Cond.code ({ cls := "java/lang/StringUTF16", name := "checkIndex", desc := "(I[B)V" } : Jvm.MethodName) jdk_52_method_91_code (2 : Nat) (Option.none : Option Jvm.ClassFile.FieldType), Jvm.Cond.code ({ cls := "java/lang/StringUTF16", name := "length", desc := "([B)I" } : Jvm.MethodName) jdk_52_method_6_code (1 : Nat) (Option.some Jvm.ClassFile.FieldType.int), Jvm.Cond.code ({ cls := "java/lang/AbstractStringBuilder", name := "inflate", desc := "()V" } : Jvm.MethodName) jdk_68_method_11_code (2 : Nat) (Option.none : Option Jvm.ClassFile.FieldType), Jvm.Cond.code ({ cls := "java/lang/StringLatin1", name := "inflate", desc := "([BI[BII)V" } : Jvm.MethodName) jdk_43_method_50_code (5 : Nat) (Option.none : Option Jvm.ClassFile.FieldType), Jvm.Cond.code ({ cls := "java/lang/StringUTF16", name := "inflate", desc := "([BI[BII)V" } : Jvm.MethodName) jdk_52_method_86_code (6 : Nat) (Option.none : Option Jvm.ClassFile.FieldType), Jvm.Cond.code ({ cls := "java/lang/StringUTF16", name := "checkBoundsOffCount", desc := "(II[B)V" } : Jvm.MethodName) jdk_52_method_94_code (3 : Nat) (Option.none : Option Jvm.ClassFile.FieldType), Jvm.Cond.code ({ cls := "java/lang/String", name := "checkBoundsOffCount", desc := "(III)I" } : Jvm.MethodName) jdk_42_method_157_code (3 : Nat) (Option.some Jvm.ClassFile.FieldType.int), Jvm.Cond.code ({ cls := "jdk/internal/util/Preconditions", name := "checkFromIndexSize", desc := "(IIILjava/util/function/BiFunction;)I" } : Jvm.MethodName) jdk_41_method_13_code (4 : Nat) (Option.some Jvm.ClassFile.FieldType.int), Jvm.Cond.code ({ cls := "java/lang/StringUTF16", name := "putCharSB", desc := "([BII)V" } : Jvm.MethodName) jdk_52_method_71_code (3 : Nat) (Option.none : Option Jvm.ClassFile.FieldType), Jvm.Cond.code ({ cls := "java/lang/StringUTF16", name := "toBytes", desc := "(C)[B" } : Jvm.MethodName) jdk_52_method_24_code (2 : Nat) (Option.some (Jvm.ClassFile.FieldType.array Jvm.ClassFile.FieldType.byte))]
set_option maxRecDepth 65536 in
theorem codes_eq : words1.filter isCode = codes1 := rfl
theorem w_codes : ∀ c ∈ words1.filter isCode, c.before args0 about1 = true := by
  rw [codes_eq]
  intro c hc
  simp only [codes1, List.mem_cons, List.not_mem_nil, or_false] at hc
  rcases hc with rfl | rfl | rfl | rfl | rfl | rfl | rfl | rfl | rfl | rfl | rfl | rfl | rfl | rfl | rfl | rfl | rfl | rfl | rfl | rfl | rfl | rfl | rfl | rfl | rfl | rfl | rfl | rfl | rfl | rfl | rfl | rfl | rfl | rfl | rfl | rfl | rfl | rfl | rfl | rfl | rfl | rfl | rfl | rfl | rfl | rfl | rfl | rfl | rfl | rfl | rfl | rfl | rfl | rfl | rfl | rfl | rfl | rfl
  · exact w_c0
  · exact w_c1
  · exact w_c2
  · exact w_c3
  · exact w_c4
  · exact w_c5
  · exact w_c6
  · exact w_c7
  · exact w_c8
  · exact w_c9
  · exact w_c10
  · exact w_c11
  · exact w_c12
  · exact w_c13
  · exact w_c14
  · exact w_c15
  · exact w_c16
  · exact w_c17
  · exact w_c18
  · exact w_c19
  · exact w_c20
  · exact w_c21
  · exact w_c22
  · exact w_c23
  · exact w_c24
  · exact w_c25
  · exact w_c26
  · exact w_c27
  · exact w_c28
  · exact w_c29
  · exact w_c30
  · exact w_c31
  · exact w_c32
  · exact w_c33
  · exact w_c34
  · exact w_c35
  · exact w_c36
  · exact w_c37
  · exact w_c38
  · exact w_c39
  · exact w_c40
  · exact w_c41
  · exact w_c42
  · exact w_c43
  · exact w_c44
  · exact w_c45
  · exact w_c46
  · exact w_c47
  · exact w_c48
  · exact w_c49
  · exact w_c50
  · exact w_c51
  · exact w_c52
  · exact w_c53
  · exact w_c54
  · exact w_c55
  · exact w_c56
  · exact w_c57
set_option maxRecDepth 65536 in
theorem w_t1 : (words1.take 24).all (fun c => isCode c || c.before args0 about1) = true := by decide +kernel
set_option maxRecDepth 65536 in
theorem w_t2 : ((words1.drop 24).take 24).all (fun c => isCode c || c.before args0 about1) = true := by decide +kernel
set_option maxRecDepth 65536 in
theorem w_t3 : (((words1.drop 24).drop 24).take 24).all (fun c => isCode c || c.before args0 about1) = true := by decide +kernel
set_option maxRecDepth 65536 in
theorem w_t4 : ((((words1.drop 24).drop 24).drop 24).take 24).all (fun c => isCode c || c.before args0 about1) = true := by decide +kernel
set_option maxRecDepth 65536 in
theorem w_t5 : (((((words1.drop 24).drop 24).drop 24).drop 24).take 24).all (fun c => isCode c || c.before args0 about1) = true := by decide +kernel
set_option maxRecDepth 65536 in
theorem w_t6 : ((((((words1.drop 24).drop 24).drop 24).drop 24).drop 24).take 24).all (fun c => isCode c || c.before args0 about1) = true := by decide +kernel
set_option maxRecDepth 65536 in
theorem w_t7 : (((((((words1.drop 24).drop 24).drop 24).drop 24).drop 24).drop 24).take 24).all (fun c => isCode c || c.before args0 about1) = true := by decide +kernel
set_option maxRecDepth 65536 in
theorem w_t8 : ((((((((words1.drop 24).drop 24).drop 24).drop 24).drop 24).drop 24).drop 24).take 24).all (fun c => isCode c || c.before args0 about1) = true := by decide +kernel
set_option maxRecDepth 65536 in
theorem w_t9 : (((((((((words1.drop 24).drop 24).drop 24).drop 24).drop 24).drop 24).drop 24).drop 24).take 24).all (fun c => isCode c || c.before args0 about1) = true := by decide +kernel
set_option maxRecDepth 65536 in
theorem w_t10 : ((((((((((words1.drop 24).drop 24).drop 24).drop 24).drop 24).drop 24).drop 24).drop 24).drop 24).take 24).all (fun c => isCode c || c.before args0 about1) = true := by decide +kernel
set_option maxRecDepth 65536 in
theorem w_t11 : (((((((((((words1.drop 24).drop 24).drop 24).drop 24).drop 24).drop 24).drop 24).drop 24).drop 24).drop 24).take 24).all (fun c => isCode c || c.before args0 about1) = true := by decide +kernel
set_option maxRecDepth 65536 in
theorem w_t12 : (((((((((((words1.drop 24).drop 24).drop 24).drop 24).drop 24).drop 24).drop 24).drop 24).drop 24).drop 24).drop 24).all (fun c => isCode c || c.before args0 about1) = true := by decide +kernel
theorem w_tables : (allAtoms (Jvm.Cond.code x code maxLocals ret :: tables_1)).before args0 about1 = true := by
  rw [allAtoms_all]
  show words1.all (fun c => c.before args0 about1) = true
  refine all_split ?_ w_codes
  rw [← List.take_append_drop 24 words1, List.all_append, w_t1, ← List.take_append_drop 24 (words1.drop 24), List.all_append, w_t2, ← List.take_append_drop 24 ((words1.drop 24).drop 24), List.all_append, w_t3, ← List.take_append_drop 24 (((words1.drop 24).drop 24).drop 24), List.all_append, w_t4, ← List.take_append_drop 24 ((((words1.drop 24).drop 24).drop 24).drop 24), List.all_append, w_t5, ← List.take_append_drop 24 (((((words1.drop 24).drop 24).drop 24).drop 24).drop 24), List.all_append, w_t6, ← List.take_append_drop 24 ((((((words1.drop 24).drop 24).drop 24).drop 24).drop 24).drop 24), List.all_append, w_t7, ← List.take_append_drop 24 (((((((words1.drop 24).drop 24).drop 24).drop 24).drop 24).drop 24).drop 24), List.all_append, w_t8, ← List.take_append_drop 24 ((((((((words1.drop 24).drop 24).drop 24).drop 24).drop 24).drop 24).drop 24).drop 24), List.all_append, w_t9, ← List.take_append_drop 24 (((((((((words1.drop 24).drop 24).drop 24).drop 24).drop 24).drop 24).drop 24).drop 24).drop 24), List.all_append, w_t10, ← List.take_append_drop 24 ((((((((((words1.drop 24).drop 24).drop 24).drop 24).drop 24).drop 24).drop 24).drop 24).drop 24).drop 24), List.all_append, w_t11, w_t12]
  rfl
set_option maxRecDepth 65536 in
theorem w_rest : rest_1_c.before args0 about1 = true := by decide +kernel
set_option maxRecDepth 65536 in
theorem w_case : (Jvm.Cond.and given_1 narrow_1).before args0 about1 = true := by decide +kernel
set_option maxRecDepth 65536 in
theorem w_consts : constsHeld consts_1 about1 := Jvm.Lit.constsHeldB_iff.mp (by decide +kernel)
theorem w_applies : (headSpec (Jvm.Cond.code x code maxLocals ret :: tables_1) room_1).applies x e0.platform about1 = true :=
  (Spec.applies_iff w_frames).mpr ⟨w_running, w_runnable, w_alone, w_named, w_hears, w_ripe, w_room, w_tables⟩
theorem atStart : AtStart classFile x code maxLocals ret World_1 tables_1 room_1 Calls_1 rest_1 Pre_1 launch0 p0 e0 about1 theMethod args0 below0 :=
  ⟨lists_1, trivial, launch0.admits_env _ _ _, launch0.least_env, fairChoices_fair.cas, fairChoices_fair.clock, w_frames, w_args, w_heap, w_applies, ⟨w_consts, trivial⟩, w_rest, w_case⟩
end start1
theorem witness_1 : WitnessClaimed_1 := ⟨start1.p0, start1.e0, start1.about1, start1.theMethod, start1.args0, start1.below0, start1.atStart⟩
end Jvm.Pilot.@@N@@
