import JvmDerived
import JvmDerived.Pilot.@@N@@Statement
import JvmDerived.Pilot.@@N@@Code
set_option linter.unusedVariables false
set_option linter.unusedSimpArgs false
namespace Jvm.Pilot.@@N@@
open Jvm Jvm.ClassFile Sem Op Lib Jvm.Free Jvm.Stand Jvm.LawKit Jvm.RoadKit Bundle Jvm.Pilot.@@N@@.Jvm.D
/-! THE LAYER: what a body does from a point on, as one sentence ('own_WP'); a contract is 'own_Met'. K: the launch, the start's state, the string constants that are held, 'nothing is interned'. M: the method, its bytes, its locals, what it returns, its room. -/
abbrev own_Cx : Type := Launch × State × List (String × Nat) × Bool
abbrev own_Cx.l (K : own_Cx) : Launch := K.1
abbrev own_Cx.Z (K : own_Cx) : State := K.2.1
abbrev own_Cx.E (K : own_Cx) : List (String × Nat) := K.2.2.1
abbrev own_Cx.nw (K : own_Cx) : Bool := K.2.2.2
abbrev own_Cx.n (K : own_Cx) : Nat := K.Z.heap.size
abbrev own_Mi : Type := MethodName × ByteArray × Nat × Option FieldType × Room
abbrev own_Mi.y (M : own_Mi) : MethodName := M.1
abbrev own_Mi.b (M : own_Mi) : ByteArray := M.2.1
abbrev own_Mi.mx (M : own_Mi) : Nat := M.2.2.1
abbrev own_Mi.ret (M : own_Mi) : Option FieldType := M.2.2.2.1
abbrev own_Mi.R (M : own_Mi) : Room := M.2.2.2.2
abbrev own_Q : Type := Option Value → Heap → List Addr → Prop
def own_ret (q : Value → Heap → List Addr → Prop) : own_Q := fun v h xs => ∃ w, v = some w ∧ q w h xs
def own_void (q : Heap → List Addr → Prop) : own_Q := fun v h xs => v = none ∧ q h xs
def own_Bdy (K : own_Cx) (M : own_Mi) (p : Program) (s : State) (m : MethodId) (meth : Method) (c : Code) : Prop :=
  p.tables.exec = Jvm.exec ∧ c.code = M.b ∧ c.maxLocals = M.mx ∧ s.vm.findClass M.y.cls = some m.cls ∧ meth.name = M.y.name ∧ meth.sig.returnType = M.ret ∧ meth.locks = false ∧ K.Z.Warmed39 s.vm ∧ ∃ a0, EW K.Z a0 K.E
def own_Sf (K : own_Cx) (vm : Vm) (h : Heap) (xs : List Addr) : Prop := ∀ x ∈ xs, K.n ≤ x ∧ x < h.size ∧ Safe K.Z K.E vm h x
def own_Inv (K : own_Cx) (s : State) (vm0 : Vm) (k0 : Nat) (h : Heap) (sf : List Addr) : Prop :=
  s.Since vm0 k0 ∧ k0 ≤ h.size ∧ (K.nw = true → s.WarmedH vm0) ∧ CHr K.Z K.E s.vm s.heap vm0 h ∧ own_Sf K vm0 h sf ∧ Ext K.Z.heap h
def own_End (K : own_Cx) (R : Room) (Q : own_Q) (s : State) (o : Outcome) (t : State) : Prop :=
  ∃ v L xs, o = .returned v ∧ Q v t.heap xs ∧ Fr K.n L ∧ CHr K.Z K.E s.vm s.heap t.vm t.heap ∧ own_Sf K t.vm t.heap xs ∧ Ext K.Z.heap t.heap ∧ ReturnedEndW s o t L R.cells R.slots ∧ (K.nw = true → s.WarmedH t.vm)
def own_Fin (K : own_Cx) (R : Room) (Q : own_Q) (p : Program) (e : Env) (below : List Frame) (s F : State) : Prop :=
  ∃ s₂ o, Steps p.tables e below F s₂ ∧ s₂.status = .running ∧ Ended s₂ below o ∧ own_End K R Q s o s₂
def own_WP (K : own_Cx) (M : own_Mi) (Q : own_Q) (pc : Nat) (Ls : List Slot) (St : List Value) (sf : List Addr) (h : Heap) (cs sl : Nat) : Prop :=
  ∀ (p : Program) (e : Env) (s : State) (vm0 : Vm) (k0 : Nat) (m : MethodId) (args : Array Value) (below : List Frame) (meth : Method) (c : Code) (T : State) (locs : List Loc) (cs' sl' : Nat),
    own_Bdy K M p (s.setVm vm0) m meth c → Stand p K.l e M.R (s.setVm vm0) m args below meth c T locs cs' sl' → cs' ≤ cs → sl' ≤ sl → T.heap = h → Fr K.n locs → own_Inv K s vm0 k0 h sf →
    own_Fin K M.R Q p e below s (T.setTop (mkF m pc Ls.toArray St))
def own_Met (K : own_Cx) (M : own_Mi) (as' : Array Value) (sf : List Addr) (h : Heap) (Q : own_Q) : Prop :=
  ∀ ws : List Jvm.Cond, MetFree K.l M.y (head1 (Jvm.Cond.code M.y M.b M.mx M.ret :: ws) M.R) (fun a U => a = as' ∧ K.Z.Warmed39 U.vm ∧ U.heap = h ∧ (∃ a0, EW K.Z a0 K.E) ∧ CHv K.Z K.E U.vm h ∧ own_Sf K U.vm h sf ∧ Ext K.Z.heap h) (fun _ _ _ _ _ => True) (fun _ U o U' => own_End K M.R Q U o U')
section Core
variable {K : own_Cx} {M : own_Mi} {Q : own_Q} {pc pc' : Nat} {Ls Ls' : List Slot} {St St' : List Value} {sf : List Addr} {h : Heap} {cs sl : Nat} {a0 : Array Value}
theorem own_ext_trans {h h' h2 : Heap} (E : Ext h h') (E' : Ext h' h2) : Ext h h2 := ⟨Nat.le_trans E.1 E'.1, fun x c q => E'.2 x c (E.2 x c q)⟩
theorem own_ext_refl (h : Heap) : Ext h h := ⟨Nat.le_refl _, fun _ _ q => q⟩
theorem own_met (hpn : plainFor M.y = true) {as' : Array Value} (ef : ∀ m : MethodId, entryFrame m as' M.mx = mkF m 0 Ls.toArray []) (k : own_WP K M Q 0 Ls [] sf h 0 0) : own_Met K M as' sf h Q := by
  intro ws
  refine MetFree.of_bodySF hpn hisR ?_
  intro p e s m args below meth c s₁ Bd hml0 hP hK
  obtain ⟨rfl, hZ, hh, hEW, hC, hsf, hE⟩ := hP
  have hown : s.vm.findClass M.y.cls = some m.cls := findClass_of_methodNamed Bd.named
  have hnm := (name_of_methodNamed Bd.named Bd.method).1
  have X0 : Stand p K.l e M.R s m args below meth c s₁ [] 0 0 := Stand.of_body Bd
  have e0 : s₁.heap = h := by rw [← hh, Bd.state]; rfl
  have hI : own_Inv K s s.vm 0 h sf := ⟨(State.WarmedH.refl s).since _, Nat.zero_le _, fun _ => State.WarmedH.refl s, by rw [← hh]; exact CHr.refl (by rw [hh]; exact hC), hsf, hE⟩
  obtain ⟨s₂, o, h1, h2, h3, h4⟩ := k p e s s.vm 0 m args below meth c s₁ [] 0 0 ⟨Bd.exec, Bd.bytes, hml0, hown, hnm, Bd.returns, BodyLoose.notSynchronized Bd, hZ, hEW⟩ X0 (Nat.le_refl _) (Nat.le_refl _) e0 (Fr.nil _) hI
  refine ⟨s₂, o, ?_, h2, h3, h4⟩
  rw [ef m]
  exact h1
theorem own_step (k : own_WP K M Q pc' Ls' St' sf h cs sl)
    (st : ∀ (p : Program) (e : Env) (s : State) (m : MethodId) (args : Array Value) (below : List Frame) (meth : Method) (c : Code) (T : State) (locs : List Loc) (cs' sl' : Nat), own_Bdy K M p s m meth c → Stand p K.l e M.R s m args below meth c T locs cs' sl' → T.heap = h →
      ∀ t, Steps p.tables e below (T.setTop (mkF m pc' Ls'.toArray St')) t → Steps p.tables e below (T.setTop (mkF m pc Ls.toArray St)) t) : own_WP K M Q pc Ls St sf h cs sl := by
  intro p e s vm0 k0 m args below meth c T locs cs' sl' B X hc hs eT N I
  obtain ⟨s₂, o, h1, r⟩ := k p e s vm0 k0 m args below meth c T locs cs' sl' B X hc hs eT N I
  exact ⟨s₂, o, st p e _ m args below meth c T locs cs' sl' B X eT _ h1, r⟩
theorem own_move (k : own_WP K M Q pc' Ls' St' sf h cs sl)
    (st : ∀ (p : Program) (e : Env) (s : State) (m : MethodId) (args : Array Value) (below : List Frame) (meth : Method) (c : Code) (T : State) (locs : List Loc) (cs' sl' : Nat), own_Bdy K M p s m meth c → Stand p K.l e M.R s m args below meth c T locs cs' sl' → T.heap = h → Ext K.Z.heap h →
      ∃ T', Stand p K.l e M.R s m args below meth c T' locs cs' sl' ∧ T'.heap = h ∧ ∀ t, Steps p.tables e below (T'.setTop (mkF m pc' Ls'.toArray St')) t → Steps p.tables e below (T.setTop (mkF m pc Ls.toArray St)) t) : own_WP K M Q pc Ls St sf h cs sl := by
  intro p e s vm0 k0 m args below meth c T locs cs' sl' B X hc hs eT N I
  obtain ⟨T', X', e', st'⟩ := st p e _ m args below meth c T locs cs' sl' B X eT I.2.2.2.2.2
  obtain ⟨s₂, o, h1, r⟩ := k p e s vm0 k0 m args below meth c T' locs cs' sl' B X' hc hs e' N I
  exact ⟨s₂, o, st' _ h1, r⟩
theorem own_Sf.new {vm : Vm} {h' : Heap} (E : Ext h h') (hH : CHv K.Z K.E vm h) (hE : Ext K.Z.heap h) (hlt : h.size < h'.size) (S : own_Sf K vm h sf) : own_Sf K vm h' (h.size :: sf) := by
  intro x hx
  rcases List.mem_cons.mp hx with rfl | hx
  · exact ⟨hE.1, hlt, Safe.ext E hH (Safe.new (Nat.le_refl _))⟩
  · obtain ⟨q1, q2, q3⟩ := S x hx
    exact ⟨q1, Nat.lt_of_lt_of_le q2 E.1, Safe.ext E hH q3⟩
theorem own_grow {dc ds : Nat} {P : Heap → Prop} (hc : cs + dc ≤ M.R.cells) (hs : sl + ds ≤ M.R.slots)
    (k : ∀ h', Ext h h' → P h' → own_WP K M Q pc' Ls' St' (h.size :: sf) h' (cs + dc) (sl + ds))
    (st : ∀ (p : Program) (e : Env) (s : State) (m : MethodId) (args : Array Value) (below : List Frame) (meth : Method) (c : Code) (T : State) (locs : List Loc) (cs' sl' : Nat), own_Bdy K M p s m meth c → Stand p K.l e M.R s m args below meth c T locs cs' sl' → cs' + dc ≤ M.R.cells → sl' + ds ≤ M.R.slots → T.heap = h →
      ∃ T' h', Stand p K.l e M.R s m args below meth c T' locs (cs' + dc) (sl' + ds) ∧ T'.heap = h' ∧ Ext h h' ∧ h.size < h'.size ∧ P h' ∧ ∀ t, Steps p.tables e below (T'.setTop (mkF m pc' Ls'.toArray St')) t → Steps p.tables e below (T.setTop (mkF m pc Ls.toArray St)) t) : own_WP K M Q pc Ls St sf h cs sl := by
  intro p e s vm0 k0 m args below meth c T locs cs' sl' B X hc' hs' eT N I
  obtain ⟨T', h', X', e', E, hlt, hP, st'⟩ := st p e _ m args below meth c T locs cs' sl' B X (by omega) (by omega) eT
  obtain ⟨i1, i2, i3, i4, i5, i6⟩ := I
  obtain ⟨s₂, o, h1, r⟩ := k h' E hP p e s vm0 k0 m args below meth c T' locs (cs' + dc) (sl' + ds) B X' (by omega) (by omega) e' N ⟨i1, Nat.le_trans i2 E.1, i3, i4.trans (CHr.ext E i4.1), own_Sf.new E i4.1 i6 hlt i5, own_ext_trans i6 E⟩
  exact ⟨s₂, o, st' _ h1, r⟩
theorem own_Sf.wr {vm : Vm} {h' : Heap} {a : Addr} {i : Nat} {v : Value} (W : Wr h h' a i v) (hH : CHv K.Z K.E vm h) (ha : a ∈ sf) (S : own_Sf K vm h sf) : own_Sf K vm h' sf := by
  intro x hx
  obtain ⟨q1, q2, q3⟩ := S x hx
  exact ⟨q1, by rw [W.size]; exact q2, Safe.wr W (S a ha).2.2 hH q3⟩
theorem own_ext_wr {h h' : Heap} {Z : State} {a : Addr} {i : Nat} {v : Value} (W : Wr h h' a i v) (ha : Z.heap.size ≤ a) (E : Ext Z.heap h) : Ext Z.heap h' := by
  have K := Keep.of_wr W
  exact ⟨by rw [W.size]; exact E.1, fun x c q => K.2.1 x c (E.2 x c q) (by
    intro hm
    have h1 : x < Z.heap.size := (Array.getElem?_eq_some_iff.mp q).1
    have h2 := List.mem_singleton.mp hm
    subst h2
    exact Nat.lt_irrefl _ (Nat.lt_of_lt_of_le h1 ha))⟩
theorem own_write {a : Addr} {i : Nat} {v : Value} (ha : a ∈ sf) (k : ∀ h', Wr h h' a i v → own_WP K M Q pc' Ls' St' sf h' cs sl)
    (st : ∀ (p : Program) (e : Env) (s : State) (m : MethodId) (args : Array Value) (below : List Frame) (meth : Method) (c : Code) (T : State) (locs : List Loc) (cs' sl' : Nat), own_Bdy K M p s m meth c → Stand p K.l e M.R s m args below meth c T locs cs' sl' → T.heap = h →
      ∃ T' h', Stand p K.l e M.R s m args below meth c T' (locs ++ [⟨a, i⟩]) cs' sl' ∧ T'.heap = h' ∧ Wr h h' a i v ∧ ∀ t, Steps p.tables e below (T'.setTop (mkF m pc' Ls'.toArray St')) t → Steps p.tables e below (T.setTop (mkF m pc Ls.toArray St)) t) : own_WP K M Q pc Ls St sf h cs sl := by
  intro p e s vm0 k0 m args below meth c T locs cs' sl' B X hc' hs' eT N I
  obtain ⟨T', h', X', e', W, st'⟩ := st p e _ m args below meth c T locs cs' sl' B X eT
  obtain ⟨i1, i2, i3, i4, i5, i6⟩ := I
  have hn := (i5 a ha).1
  obtain ⟨s₂, o, h1, r⟩ := k h' W p e s vm0 k0 m args below meth c T' _ cs' sl' B X' hc' hs' e' (Fr.snoc X' N hn) ⟨i1, by rw [W.size]; exact i2, i3, i4.trans (CHr.wr W (i5 a ha).2.2 i4.1), own_Sf.wr W i4.1 ha i5, own_ext_wr W hn i6⟩
  exact ⟨s₂, o, st' _ h1, r⟩
/-- fewer writable places, more room spent: a weaker sentence -/
theorem own_weak {sf' : List Addr} {cs1 sl1 : Nat} (k : own_WP K M Q pc Ls St sf' h cs1 sl1) (hsf : ∀ x ∈ sf', x ∈ sf) (hc : cs ≤ cs1) (hs : sl ≤ sl1) : own_WP K M Q pc Ls St sf h cs sl :=
  fun p e s vm0 k0 m args below meth c T locs cs' sl' B X hc' hs' eT N I => k p e s vm0 k0 m args below meth c T locs cs' sl' B X (Nat.le_trans hc' hc) (Nat.le_trans hs' hs) eT N ⟨I.1, I.2.1, I.2.2.1, I.2.2.2.1, fun x hx => I.2.2.2.2.1 x (hsf x hx), I.2.2.2.2.2⟩
/-- the end -/
theorem own_leave {v : Option Value} (hv : M.ret = none → v = none) (hc : cs ≤ M.R.cells) (hs : sl ≤ M.R.slots) (q : Q v h sf)
    (st : ∀ (p : Program) (e : Env) (s : State) (m : MethodId) (args : Array Value) (below : List Frame) (meth : Method) (c : Code) (T : State) (locs : List Loc) (cs' sl' : Nat), own_Bdy K M p s m meth c → Stand p K.l e M.R s m args below meth c T locs cs' sl' →
      ∀ fs, (∀ (f : JFrame) (acts : List Action), f.method = m → f.locked = none → f.entered = [] → (doReturn e (T.setTop f) acts v).1 = T.setFrames fs) → Steps p.tables e below (T.setTop (mkF m pc Ls.toArray St)) (T.setFrames fs)) : own_WP K M Q pc Ls St sf h cs sl := by
  intro p e s vm0 k0 m args below meth c T locs cs' sl' B X hc' hs' eT N I
  obtain ⟨i1, i2, i3, i4, i5, i6⟩ := I
  have hlk : meth.locks = false := B.2.2.2.2.2.2.1
  have hr : meth.sig.returnType = M.ret := B.2.2.2.2.2.1
  obtain ⟨a1, hEW⟩ := B.2.2.2.2.2.2.2.2
  obtain ⟨fs, h1, h2, h3, h4⟩ := X.leaveW i1 (by rw [eT]; exact i2) (v := v) (by rw [hr]; exact hv) hlk
  have A : CHr K.Z K.E vm0 h T.vm h := CHv.at X B.2.2.2.2.2.2.2.1 hEW i4.1
  refine ⟨_, _, st p e _ m args below meth c T locs cs' sl' B X fs h1, h2, h3, v, locs, sf, rfl, ?_, N, ?_, ?_, ?_, ?_, ?_⟩
  · show Q v T.heap sf; rw [eT]; exact q
  · show CHr K.Z K.E s.vm s.heap T.vm T.heap; rw [eT]; exact i4.trans A
  · show own_Sf K T.vm T.heap sf
    rw [eT]
    exact fun x hx => ⟨(i5 x hx).1, (i5 x hx).2.1, A.safe (i5 x hx).2.1 (i5 x hx).2.2⟩
  · show Ext K.Z.heap T.heap; rw [eT]; exact i6
  · obtain ⟨r1, r2, r3, r4⟩ := h4
    exact ⟨r1, r2, r3, r4.mono (by omega) (by omega)⟩
  · exact fun q => State.WarmedH.trans (t := s.setVm vm0) (i3 q) X.warmed
end Core
section Calls
variable {K : own_Cx} {M M' : own_Mi} {Q Q' : own_Q} {pc pc' : Nat} {Ls : List Slot} {St rest : List Value} {sf sf' : List Addr} {h : Heap} {cs sl : Nat} {a0 : Array Value}
theorem own_back {R : Room} {p : Program} {e : Env} {s : State} {vm0 : Vm} {k0 : Nat} {below : List Frame} {args as' : Array Value} {len W : Nat} (hM : own_Met K M' as' sf' h Q') (hsf : ∀ x ∈ sf', x ∈ sf) (hZ : K.Z.Warmed39 vm0) (hEW : ∃ a0, EW K.Z a0 K.E) (I : own_Inv K s vm0 k0 h sf)
    (wc : (Jvm.Cond.code M'.y M'.b M'.mx M'.ret).before a0 K.Z = true) (wz : (Jvm.Cond.initialized M'.y.cls).before a0 K.Z = true) (hf : M'.R.frames + 1 ≤ R.frames) (hl : W + (M'.mx + 11) + M'.R.locals ≤ R.locals) :
    BackS K.l R p e below (s.setVm vm0) args M'.y len W (fun A a => a = as' ∧ A.U.heap = h ∧ A.cells + M'.R.cells ≤ R.cells ∧ A.slots + M'.R.slots ≤ R.slots)
      (fun A _ v B => ∃ L xs, Q' v B.U.heap xs ∧ Fr K.n L ∧ B.locs = A.locs ++ L ∧ B.cells = A.cells + M'.R.cells ∧ B.slots = A.slots + M'.R.slots ∧ CHr K.Z K.E vm0 h B.U.vm B.U.heap ∧ own_Sf K B.U.vm B.U.heap xs ∧ Ext K.Z.heap B.U.heap ∧ (K.nw = true → (s.setVm vm0).WarmedH B.U.vm)) := by
  obtain ⟨a1, hE⟩ := hEW
  have H := I.2.2.2.1.1
  exact BackS.of_freeW (bytes := M'.b) (maxL := M'.mx) (ret := M'.ret) (E := fun _ first o t L k n => k = M'.R.cells ∧ n = M'.R.slots ∧ ∃ v xs, o = .returned v ∧ Q' v t.heap xs ∧ Fr K.n L ∧ CHr K.Z K.E first.vm first.heap t.vm t.heap ∧ own_Sf K t.vm t.heap xs ∧ Ext K.Z.heap t.heap ∧ (K.nw = true → first.WarmedH t.vm)) (hM []) hf hl
    (fun m meth c A a Y hp => have hU : K.Z.Warmed39 A.U.vm := wtrans (s := s.setVm vm0) hZ Y.warmed
      ⟨by show (Jvm.Cond.and _ .tt).before a A.U = true; rw [Cond.before_and, mv hU wc]; rfl, mv hU wc, mv hU wz, hp.2.2.1, hp.2.2.2⟩)
    (fun m meth c A a g mk Y hp => ⟨hp.1, wtrans (s := s.setVm vm0) hZ Y.warmed, hp.2.1, ⟨a1, hE⟩, (CHv.at Y hZ hE H).1, fun x hx => have q := I.2.2.2.2.1 x (hsf x hx); ⟨q.1, q.2.1, (CHv.at Y hZ hE H).safe q.2.1 q.2.2⟩, I.2.2.2.2.2⟩)
    (fun _ _ _ _ _ _ _ _ _ => trivial)
    (fun _ _ _ _ ⟨v, L, xs, h1, h2, h3, h4, h5, h6, h7, h8⟩ => ⟨L, _, _, h7, rfl, rfl, v, xs, h1, h2, h3, h4, h5, h6, h8⟩)
    (fun m meth c A a g mk v t L k n Y hp _ _ ⟨e1, e2, v', xs, e3, e4, e5, e6, e7, e8, e9⟩ => by
      cases e3; subst e1 e2
      refine ⟨L, xs, e4, e5, rfl, rfl, rfl, (CHv.at Y hZ hE H).trans ?_, e7, e8, fun q => ?_⟩
      · rw [← hp.2.1]; exact e6
      · exact State.WarmedH.trans Y.warmed (e9 q))
theorem own_called {p : Program} {e : Env} {s : State} {vm0 : Vm} {k0 : Nat} {m : MethodId} {args : Array Value} {below : List Frame} {meth : Method} {c : Code} {T : State} {locs : List Loc} {cs' sl' : Nat} {v : Option Value} {B : Pt}
    (k : ∀ v h' xs, Q' v h' xs → own_WP K M Q pc' Ls (v.toList ++ rest) (xs ++ sf) h' (cs + M'.R.cells) (sl + M'.R.slots)) (Bd : own_Bdy K M p (s.setVm vm0) m meth c) (hc : cs' ≤ cs) (hs : sl' ≤ sl) (eT : T.heap = h) (N : Fr K.n locs) (I : own_Inv K s vm0 k0 h sf)
    (X' : Stand p K.l e M.R ((s.setVm vm0).setVm B.U.vm) m args below meth c B.U B.locs B.cells B.slots) (hS : (s.setVm vm0).Since B.U.vm B.U.heap.size) (hg : T.heap.size ≤ B.U.heap.size)
    (P : ∃ L xs, Q' v B.U.heap xs ∧ Fr K.n L ∧ B.locs = locs ++ L ∧ B.cells = cs' + M'.R.cells ∧ B.slots = sl' + M'.R.slots ∧ CHr K.Z K.E vm0 h B.U.vm B.U.heap ∧ own_Sf K B.U.vm B.U.heap xs ∧ Ext K.Z.heap B.U.heap ∧ (K.nw = true → (s.setVm vm0).WarmedH B.U.vm))
    {F : State} (st : Steps p.tables e below F (B.U.setTop (mkF m pc' Ls.toArray (v.toList ++ rest)))) : own_Fin K M.R Q p e below s F := by
  obtain ⟨U, l1, c1, s1⟩ := B
  obtain ⟨L, xs, q, NL, eL, ec, es, C, S, E, w⟩ := P
  dsimp only [Pt.U, Pt.locs, Pt.cells, Pt.slots] at X' hS hg q eL ec es C S E w st
  subst eL ec es
  obtain ⟨i1, i2, i3, i4, i5, i6⟩ := I
  obtain ⟨b1, b2, b3, b4, b5, b6, b7, b8, b9⟩ := Bd
  obtain ⟨X2, S2, Z2, O2⟩ := rebS (Z := K.Z) (own := M.y.cls) i1 (n1 := T.heap.size) (by rw [eT]; exact i2) X' hS hg b8 b4
  obtain ⟨s₂, o, h1, r⟩ := k v U.heap xs q p e s U.vm U.heap.size m args below meth c U (locs ++ L) _ _ ⟨b1, b2, b3, O2, b5, b6, b7, Z2, b9⟩ X2 (Nat.add_le_add_right hc _) (Nat.add_le_add_right hs _) rfl (N.app NL)
    ⟨S2, Nat.le_refl _, fun q => State.WarmedH.trans (t := s.setVm vm0) (i3 q) (w q), i4.trans C, fun x hx => by
      rcases List.mem_append.mp hx with hx | hx
      · exact S x hx
      · exact ⟨(i5 x hx).1, Nat.lt_of_lt_of_le (i5 x hx).2.1 C.2.1, C.safe (i5 x hx).2.1 (i5 x hx).2.2⟩, E⟩
  exact ⟨s₂, o, st.trans h1, r⟩
theorem own_static {index : Nat} {argsL : List Value} (hd : decode M.b pc = .ok (.invokestatic index, 3)) (hp : pc + 3 = pc') (w1 : (Jvm.Cond.methodLink M.y.cls index M'.y).before a0 K.Z = true) (w2 : (Jvm.Cond.static M'.y).before a0 K.Z = true) (w3 : (Jvm.Cond.initialized M'.y.cls).before a0 K.Z = true) (w4 : (Jvm.Cond.code M'.y M'.b M'.mx M'.ret).before a0 K.Z = true)
    (hy : M'.y.cls ≠ "java/lang/invoke/MethodHandle" ∧ M'.y.cls ≠ "java/lang/invoke/VarHandle") (hsz : Ls.length = M.mx) (hlen : ∀ sig, parseMethodDescriptor M'.y.desc = some sig → argsL.length = sig.parameters.length) (hst : St = argsL.reverse ++ rest)
    (hf : Nat.ble (M'.R.frames + 1) M.R.frames = true) (hl : Nat.ble ((rest.map fun v => v.category).sum + (M'.mx + 11) + M'.R.locals) M.R.locals = true) (hc : Nat.ble (cs + M'.R.cells) M.R.cells = true) (hs : Nat.ble (sl + M'.R.slots) M.R.slots = true)
    (hM : own_Met K M' argsL.toArray sf' h Q') (hsf : ∀ x ∈ sf', x ∈ sf) (k : ∀ v h' xs, Q' v h' xs → own_WP K M Q pc' Ls (v.toList ++ rest) (xs ++ sf) h' (cs + M'.R.cells) (sl + M'.R.slots)) : own_WP K M Q pc Ls St sf h cs sl := by
  subst hst hp
  intro p e s vm0 k0 m args below meth c T locs cs' sl' B X hc' hs' eT N I
  have q1 := Nat.le_of_ble_eq_true hf
  have q2 := Nat.le_of_ble_eq_true hl
  have q3 := Nat.le_of_ble_eq_true hc
  have q4 := Nat.le_of_ble_eq_true hs
  obtain ⟨v, vm₁, B', -, X', hS, hg, P, st⟩ := callSS X B.1 (y := M'.y) (bytes := M'.b) (maxL := M'.mx) (ret := M'.ret) B.2.2.2.1 (mv B.2.2.2.2.2.2.2.1 w1) (mv B.2.2.2.2.2.2.2.1 w2) (mv B.2.2.2.2.2.2.2.1 w3) (mv B.2.2.2.2.2.2.2.1 w4) hy
    (own_back (W := (rest.map fun v => v.category).sum) hM hsf B.2.2.2.2.2.2.2.1 B.2.2.2.2.2.2.2.2 I w4 w3 q1 q2) (g := mkF m pc Ls.toArray (argsL.reverse ++ rest)) rfl (by rw [B.2.2.1, ← hsz]; simp) (argsL := argsL) (rest := rest) hlen rfl (by show 2 * 0 + _ ≤ _; omega) (hb B.2.1 hd)
    (fun vm₁ _ => ⟨rfl, eT, by show cs' + _ ≤ _; omega, by show sl' + _ ≤ _; omega⟩)
  exact own_called k B hc' hs' eT N I X' hS hg P st
theorem own_special {index : Nat} {a : Addr} {argsL : List Value} (hd : decode M.b pc = .ok (.invokespecial index, 3)) (hp : pc + 3 = pc') (hn : M'.y.name = "<init>") (hrt : M'.ret = none) (w1 : (Jvm.Cond.methodLink M.y.cls index M'.y).before a0 K.Z = true) (w2 : (Jvm.Cond.instanceMethod M'.y).before a0 K.Z = true) (w3 : (Jvm.Cond.initialized M'.y.cls).before a0 K.Z = true) (w4 : (Jvm.Cond.code M'.y M'.b M'.mx M'.ret).before a0 K.Z = true)
    (hy : M'.y.cls ≠ "java/lang/invoke/MethodHandle" ∧ M'.y.cls ≠ "java/lang/invoke/VarHandle") (hsz : Ls.length = M.mx) (hlen : ∀ sig, parseMethodDescriptor M'.y.desc = some sig → argsL.length = sig.parameters.length) (hst : St = argsL.reverse ++ .ref a :: rest)
    (hf : Nat.ble (M'.R.frames + 1) M.R.frames = true) (hl : Nat.ble ((rest.map fun v => v.category).sum + (M'.mx + 11) + M'.R.locals) M.R.locals = true) (hc : Nat.ble (cs + M'.R.cells) M.R.cells = true) (hs : Nat.ble (sl + M'.R.slots) M.R.slots = true)
    (hM : own_Met K M' (.ref a :: argsL).toArray sf' h Q') (hsf : ∀ x ∈ sf', x ∈ sf) (k : ∀ v h' xs, Q' v h' xs → own_WP K M Q pc' Ls (v.toList ++ rest) (xs ++ sf) h' (cs + M'.R.cells) (sl + M'.R.slots)) : own_WP K M Q pc Ls St sf h cs sl := by
  subst hst hp
  intro p e s vm0 k0 m args below meth c T locs cs' sl' B X hc' hs' eT N I
  have q1 := Nat.le_of_ble_eq_true hf
  have q2 := Nat.le_of_ble_eq_true hl
  have q3 := Nat.le_of_ble_eq_true hc
  have q4 := Nat.le_of_ble_eq_true hs
  have w4' : (Jvm.Cond.code M'.y M'.b M'.mx none).before a0 K.Z = true := by rw [← hrt]; exact w4
  obtain ⟨v, vm₁, B', -, X', hS, hg, P, st⟩ := X.specialBackS B.1 (y := M'.y) hn B.2.2.2.1 (mv B.2.2.2.2.2.2.2.1 w1) (mv B.2.2.2.2.2.2.2.1 w2) (bytes := M'.b) (maxL := M'.mx) (mv B.2.2.2.2.2.2.2.1 w4') hy
    (own_back (W := (rest.map fun v => v.category).sum) hM hsf B.2.2.2.2.2.2.2.1 B.2.2.2.2.2.2.2.2 I w4 w3 q1 q2) (g := mkF m pc Ls.toArray (argsL.reverse ++ .ref a :: rest)) rfl (by rw [B.2.2.1, ← hsz]; simp) (Steps.refl _) (a := a) (argsL := argsL) (rest := rest) hlen rfl (by show 2 * 0 + _ ≤ _; omega) (hb B.2.1 hd)
    (fun vm₁ _ => ⟨rfl, eT, by show cs' + _ ≤ _; omega, by show sl' + _ ≤ _; omega⟩)
  exact own_called k B hc' hs' eT N I X' hS hg P st
theorem own_virtual {index : Nat} {a : Addr} {C : String} {argsL : List Value} (hd : decode M.b pc = .ok (.invokevirtual index, 3)) (hp : pc + 3 = pc') (w1 : (Jvm.Cond.methodLink M.y.cls index M'.y).before a0 K.Z = true) (w2 : (Jvm.Cond.declares M'.y).before a0 K.Z = true) (w5 : (Jvm.Cond.selects C M'.y M'.y).before a0 K.Z = true) (w6 : (Jvm.Cond.instanceMethod M'.y).before a0 K.Z = true) (w3 : (Jvm.Cond.initialized M'.y.cls).before a0 K.Z = true) (w4 : (Jvm.Cond.code M'.y M'.b M'.mx M'.ret).before a0 K.Z = true)
    (hy : M'.y.cls ≠ "java/lang/invoke/MethodHandle" ∧ M'.y.cls ≠ "java/lang/invoke/VarHandle") (hsz : Ls.length = M.mx) (hlen : ∀ sig, parseMethodDescriptor M'.y.desc = some sig → argsL.length = sig.parameters.length) (hst : St = argsL.reverse ++ .ref a :: rest)
    (hf : Nat.ble (M'.R.frames + 1) M.R.frames = true) (hl : Nat.ble ((rest.map fun v => v.category).sum + (M'.mx + 11) + M'.R.locals) M.R.locals = true) (hc : Nat.ble (cs + M'.R.cells) M.R.cells = true) (hs : Nat.ble (sl + M'.R.slots) M.R.slots = true)
    (E : Exa K.Z h a C) (hM : own_Met K M' (.ref a :: argsL).toArray sf' h Q') (hsf : ∀ x ∈ sf', x ∈ sf) (k : ∀ v h' xs, Q' v h' xs → own_WP K M Q pc' Ls (v.toList ++ rest) (xs ++ sf) h' (cs + M'.R.cells) (sl + M'.R.slots)) : own_WP K M Q pc Ls St sf h cs sl := by
  subst hst hp
  intro p e s vm0 k0 m args below meth c T locs cs' sl' B X hc' hs' eT N I
  have q1 := Nat.le_of_ble_eq_true hf
  have q2 := Nat.le_of_ble_eq_true hl
  have q3 := Nat.le_of_ble_eq_true hc
  have q4 := Nat.le_of_ble_eq_true hs
  obtain ⟨cB, kB, r1, r2, r3⟩ := isOf (T := T) B.2.2.2.2.2.2.2.1 eT E
  obtain ⟨v, vm₁, B', -, X', hS, hg, P, st⟩ := X.virtualBackS B.1 (y := M'.y) (z := M'.y) B.2.2.2.1 (mv B.2.2.2.2.2.2.2.1 w1) (mv B.2.2.2.2.2.2.2.1 w2) (notFace_of_selects (args := #[]) (mv B.2.2.2.2.2.2.2.1 w5)) (mv B.2.2.2.2.2.2.2.1 w5) (mv B.2.2.2.2.2.2.2.1 w6) hy
    (own_back (W := (rest.map fun v => v.category).sum) hM hsf B.2.2.2.2.2.2.2.1 B.2.2.2.2.2.2.2.2 I w4 w3 q1 q2) r1 r3 (g := mkF m pc Ls.toArray (argsL.reverse ++ .ref a :: rest)) rfl (by rw [B.2.2.1, ← hsz]; simp) (Steps.refl _) (argsL := argsL) (rest := rest) hlen rfl (by show 2 * 0 + _ ≤ _; omega) (hb B.2.1 hd)
    (fun vm₁ _ => ⟨rfl, eT, by show cs' + _ ≤ _; omega, by show sl' + _ ≤ _; omega⟩)
  exact own_called k B hc' hs' eT N I X' hS hg P st
theorem own_static1v {index : Nat} {v0 : Value} {q' : Value → Heap → List Addr → Prop} (hd : decode M.b pc = .ok (.invokestatic index, 3)) (hp : pc + 3 = pc') (w1 : (Jvm.Cond.methodLink M.y.cls index M'.y).before a0 K.Z = true) (w2 : (Jvm.Cond.static M'.y).before a0 K.Z = true) (w3 : (Jvm.Cond.initialized M'.y.cls).before a0 K.Z = true) (w4 : (Jvm.Cond.code M'.y M'.b M'.mx M'.ret).before a0 K.Z = true) (hy : M'.y.cls ≠ "java/lang/invoke/MethodHandle" ∧ M'.y.cls ≠ "java/lang/invoke/VarHandle") (hsz : Ls.length = M.mx) (hlen : ∀ sig, parseMethodDescriptor M'.y.desc = some sig → 1 = sig.parameters.length)
    (hf : Nat.ble (M'.R.frames + 1) M.R.frames = true) (hl : Nat.ble ((rest.map fun v => v.category).sum + (M'.mx + 11) + M'.R.locals) M.R.locals = true) (hc : Nat.ble (cs + M'.R.cells) M.R.cells = true) (hs : Nat.ble (sl + M'.R.slots) M.R.slots = true) (hM : own_Met K M' #[v0] sf' h (own_ret q')) (hsf : ∀ x ∈ sf', x ∈ sf) (k : ∀ w h' xs, q' w h' xs → own_WP K M Q pc' Ls (w :: rest) (xs ++ sf) h' (cs + M'.R.cells) (sl + M'.R.slots)) :
    own_WP K M Q pc Ls (v0 :: rest) sf h cs sl := own_static (argsL := [v0]) hd hp w1 w2 w3 w4 hy hsz hlen rfl hf hl hc hs hM hsf (fun v h' xs ⟨w, e, q⟩ => by subst e; exact k w h' xs q)
theorem own_static2v {index : Nat} {v0 v1 : Value} {q' : Value → Heap → List Addr → Prop} (hd : decode M.b pc = .ok (.invokestatic index, 3)) (hp : pc + 3 = pc') (w1 : (Jvm.Cond.methodLink M.y.cls index M'.y).before a0 K.Z = true) (w2 : (Jvm.Cond.static M'.y).before a0 K.Z = true) (w3 : (Jvm.Cond.initialized M'.y.cls).before a0 K.Z = true) (w4 : (Jvm.Cond.code M'.y M'.b M'.mx M'.ret).before a0 K.Z = true) (hy : M'.y.cls ≠ "java/lang/invoke/MethodHandle" ∧ M'.y.cls ≠ "java/lang/invoke/VarHandle") (hsz : Ls.length = M.mx) (hlen : ∀ sig, parseMethodDescriptor M'.y.desc = some sig → 2 = sig.parameters.length)
    (hf : Nat.ble (M'.R.frames + 1) M.R.frames = true) (hl : Nat.ble ((rest.map fun v => v.category).sum + (M'.mx + 11) + M'.R.locals) M.R.locals = true) (hc : Nat.ble (cs + M'.R.cells) M.R.cells = true) (hs : Nat.ble (sl + M'.R.slots) M.R.slots = true) (hM : own_Met K M' #[v0, v1] sf' h (own_ret q')) (hsf : ∀ x ∈ sf', x ∈ sf) (k : ∀ w h' xs, q' w h' xs → own_WP K M Q pc' Ls (w :: rest) (xs ++ sf) h' (cs + M'.R.cells) (sl + M'.R.slots)) :
    own_WP K M Q pc Ls (v1 :: v0 :: rest) sf h cs sl := own_static (argsL := [v0, v1]) hd hp w1 w2 w3 w4 hy hsz hlen rfl hf hl hc hs hM hsf (fun v h' xs ⟨w, e, q⟩ => by subst e; exact k w h' xs q)
theorem own_static2n {index : Nat} {v0 v1 : Value} {q' : Heap → List Addr → Prop} (hd : decode M.b pc = .ok (.invokestatic index, 3)) (hp : pc + 3 = pc') (w1 : (Jvm.Cond.methodLink M.y.cls index M'.y).before a0 K.Z = true) (w2 : (Jvm.Cond.static M'.y).before a0 K.Z = true) (w3 : (Jvm.Cond.initialized M'.y.cls).before a0 K.Z = true) (w4 : (Jvm.Cond.code M'.y M'.b M'.mx M'.ret).before a0 K.Z = true) (hy : M'.y.cls ≠ "java/lang/invoke/MethodHandle" ∧ M'.y.cls ≠ "java/lang/invoke/VarHandle") (hsz : Ls.length = M.mx) (hlen : ∀ sig, parseMethodDescriptor M'.y.desc = some sig → 2 = sig.parameters.length)
    (hf : Nat.ble (M'.R.frames + 1) M.R.frames = true) (hl : Nat.ble ((rest.map fun v => v.category).sum + (M'.mx + 11) + M'.R.locals) M.R.locals = true) (hc : Nat.ble (cs + M'.R.cells) M.R.cells = true) (hs : Nat.ble (sl + M'.R.slots) M.R.slots = true) (hM : own_Met K M' #[v0, v1] sf' h (own_void q')) (hsf : ∀ x ∈ sf', x ∈ sf) (k : ∀ h' xs, q' h' xs → own_WP K M Q pc' Ls rest (xs ++ sf) h' (cs + M'.R.cells) (sl + M'.R.slots)) :
    own_WP K M Q pc Ls (v1 :: v0 :: rest) sf h cs sl := own_static (argsL := [v0, v1]) hd hp w1 w2 w3 w4 hy hsz hlen rfl hf hl hc hs hM hsf (fun v h' xs ⟨e, q⟩ => by subst e; exact k h' xs q)
theorem own_static3v {index : Nat} {v0 v1 v2 : Value} {q' : Value → Heap → List Addr → Prop} (hd : decode M.b pc = .ok (.invokestatic index, 3)) (hp : pc + 3 = pc') (w1 : (Jvm.Cond.methodLink M.y.cls index M'.y).before a0 K.Z = true) (w2 : (Jvm.Cond.static M'.y).before a0 K.Z = true) (w3 : (Jvm.Cond.initialized M'.y.cls).before a0 K.Z = true) (w4 : (Jvm.Cond.code M'.y M'.b M'.mx M'.ret).before a0 K.Z = true) (hy : M'.y.cls ≠ "java/lang/invoke/MethodHandle" ∧ M'.y.cls ≠ "java/lang/invoke/VarHandle") (hsz : Ls.length = M.mx) (hlen : ∀ sig, parseMethodDescriptor M'.y.desc = some sig → 3 = sig.parameters.length)
    (hf : Nat.ble (M'.R.frames + 1) M.R.frames = true) (hl : Nat.ble ((rest.map fun v => v.category).sum + (M'.mx + 11) + M'.R.locals) M.R.locals = true) (hc : Nat.ble (cs + M'.R.cells) M.R.cells = true) (hs : Nat.ble (sl + M'.R.slots) M.R.slots = true) (hM : own_Met K M' #[v0, v1, v2] sf' h (own_ret q')) (hsf : ∀ x ∈ sf', x ∈ sf) (k : ∀ w h' xs, q' w h' xs → own_WP K M Q pc' Ls (w :: rest) (xs ++ sf) h' (cs + M'.R.cells) (sl + M'.R.slots)) :
    own_WP K M Q pc Ls (v2 :: v1 :: v0 :: rest) sf h cs sl := own_static (argsL := [v0, v1, v2]) hd hp w1 w2 w3 w4 hy hsz hlen rfl hf hl hc hs hM hsf (fun v h' xs ⟨w, e, q⟩ => by subst e; exact k w h' xs q)
theorem own_static3n {index : Nat} {v0 v1 v2 : Value} {q' : Heap → List Addr → Prop} (hd : decode M.b pc = .ok (.invokestatic index, 3)) (hp : pc + 3 = pc') (w1 : (Jvm.Cond.methodLink M.y.cls index M'.y).before a0 K.Z = true) (w2 : (Jvm.Cond.static M'.y).before a0 K.Z = true) (w3 : (Jvm.Cond.initialized M'.y.cls).before a0 K.Z = true) (w4 : (Jvm.Cond.code M'.y M'.b M'.mx M'.ret).before a0 K.Z = true) (hy : M'.y.cls ≠ "java/lang/invoke/MethodHandle" ∧ M'.y.cls ≠ "java/lang/invoke/VarHandle") (hsz : Ls.length = M.mx) (hlen : ∀ sig, parseMethodDescriptor M'.y.desc = some sig → 3 = sig.parameters.length)
    (hf : Nat.ble (M'.R.frames + 1) M.R.frames = true) (hl : Nat.ble ((rest.map fun v => v.category).sum + (M'.mx + 11) + M'.R.locals) M.R.locals = true) (hc : Nat.ble (cs + M'.R.cells) M.R.cells = true) (hs : Nat.ble (sl + M'.R.slots) M.R.slots = true) (hM : own_Met K M' #[v0, v1, v2] sf' h (own_void q')) (hsf : ∀ x ∈ sf', x ∈ sf) (k : ∀ h' xs, q' h' xs → own_WP K M Q pc' Ls rest (xs ++ sf) h' (cs + M'.R.cells) (sl + M'.R.slots)) :
    own_WP K M Q pc Ls (v2 :: v1 :: v0 :: rest) sf h cs sl := own_static (argsL := [v0, v1, v2]) hd hp w1 w2 w3 w4 hy hsz hlen rfl hf hl hc hs hM hsf (fun v h' xs ⟨e, q⟩ => by subst e; exact k h' xs q)
theorem own_static4v {index : Nat} {v0 v1 v2 v3 : Value} {q' : Value → Heap → List Addr → Prop} (hd : decode M.b pc = .ok (.invokestatic index, 3)) (hp : pc + 3 = pc') (w1 : (Jvm.Cond.methodLink M.y.cls index M'.y).before a0 K.Z = true) (w2 : (Jvm.Cond.static M'.y).before a0 K.Z = true) (w3 : (Jvm.Cond.initialized M'.y.cls).before a0 K.Z = true) (w4 : (Jvm.Cond.code M'.y M'.b M'.mx M'.ret).before a0 K.Z = true) (hy : M'.y.cls ≠ "java/lang/invoke/MethodHandle" ∧ M'.y.cls ≠ "java/lang/invoke/VarHandle") (hsz : Ls.length = M.mx) (hlen : ∀ sig, parseMethodDescriptor M'.y.desc = some sig → 4 = sig.parameters.length)
    (hf : Nat.ble (M'.R.frames + 1) M.R.frames = true) (hl : Nat.ble ((rest.map fun v => v.category).sum + (M'.mx + 11) + M'.R.locals) M.R.locals = true) (hc : Nat.ble (cs + M'.R.cells) M.R.cells = true) (hs : Nat.ble (sl + M'.R.slots) M.R.slots = true) (hM : own_Met K M' #[v0, v1, v2, v3] sf' h (own_ret q')) (hsf : ∀ x ∈ sf', x ∈ sf) (k : ∀ w h' xs, q' w h' xs → own_WP K M Q pc' Ls (w :: rest) (xs ++ sf) h' (cs + M'.R.cells) (sl + M'.R.slots)) :
    own_WP K M Q pc Ls (v3 :: v2 :: v1 :: v0 :: rest) sf h cs sl := own_static (argsL := [v0, v1, v2, v3]) hd hp w1 w2 w3 w4 hy hsz hlen rfl hf hl hc hs hM hsf (fun v h' xs ⟨w, e, q⟩ => by subst e; exact k w h' xs q)
theorem own_static5v {index : Nat} {v0 v1 v2 v3 v4 : Value} {q' : Value → Heap → List Addr → Prop} (hd : decode M.b pc = .ok (.invokestatic index, 3)) (hp : pc + 3 = pc') (w1 : (Jvm.Cond.methodLink M.y.cls index M'.y).before a0 K.Z = true) (w2 : (Jvm.Cond.static M'.y).before a0 K.Z = true) (w3 : (Jvm.Cond.initialized M'.y.cls).before a0 K.Z = true) (w4 : (Jvm.Cond.code M'.y M'.b M'.mx M'.ret).before a0 K.Z = true) (hy : M'.y.cls ≠ "java/lang/invoke/MethodHandle" ∧ M'.y.cls ≠ "java/lang/invoke/VarHandle") (hsz : Ls.length = M.mx) (hlen : ∀ sig, parseMethodDescriptor M'.y.desc = some sig → 5 = sig.parameters.length)
    (hf : Nat.ble (M'.R.frames + 1) M.R.frames = true) (hl : Nat.ble ((rest.map fun v => v.category).sum + (M'.mx + 11) + M'.R.locals) M.R.locals = true) (hc : Nat.ble (cs + M'.R.cells) M.R.cells = true) (hs : Nat.ble (sl + M'.R.slots) M.R.slots = true) (hM : own_Met K M' #[v0, v1, v2, v3, v4] sf' h (own_ret q')) (hsf : ∀ x ∈ sf', x ∈ sf) (k : ∀ w h' xs, q' w h' xs → own_WP K M Q pc' Ls (w :: rest) (xs ++ sf) h' (cs + M'.R.cells) (sl + M'.R.slots)) :
    own_WP K M Q pc Ls (v4 :: v3 :: v2 :: v1 :: v0 :: rest) sf h cs sl := own_static (argsL := [v0, v1, v2, v3, v4]) hd hp w1 w2 w3 w4 hy hsz hlen rfl hf hl hc hs hM hsf (fun v h' xs ⟨w, e, q⟩ => by subst e; exact k w h' xs q)
theorem own_special1n {index : Nat} {a : Addr} {v0 : Value} {q' : Heap → List Addr → Prop} (hd : decode M.b pc = .ok (.invokespecial index, 3)) (hp : pc + 3 = pc') (hn : M'.y.name = "<init>") (hrt : M'.ret = none) (w1 : (Jvm.Cond.methodLink M.y.cls index M'.y).before a0 K.Z = true) (w2 : (Jvm.Cond.instanceMethod M'.y).before a0 K.Z = true) (w3 : (Jvm.Cond.initialized M'.y.cls).before a0 K.Z = true) (w4 : (Jvm.Cond.code M'.y M'.b M'.mx M'.ret).before a0 K.Z = true) (hy : M'.y.cls ≠ "java/lang/invoke/MethodHandle" ∧ M'.y.cls ≠ "java/lang/invoke/VarHandle") (hsz : Ls.length = M.mx) (hlen : ∀ sig, parseMethodDescriptor M'.y.desc = some sig → 1 = sig.parameters.length)
    (hf : Nat.ble (M'.R.frames + 1) M.R.frames = true) (hl : Nat.ble ((rest.map fun v => v.category).sum + (M'.mx + 11) + M'.R.locals) M.R.locals = true) (hc : Nat.ble (cs + M'.R.cells) M.R.cells = true) (hs : Nat.ble (sl + M'.R.slots) M.R.slots = true) (hM : own_Met K M' #[.ref a, v0] sf' h (own_void q')) (hsf : ∀ x ∈ sf', x ∈ sf) (k : ∀ h' xs, q' h' xs → own_WP K M Q pc' Ls rest (xs ++ sf) h' (cs + M'.R.cells) (sl + M'.R.slots)) :
    own_WP K M Q pc Ls (v0 :: .ref a :: rest) sf h cs sl := own_special (argsL := [v0]) hd hp hn hrt w1 w2 w3 w4 hy hsz hlen rfl hf hl hc hs hM hsf (fun v h' xs ⟨e, q⟩ => by subst e; exact k h' xs q)
theorem own_special4n {index : Nat} {a : Addr} {v0 v1 v2 v3 : Value} {q' : Heap → List Addr → Prop} (hd : decode M.b pc = .ok (.invokespecial index, 3)) (hp : pc + 3 = pc') (hn : M'.y.name = "<init>") (hrt : M'.ret = none) (w1 : (Jvm.Cond.methodLink M.y.cls index M'.y).before a0 K.Z = true) (w2 : (Jvm.Cond.instanceMethod M'.y).before a0 K.Z = true) (w3 : (Jvm.Cond.initialized M'.y.cls).before a0 K.Z = true) (w4 : (Jvm.Cond.code M'.y M'.b M'.mx M'.ret).before a0 K.Z = true) (hy : M'.y.cls ≠ "java/lang/invoke/MethodHandle" ∧ M'.y.cls ≠ "java/lang/invoke/VarHandle") (hsz : Ls.length = M.mx) (hlen : ∀ sig, parseMethodDescriptor M'.y.desc = some sig → 4 = sig.parameters.length)
    (hf : Nat.ble (M'.R.frames + 1) M.R.frames = true) (hl : Nat.ble ((rest.map fun v => v.category).sum + (M'.mx + 11) + M'.R.locals) M.R.locals = true) (hc : Nat.ble (cs + M'.R.cells) M.R.cells = true) (hs : Nat.ble (sl + M'.R.slots) M.R.slots = true) (hM : own_Met K M' #[.ref a, v0, v1, v2, v3] sf' h (own_void q')) (hsf : ∀ x ∈ sf', x ∈ sf) (k : ∀ h' xs, q' h' xs → own_WP K M Q pc' Ls rest (xs ++ sf) h' (cs + M'.R.cells) (sl + M'.R.slots)) :
    own_WP K M Q pc Ls (v3 :: v2 :: v1 :: v0 :: .ref a :: rest) sf h cs sl := own_special (argsL := [v0, v1, v2, v3]) hd hp hn hrt w1 w2 w3 w4 hy hsz hlen rfl hf hl hc hs hM hsf (fun v h' xs ⟨e, q⟩ => by subst e; exact k h' xs q)
theorem own_virtual0v {index : Nat} {a : Addr} {C : String} {q' : Value → Heap → List Addr → Prop} (hd : decode M.b pc = .ok (.invokevirtual index, 3)) (hp : pc + 3 = pc') (w1 : (Jvm.Cond.methodLink M.y.cls index M'.y).before a0 K.Z = true) (w2 : (Jvm.Cond.declares M'.y).before a0 K.Z = true) (w5 : (Jvm.Cond.selects C M'.y M'.y).before a0 K.Z = true) (w6 : (Jvm.Cond.instanceMethod M'.y).before a0 K.Z = true) (w3 : (Jvm.Cond.initialized M'.y.cls).before a0 K.Z = true) (w4 : (Jvm.Cond.code M'.y M'.b M'.mx M'.ret).before a0 K.Z = true) (hy : M'.y.cls ≠ "java/lang/invoke/MethodHandle" ∧ M'.y.cls ≠ "java/lang/invoke/VarHandle") (hsz : Ls.length = M.mx) (hlen : ∀ sig, parseMethodDescriptor M'.y.desc = some sig → 0 = sig.parameters.length)
    (hf : Nat.ble (M'.R.frames + 1) M.R.frames = true) (hl : Nat.ble ((rest.map fun v => v.category).sum + (M'.mx + 11) + M'.R.locals) M.R.locals = true) (hc : Nat.ble (cs + M'.R.cells) M.R.cells = true) (hs : Nat.ble (sl + M'.R.slots) M.R.slots = true) (E : Exa K.Z h a C) (hM : own_Met K M' #[.ref a] sf' h (own_ret q')) (hsf : ∀ x ∈ sf', x ∈ sf) (k : ∀ w h' xs, q' w h' xs → own_WP K M Q pc' Ls (w :: rest) (xs ++ sf) h' (cs + M'.R.cells) (sl + M'.R.slots)) :
    own_WP K M Q pc Ls (.ref a :: rest) sf h cs sl := own_virtual (argsL := []) hd hp w1 w2 w5 w6 w3 w4 hy hsz hlen rfl hf hl hc hs E hM hsf (fun v h' xs ⟨w, e, q⟩ => by subst e; exact k w h' xs q)
theorem own_virtual1v {index : Nat} {a : Addr} {C : String} {v0 : Value} {q' : Value → Heap → List Addr → Prop} (hd : decode M.b pc = .ok (.invokevirtual index, 3)) (hp : pc + 3 = pc') (w1 : (Jvm.Cond.methodLink M.y.cls index M'.y).before a0 K.Z = true) (w2 : (Jvm.Cond.declares M'.y).before a0 K.Z = true) (w5 : (Jvm.Cond.selects C M'.y M'.y).before a0 K.Z = true) (w6 : (Jvm.Cond.instanceMethod M'.y).before a0 K.Z = true) (w3 : (Jvm.Cond.initialized M'.y.cls).before a0 K.Z = true) (w4 : (Jvm.Cond.code M'.y M'.b M'.mx M'.ret).before a0 K.Z = true) (hy : M'.y.cls ≠ "java/lang/invoke/MethodHandle" ∧ M'.y.cls ≠ "java/lang/invoke/VarHandle") (hsz : Ls.length = M.mx) (hlen : ∀ sig, parseMethodDescriptor M'.y.desc = some sig → 1 = sig.parameters.length)
    (hf : Nat.ble (M'.R.frames + 1) M.R.frames = true) (hl : Nat.ble ((rest.map fun v => v.category).sum + (M'.mx + 11) + M'.R.locals) M.R.locals = true) (hc : Nat.ble (cs + M'.R.cells) M.R.cells = true) (hs : Nat.ble (sl + M'.R.slots) M.R.slots = true) (E : Exa K.Z h a C) (hM : own_Met K M' #[.ref a, v0] sf' h (own_ret q')) (hsf : ∀ x ∈ sf', x ∈ sf) (k : ∀ w h' xs, q' w h' xs → own_WP K M Q pc' Ls (w :: rest) (xs ++ sf) h' (cs + M'.R.cells) (sl + M'.R.slots)) :
    own_WP K M Q pc Ls (v0 :: .ref a :: rest) sf h cs sl := own_virtual (argsL := [v0]) hd hp w1 w2 w5 w6 w3 w4 hy hsz hlen rfl hf hl hc hs E hM hsf (fun v h' xs ⟨w, e, q⟩ => by subst e; exact k w h' xs q)
end Calls
section Plain
variable {K : own_Cx} {M : own_Mi} {Q : own_Q} {pc pc' : Nat} {Ls : List Slot} {St : List Value} {sf : List Addr} {h : Heap} {cs sl : Nat} {a0 : Array Value}
theorem own_get {α : Type} {L : List α} {k : Nat} {v : α} (q : L[k]? = some v) : L.toArray[k]? = some v := by simpa using q
theorem own_aload_n {i : Fin 4} {v : Value} (hp : pc + 1 = pc') (hd : decode M.b pc = .ok (.aload_n i, 1)) (hl : Ls[i.val]? = some (.val v)) (hv : v.isRef = true) (k : own_WP K M Q pc' Ls (v :: St) sf h cs sl) : own_WP K M Q pc Ls St sf h cs sl :=
  own_step k fun p e s m args below meth c T locs cs' sl' B X eT t q => XS.aloadN X.here B.1 rfl (hb B.2.1 hd) (own_get hl) hv (by subst hp; exact q)
theorem own_aload {i : Nat} {v : Value} (hp : pc + 2 = pc') (hd : decode M.b pc = .ok (.aload i, 2)) (hl : Ls[i]? = some (.val v)) (hv : v.isRef = true) (k : own_WP K M Q pc' Ls (v :: St) sf h cs sl) : own_WP K M Q pc Ls St sf h cs sl :=
  own_step k fun p e s m args below meth c T locs cs' sl' B X eT t q => XS.aload X.here B.1 rfl (hb B.2.1 hd) (own_get hl) hv (by subst hp; exact q)
theorem own_iload_n {i : Fin 4} {v : Int32} (hp : pc + 1 = pc') (hd : decode M.b pc = .ok (.iload_n i, 1)) (hl : Ls[i.val]? = some (.val (.int v))) (k : own_WP K M Q pc' Ls (.int v :: St) sf h cs sl) : own_WP K M Q pc Ls St sf h cs sl :=
  own_step k fun p e s m args below meth c T locs cs' sl' B X eT t q => XS.iloadN X.here B.1 rfl (hb B.2.1 hd) (own_get hl) (by subst hp; exact q)
theorem own_iload {i : Nat} {v : Int32} (hp : pc + 2 = pc') (hd : decode M.b pc = .ok (.iload i, 2)) (hl : Ls[i]? = some (.val (.int v))) (k : own_WP K M Q pc' Ls (.int v :: St) sf h cs sl) : own_WP K M Q pc Ls St sf h cs sl :=
  own_step k fun p e s m args below meth c T locs cs' sl' B X eT t q => XS.iload X.here B.1 rfl (hb B.2.1 hd) (own_get hl) (by subst hp; exact q)
theorem own_iconst {i : Int} {v : Int32} (hp : pc + 1 = pc') (hd : decode M.b pc = .ok (.iconst i, 1)) (hv : Int32.ofInt i = v) (k : own_WP K M Q pc' Ls (.int v :: St) sf h cs sl) : own_WP K M Q pc Ls St sf h cs sl :=
  own_step k fun p e s m args below meth c T locs cs' sl' B X eT t q => XS.iconst X.here B.1 rfl (hb B.2.1 hd) (by subst hp hv; exact q)
theorem own_bipush {i : Int} {v : Int32} (hp : pc + 2 = pc') (hd : decode M.b pc = .ok (.bipush i, 2)) (hv : (Int8.ofInt i).toInt32 = v) (k : own_WP K M Q pc' Ls (.int v :: St) sf h cs sl) : own_WP K M Q pc Ls St sf h cs sl :=
  own_step k fun p e s m args below meth c T locs cs' sl' B X eT t q => XS.bipush X.here B.1 rfl (hb B.2.1 hd) (by subst hp hv; exact q)
theorem own_sipush {i : Int} {v : Int32} (hp : pc + 3 = pc') (hd : decode M.b pc = .ok (.sipush i, 3)) (hv : (Int16.ofInt i).toInt32 = v) (k : own_WP K M Q pc' Ls (.int v :: St) sf h cs sl) : own_WP K M Q pc Ls St sf h cs sl :=
  own_step k fun p e s m args below meth c T locs cs' sl' B X eT t q => XS.sipush X.here B.1 rfl (hb B.2.1 hd) (by subst hp hv; exact q)
theorem own_aconst_null (hp : pc + 1 = pc') (hd : decode M.b pc = .ok (.aconst_null, 1)) (k : own_WP K M Q pc' Ls (.null :: St) sf h cs sl) : own_WP K M Q pc Ls St sf h cs sl :=
  own_step k fun p e s m args below meth c T locs cs' sl' B X eT t q => XS.aconstNull X.here B.1 rfl (hb B.2.1 hd) (by subst hp; exact q)
theorem own_iadd {x y : Int32} (hp : pc + 1 = pc') (hd : decode M.b pc = .ok (.iadd, 1)) (k : own_WP K M Q pc' Ls (.int (x + y) :: St) sf h cs sl) : own_WP K M Q pc Ls (.int y :: .int x :: St) sf h cs sl :=
  own_step k fun p e s m args below meth c T locs cs' sl' B X eT t q => XS.iadd X.here B.1 rfl (hb B.2.1 hd) rfl (by subst hp; exact q)
theorem own_isub {x y : Int32} (hp : pc + 1 = pc') (hd : decode M.b pc = .ok (.isub, 1)) (k : own_WP K M Q pc' Ls (.int (x - y) :: St) sf h cs sl) : own_WP K M Q pc Ls (.int y :: .int x :: St) sf h cs sl :=
  own_step k fun p e s m args below meth c T locs cs' sl' B X eT t q => XS.isub X.here B.1 rfl (hb B.2.1 hd) rfl (by subst hp; exact q)
theorem own_iand {x y : Int32} (hp : pc + 1 = pc') (hd : decode M.b pc = .ok (.iand, 1)) (k : own_WP K M Q pc' Ls (.int (x &&& y) :: St) sf h cs sl) : own_WP K M Q pc Ls (.int y :: .int x :: St) sf h cs sl :=
  own_step k fun p e s m args below meth c T locs cs' sl' B X eT t q => XS.iand X.here B.1 rfl (hb B.2.1 hd) rfl (by subst hp; exact q)
theorem own_ior {x y : Int32} (hp : pc + 1 = pc') (hd : decode M.b pc = .ok (.ior, 1)) (k : own_WP K M Q pc' Ls (.int (x ||| y) :: St) sf h cs sl) : own_WP K M Q pc Ls (.int y :: .int x :: St) sf h cs sl :=
  own_step k fun p e s m args below meth c T locs cs' sl' B X eT t q => XS.ior X.here B.1 rfl (hb B.2.1 hd) rfl (by subst hp; exact q)
theorem own_ishl {x y : Int32} (hp : pc + 1 = pc') (hd : decode M.b pc = .ok (.ishl, 1)) (k : own_WP K M Q pc' Ls (.int (x <<< (y &&& 31)) :: St) sf h cs sl) : own_WP K M Q pc Ls (.int y :: .int x :: St) sf h cs sl :=
  own_step k fun p e s m args below meth c T locs cs' sl' B X eT t q => XS.ishl X.here B.1 rfl (hb B.2.1 hd) rfl (by subst hp; exact q)
theorem own_ishr {x y : Int32} (hp : pc + 1 = pc') (hd : decode M.b pc = .ok (.ishr, 1)) (k : own_WP K M Q pc' Ls (.int (x >>> (y &&& 31)) :: St) sf h cs sl) : own_WP K M Q pc Ls (.int y :: .int x :: St) sf h cs sl :=
  own_step k fun p e s m args below meth c T locs cs' sl' B X eT t q => XS.ishr X.here B.1 rfl (hb B.2.1 hd) rfl (by subst hp; exact q)
theorem own_iushr {x y : Int32} (hp : pc + 1 = pc') (hd : decode M.b pc = .ok (.iushr, 1)) (k : own_WP K M Q pc' Ls (.int (XT.ushr x y) :: St) sf h cs sl) : own_WP K M Q pc Ls (.int y :: .int x :: St) sf h cs sl :=
  own_step k fun p e s m args below meth c T locs cs' sl' B X eT t q => XT.iushr X.here B.1 rfl (hb B.2.1 hd) rfl (by subst hp; exact q)
theorem own_i2b {x : Int32} (hp : pc + 1 = pc') (hd : decode M.b pc = .ok (.i2b, 1)) (k : own_WP K M Q pc' Ls (.int (x.toInt8.toInt32) :: St) sf h cs sl) : own_WP K M Q pc Ls (.int x :: St) sf h cs sl :=
  own_step k fun p e s m args below meth c T locs cs' sl' B X eT t q => XS.i2b X.here B.1 rfl (hb B.2.1 hd) rfl (by subst hp; exact q)
theorem own_i2c {x : Int32} (hp : pc + 1 = pc') (hd : decode M.b pc = .ok (.i2c, 1)) (k : own_WP K M Q pc' Ls (.int (x.toUInt32.toUInt16.toUInt32.toInt32) :: St) sf h cs sl) : own_WP K M Q pc Ls (.int x :: St) sf h cs sl :=
  own_step k fun p e s m args below meth c T locs cs' sl' B X eT t q => XS.i2c X.here B.1 rfl (hb B.2.1 hd) rfl (by subst hp; exact q)
theorem own_dup {x : Value} (hp : pc + 1 = pc') (hd : decode M.b pc = .ok (.dup, 1)) (hc : x.category = 1) (k : own_WP K M Q pc' Ls (x :: x :: St) sf h cs sl) : own_WP K M Q pc Ls (x :: St) sf h cs sl :=
  own_step k fun p e s m args below meth c T locs cs' sl' B X eT t q => XS.dup X.here B.1 rfl (hb B.2.1 hd) rfl hc (by subst hp; exact q)
theorem own_pop {x : Value} (hp : pc + 1 = pc') (hd : decode M.b pc = .ok (.pop, 1)) (hc : x.category = 1) (k : own_WP K M Q pc' Ls St sf h cs sl) : own_WP K M Q pc Ls (x :: St) sf h cs sl :=
  own_step k fun p e s m args below meth c T locs cs' sl' B X eT t q => XS.pop X.here B.1 rfl (hb B.2.1 hd) rfl hc (by subst hp; exact q)
theorem own_store {Ls : List Slot} {i : Nat} {v : Value} {o : Slot} (ho : One o) (hv : v.category = 1) (hold : Ls[i]? = some o) : storeLocals Ls.toArray i v = some (Ls.set i (.val v)).toArray := by
  rw [XS.store1 (own_get hold) ho hv]; simp
theorem own_istore_n1 {u0 o : Slot} {r : List Slot} {x : Int32} (hp : pc + 1 = pc') (hd : decode M.b pc = .ok (.istore_n 1, 1)) (ho : One o) (k : own_WP K M Q pc' (u0 :: .val (.int x) :: r) St sf h cs sl) : own_WP K M Q pc (u0 :: o :: r) (.int x :: St) sf h cs sl :=
  own_step k fun p e s m args below meth c T locs cs' sl' B X eT t q => XS.istoreN X.here B.1 rfl (hb B.2.1 hd) rfl (own_store (Ls := u0 :: o :: r) (i := 1) ho rfl rfl) (by subst hp; exact q)
theorem own_iinc_1 {u0 : Slot} {r : List Slot} {x : Int32} {cst : Int} {z : Int32} (hp : pc + 3 = pc') (hd : decode M.b pc = .ok (.iinc 1 cst, 3)) (hz : Int32.ofInt cst = z) (k : own_WP K M Q pc' (u0 :: .val (.int (x + z)) :: r) St sf h cs sl) : own_WP K M Q pc (u0 :: .val (.int x) :: r) St sf h cs sl :=
  own_step k fun p e s m args below meth c T locs cs' sl' B X eT t q => XS.iinc X.here B.1 rfl (hb B.2.1 hd) (x := x) (own_get (L := u0 :: .val (.int x) :: r) (k := 1) rfl) (own_store (Ls := u0 :: .val (.int x) :: r) (i := 1) (One.val rfl) rfl rfl) (by subst hp hz; exact q)
theorem own_istore_n2 {u0 u1 o : Slot} {r : List Slot} {x : Int32} (hp : pc + 1 = pc') (hd : decode M.b pc = .ok (.istore_n 2, 1)) (ho : One o) (k : own_WP K M Q pc' (u0 :: u1 :: .val (.int x) :: r) St sf h cs sl) : own_WP K M Q pc (u0 :: u1 :: o :: r) (.int x :: St) sf h cs sl :=
  own_step k fun p e s m args below meth c T locs cs' sl' B X eT t q => XS.istoreN X.here B.1 rfl (hb B.2.1 hd) rfl (own_store (Ls := u0 :: u1 :: o :: r) (i := 2) ho rfl rfl) (by subst hp; exact q)
theorem own_astore_n2 {u0 u1 o : Slot} {r : List Slot} {x : Value} (hp : pc + 1 = pc') (hd : decode M.b pc = .ok (.astore_n 2, 1)) (ho : One o) (hv : x.isRef = true) (k : own_WP K M Q pc' (u0 :: u1 :: .val x :: r) St sf h cs sl) : own_WP K M Q pc (u0 :: u1 :: o :: r) (x :: St) sf h cs sl :=
  own_step k fun p e s m args below meth c T locs cs' sl' B X eT t q => XS.astoreN X.here B.1 rfl (hb B.2.1 hd) rfl hv (own_store (Ls := u0 :: u1 :: o :: r) (i := 2) ho (by rcases ref_cases hv with rfl | ⟨_, rfl⟩ <;> rfl) rfl) (by subst hp; exact q)
theorem own_istore_n3 {u0 u1 u2 o : Slot} {r : List Slot} {x : Int32} (hp : pc + 1 = pc') (hd : decode M.b pc = .ok (.istore_n 3, 1)) (ho : One o) (k : own_WP K M Q pc' (u0 :: u1 :: u2 :: .val (.int x) :: r) St sf h cs sl) : own_WP K M Q pc (u0 :: u1 :: u2 :: o :: r) (.int x :: St) sf h cs sl :=
  own_step k fun p e s m args below meth c T locs cs' sl' B X eT t q => XS.istoreN X.here B.1 rfl (hb B.2.1 hd) rfl (own_store (Ls := u0 :: u1 :: u2 :: o :: r) (i := 3) ho rfl rfl) (by subst hp; exact q)
theorem own_astore_n3 {u0 u1 u2 o : Slot} {r : List Slot} {x : Value} (hp : pc + 1 = pc') (hd : decode M.b pc = .ok (.astore_n 3, 1)) (ho : One o) (hv : x.isRef = true) (k : own_WP K M Q pc' (u0 :: u1 :: u2 :: .val x :: r) St sf h cs sl) : own_WP K M Q pc (u0 :: u1 :: u2 :: o :: r) (x :: St) sf h cs sl :=
  own_step k fun p e s m args below meth c T locs cs' sl' B X eT t q => XS.astoreN X.here B.1 rfl (hb B.2.1 hd) rfl hv (own_store (Ls := u0 :: u1 :: u2 :: o :: r) (i := 3) ho (by rcases ref_cases hv with rfl | ⟨_, rfl⟩ <;> rfl) rfl) (by subst hp; exact q)
theorem own_iinc_3 {u0 u1 u2 : Slot} {r : List Slot} {x : Int32} {cst : Int} {z : Int32} (hp : pc + 3 = pc') (hd : decode M.b pc = .ok (.iinc 3 cst, 3)) (hz : Int32.ofInt cst = z) (k : own_WP K M Q pc' (u0 :: u1 :: u2 :: .val (.int (x + z)) :: r) St sf h cs sl) : own_WP K M Q pc (u0 :: u1 :: u2 :: .val (.int x) :: r) St sf h cs sl :=
  own_step k fun p e s m args below meth c T locs cs' sl' B X eT t q => XS.iinc X.here B.1 rfl (hb B.2.1 hd) (x := x) (own_get (L := u0 :: u1 :: u2 :: .val (.int x) :: r) (k := 3) rfl) (own_store (Ls := u0 :: u1 :: u2 :: .val (.int x) :: r) (i := 3) (One.val rfl) rfl rfl) (by subst hp hz; exact q)
theorem own_istore_4 {u0 u1 u2 u3 o : Slot} {r : List Slot} {x : Int32} (hp : pc + 2 = pc') (hd : decode M.b pc = .ok (.istore 4, 2)) (ho : One o) (k : own_WP K M Q pc' (u0 :: u1 :: u2 :: u3 :: .val (.int x) :: r) St sf h cs sl) : own_WP K M Q pc (u0 :: u1 :: u2 :: u3 :: o :: r) (.int x :: St) sf h cs sl :=
  own_step k fun p e s m args below meth c T locs cs' sl' B X eT t q => XS.istore X.here B.1 rfl (hb B.2.1 hd) rfl (own_store (Ls := u0 :: u1 :: u2 :: u3 :: o :: r) (i := 4) ho rfl rfl) (by subst hp; exact q)
theorem own_iinc_4 {u0 u1 u2 u3 : Slot} {r : List Slot} {x : Int32} {cst : Int} {z : Int32} (hp : pc + 3 = pc') (hd : decode M.b pc = .ok (.iinc 4 cst, 3)) (hz : Int32.ofInt cst = z) (k : own_WP K M Q pc' (u0 :: u1 :: u2 :: u3 :: .val (.int (x + z)) :: r) St sf h cs sl) : own_WP K M Q pc (u0 :: u1 :: u2 :: u3 :: .val (.int x) :: r) St sf h cs sl :=
  own_step k fun p e s m args below meth c T locs cs' sl' B X eT t q => XS.iinc X.here B.1 rfl (hb B.2.1 hd) (x := x) (own_get (L := u0 :: u1 :: u2 :: u3 :: .val (.int x) :: r) (k := 4) rfl) (own_store (Ls := u0 :: u1 :: u2 :: u3 :: .val (.int x) :: r) (i := 4) (One.val rfl) rfl rfl) (by subst hp hz; exact q)
theorem own_istore_5 {u0 u1 u2 u3 u4 o : Slot} {r : List Slot} {x : Int32} (hp : pc + 2 = pc') (hd : decode M.b pc = .ok (.istore 5, 2)) (ho : One o) (k : own_WP K M Q pc' (u0 :: u1 :: u2 :: u3 :: u4 :: .val (.int x) :: r) St sf h cs sl) : own_WP K M Q pc (u0 :: u1 :: u2 :: u3 :: u4 :: o :: r) (.int x :: St) sf h cs sl :=
  own_step k fun p e s m args below meth c T locs cs' sl' B X eT t q => XS.istore X.here B.1 rfl (hb B.2.1 hd) rfl (own_store (Ls := u0 :: u1 :: u2 :: u3 :: u4 :: o :: r) (i := 5) ho rfl rfl) (by subst hp; exact q)
theorem own_astore_5 {u0 u1 u2 u3 u4 o : Slot} {r : List Slot} {x : Value} (hp : pc + 2 = pc') (hd : decode M.b pc = .ok (.astore 5, 2)) (ho : One o) (hv : x.isRef = true) (k : own_WP K M Q pc' (u0 :: u1 :: u2 :: u3 :: u4 :: .val x :: r) St sf h cs sl) : own_WP K M Q pc (u0 :: u1 :: u2 :: u3 :: u4 :: o :: r) (x :: St) sf h cs sl :=
  own_step k fun p e s m args below meth c T locs cs' sl' B X eT t q => XS.astore X.here B.1 rfl (hb B.2.1 hd) rfl hv (own_store (Ls := u0 :: u1 :: u2 :: u3 :: u4 :: o :: r) (i := 5) ho (by rcases ref_cases hv with rfl | ⟨_, rfl⟩ <;> rfl) rfl) (by subst hp; exact q)
theorem own_iinc_5 {u0 u1 u2 u3 u4 : Slot} {r : List Slot} {x : Int32} {cst : Int} {z : Int32} (hp : pc + 3 = pc') (hd : decode M.b pc = .ok (.iinc 5 cst, 3)) (hz : Int32.ofInt cst = z) (k : own_WP K M Q pc' (u0 :: u1 :: u2 :: u3 :: u4 :: .val (.int (x + z)) :: r) St sf h cs sl) : own_WP K M Q pc (u0 :: u1 :: u2 :: u3 :: u4 :: .val (.int x) :: r) St sf h cs sl :=
  own_step k fun p e s m args below meth c T locs cs' sl' B X eT t q => XS.iinc X.here B.1 rfl (hb B.2.1 hd) (x := x) (own_get (L := u0 :: u1 :: u2 :: u3 :: u4 :: .val (.int x) :: r) (k := 5) rfl) (own_store (Ls := u0 :: u1 :: u2 :: u3 :: u4 :: .val (.int x) :: r) (i := 5) (One.val rfl) rfl rfl) (by subst hp hz; exact q)
theorem own_istore_6 {u0 u1 u2 u3 u4 u5 o : Slot} {r : List Slot} {x : Int32} (hp : pc + 2 = pc') (hd : decode M.b pc = .ok (.istore 6, 2)) (ho : One o) (k : own_WP K M Q pc' (u0 :: u1 :: u2 :: u3 :: u4 :: u5 :: .val (.int x) :: r) St sf h cs sl) : own_WP K M Q pc (u0 :: u1 :: u2 :: u3 :: u4 :: u5 :: o :: r) (.int x :: St) sf h cs sl :=
  own_step k fun p e s m args below meth c T locs cs' sl' B X eT t q => XS.istore X.here B.1 rfl (hb B.2.1 hd) rfl (own_store (Ls := u0 :: u1 :: u2 :: u3 :: u4 :: u5 :: o :: r) (i := 6) ho rfl rfl) (by subst hp; exact q)
theorem own_istore_7 {u0 u1 u2 u3 u4 u5 u6 o : Slot} {r : List Slot} {x : Int32} (hp : pc + 2 = pc') (hd : decode M.b pc = .ok (.istore 7, 2)) (ho : One o) (k : own_WP K M Q pc' (u0 :: u1 :: u2 :: u3 :: u4 :: u5 :: u6 :: .val (.int x) :: r) St sf h cs sl) : own_WP K M Q pc (u0 :: u1 :: u2 :: u3 :: u4 :: u5 :: u6 :: o :: r) (.int x :: St) sf h cs sl :=
  own_step k fun p e s m args below meth c T locs cs' sl' B X eT t q => XS.istore X.here B.1 rfl (hb B.2.1 hd) rfl (own_store (Ls := u0 :: u1 :: u2 :: u3 :: u4 :: u5 :: u6 :: o :: r) (i := 7) ho rfl rfl) (by subst hp; exact q)
theorem own_istore_8 {u0 u1 u2 u3 u4 u5 u6 u7 o : Slot} {r : List Slot} {x : Int32} (hp : pc + 2 = pc') (hd : decode M.b pc = .ok (.istore 8, 2)) (ho : One o) (k : own_WP K M Q pc' (u0 :: u1 :: u2 :: u3 :: u4 :: u5 :: u6 :: u7 :: .val (.int x) :: r) St sf h cs sl) : own_WP K M Q pc (u0 :: u1 :: u2 :: u3 :: u4 :: u5 :: u6 :: u7 :: o :: r) (.int x :: St) sf h cs sl :=
  own_step k fun p e s m args below meth c T locs cs' sl' B X eT t q => XS.istore X.here B.1 rfl (hb B.2.1 hd) rfl (own_store (Ls := u0 :: u1 :: u2 :: u3 :: u4 :: u5 :: u6 :: u7 :: o :: r) (i := 8) ho rfl rfl) (by subst hp; exact q)
theorem own_istore_9 {u0 u1 u2 u3 u4 u5 u6 u7 u8 o : Slot} {r : List Slot} {x : Int32} (hp : pc + 2 = pc') (hd : decode M.b pc = .ok (.istore 9, 2)) (ho : One o) (k : own_WP K M Q pc' (u0 :: u1 :: u2 :: u3 :: u4 :: u5 :: u6 :: u7 :: u8 :: .val (.int x) :: r) St sf h cs sl) : own_WP K M Q pc (u0 :: u1 :: u2 :: u3 :: u4 :: u5 :: u6 :: u7 :: u8 :: o :: r) (.int x :: St) sf h cs sl :=
  own_step k fun p e s m args below meth c T locs cs' sl' B X eT t q => XS.istore X.here B.1 rfl (hb B.2.1 hd) rfl (own_store (Ls := u0 :: u1 :: u2 :: u3 :: u4 :: u5 :: u6 :: u7 :: u8 :: o :: r) (i := 9) ho rfl rfl) (by subst hp; exact q)
theorem own_istore_10 {u0 u1 u2 u3 u4 u5 u6 u7 u8 u9 o : Slot} {r : List Slot} {x : Int32} (hp : pc + 2 = pc') (hd : decode M.b pc = .ok (.istore 10, 2)) (ho : One o) (k : own_WP K M Q pc' (u0 :: u1 :: u2 :: u3 :: u4 :: u5 :: u6 :: u7 :: u8 :: u9 :: .val (.int x) :: r) St sf h cs sl) : own_WP K M Q pc (u0 :: u1 :: u2 :: u3 :: u4 :: u5 :: u6 :: u7 :: u8 :: u9 :: o :: r) (.int x :: St) sf h cs sl :=
  own_step k fun p e s m args below meth c T locs cs' sl' B X eT t q => XS.istore X.here B.1 rfl (hb B.2.1 hd) rfl (own_store (Ls := u0 :: u1 :: u2 :: u3 :: u4 :: u5 :: u6 :: u7 :: u8 :: u9 :: o :: r) (i := 10) ho rfl rfl) (by subst hp; exact q)
theorem own_istore_11 {u0 u1 u2 u3 u4 u5 u6 u7 u8 u9 u10 o : Slot} {r : List Slot} {x : Int32} (hp : pc + 2 = pc') (hd : decode M.b pc = .ok (.istore 11, 2)) (ho : One o) (k : own_WP K M Q pc' (u0 :: u1 :: u2 :: u3 :: u4 :: u5 :: u6 :: u7 :: u8 :: u9 :: u10 :: .val (.int x) :: r) St sf h cs sl) : own_WP K M Q pc (u0 :: u1 :: u2 :: u3 :: u4 :: u5 :: u6 :: u7 :: u8 :: u9 :: u10 :: o :: r) (.int x :: St) sf h cs sl :=
  own_step k fun p e s m args below meth c T locs cs' sl' B X eT t q => XS.istore X.here B.1 rfl (hb B.2.1 hd) rfl (own_store (Ls := u0 :: u1 :: u2 :: u3 :: u4 :: u5 :: u6 :: u7 :: u8 :: u9 :: u10 :: o :: r) (i := 11) ho rfl rfl) (by subst hp; exact q)
theorem own_istore_12 {u0 u1 u2 u3 u4 u5 u6 u7 u8 u9 u10 u11 o : Slot} {r : List Slot} {x : Int32} (hp : pc + 2 = pc') (hd : decode M.b pc = .ok (.istore 12, 2)) (ho : One o) (k : own_WP K M Q pc' (u0 :: u1 :: u2 :: u3 :: u4 :: u5 :: u6 :: u7 :: u8 :: u9 :: u10 :: u11 :: .val (.int x) :: r) St sf h cs sl) : own_WP K M Q pc (u0 :: u1 :: u2 :: u3 :: u4 :: u5 :: u6 :: u7 :: u8 :: u9 :: u10 :: u11 :: o :: r) (.int x :: St) sf h cs sl :=
  own_step k fun p e s m args below meth c T locs cs' sl' B X eT t q => XS.istore X.here B.1 rfl (hb B.2.1 hd) rfl (own_store (Ls := u0 :: u1 :: u2 :: u3 :: u4 :: u5 :: u6 :: u7 :: u8 :: u9 :: u10 :: u11 :: o :: r) (i := 12) ho rfl rfl) (by subst hp; exact q)
theorem own_istore_13 {u0 u1 u2 u3 u4 u5 u6 u7 u8 u9 u10 u11 u12 o : Slot} {r : List Slot} {x : Int32} (hp : pc + 2 = pc') (hd : decode M.b pc = .ok (.istore 13, 2)) (ho : One o) (k : own_WP K M Q pc' (u0 :: u1 :: u2 :: u3 :: u4 :: u5 :: u6 :: u7 :: u8 :: u9 :: u10 :: u11 :: u12 :: .val (.int x) :: r) St sf h cs sl) : own_WP K M Q pc (u0 :: u1 :: u2 :: u3 :: u4 :: u5 :: u6 :: u7 :: u8 :: u9 :: u10 :: u11 :: u12 :: o :: r) (.int x :: St) sf h cs sl :=
  own_step k fun p e s m args below meth c T locs cs' sl' B X eT t q => XS.istore X.here B.1 rfl (hb B.2.1 hd) rfl (own_store (Ls := u0 :: u1 :: u2 :: u3 :: u4 :: u5 :: u6 :: u7 :: u8 :: u9 :: u10 :: u11 :: u12 :: o :: r) (i := 13) ho rfl rfl) (by subst hp; exact q)
theorem own_astore_14 {u0 u1 u2 u3 u4 u5 u6 u7 u8 u9 u10 u11 u12 u13 o : Slot} {r : List Slot} {x : Value} (hp : pc + 2 = pc') (hd : decode M.b pc = .ok (.astore 14, 2)) (ho : One o) (hv : x.isRef = true) (k : own_WP K M Q pc' (u0 :: u1 :: u2 :: u3 :: u4 :: u5 :: u6 :: u7 :: u8 :: u9 :: u10 :: u11 :: u12 :: u13 :: .val x :: r) St sf h cs sl) : own_WP K M Q pc (u0 :: u1 :: u2 :: u3 :: u4 :: u5 :: u6 :: u7 :: u8 :: u9 :: u10 :: u11 :: u12 :: u13 :: o :: r) (x :: St) sf h cs sl :=
  own_step k fun p e s m args below meth c T locs cs' sl' B X eT t q => XS.astore X.here B.1 rfl (hb B.2.1 hd) rfl hv (own_store (Ls := u0 :: u1 :: u2 :: u3 :: u4 :: u5 :: u6 :: u7 :: u8 :: u9 :: u10 :: u11 :: u12 :: u13 :: o :: r) (i := 14) ho (by rcases ref_cases hv with rfl | ⟨_, rfl⟩ <;> rfl) rfl) (by subst hp; exact q)
theorem own_astore_15 {u0 u1 u2 u3 u4 u5 u6 u7 u8 u9 u10 u11 u12 u13 u14 o : Slot} {r : List Slot} {x : Value} (hp : pc + 2 = pc') (hd : decode M.b pc = .ok (.astore 15, 2)) (ho : One o) (hv : x.isRef = true) (k : own_WP K M Q pc' (u0 :: u1 :: u2 :: u3 :: u4 :: u5 :: u6 :: u7 :: u8 :: u9 :: u10 :: u11 :: u12 :: u13 :: u14 :: .val x :: r) St sf h cs sl) : own_WP K M Q pc (u0 :: u1 :: u2 :: u3 :: u4 :: u5 :: u6 :: u7 :: u8 :: u9 :: u10 :: u11 :: u12 :: u13 :: u14 :: o :: r) (x :: St) sf h cs sl :=
  own_step k fun p e s m args below meth c T locs cs' sl' B X eT t q => XS.astore X.here B.1 rfl (hb B.2.1 hd) rfl hv (own_store (Ls := u0 :: u1 :: u2 :: u3 :: u4 :: u5 :: u6 :: u7 :: u8 :: u9 :: u10 :: u11 :: u12 :: u13 :: u14 :: o :: r) (i := 15) ho (by rcases ref_cases hv with rfl | ⟨_, rfl⟩ <;> rfl) rfl) (by subst hp; exact q)
theorem own_astore_16 {u0 u1 u2 u3 u4 u5 u6 u7 u8 u9 u10 u11 u12 u13 u14 u15 o : Slot} {r : List Slot} {x : Value} (hp : pc + 2 = pc') (hd : decode M.b pc = .ok (.astore 16, 2)) (ho : One o) (hv : x.isRef = true) (k : own_WP K M Q pc' (u0 :: u1 :: u2 :: u3 :: u4 :: u5 :: u6 :: u7 :: u8 :: u9 :: u10 :: u11 :: u12 :: u13 :: u14 :: u15 :: .val x :: r) St sf h cs sl) : own_WP K M Q pc (u0 :: u1 :: u2 :: u3 :: u4 :: u5 :: u6 :: u7 :: u8 :: u9 :: u10 :: u11 :: u12 :: u13 :: u14 :: u15 :: o :: r) (x :: St) sf h cs sl :=
  own_step k fun p e s m args below meth c T locs cs' sl' B X eT t q => XS.astore X.here B.1 rfl (hb B.2.1 hd) rfl hv (own_store (Ls := u0 :: u1 :: u2 :: u3 :: u4 :: u5 :: u6 :: u7 :: u8 :: u9 :: u10 :: u11 :: u12 :: u13 :: u14 :: u15 :: o :: r) (i := 16) ho (by rcases ref_cases hv with rfl | ⟨_, rfl⟩ <;> rfl) rfl) (by subst hp; exact q)
theorem own_astore_17 {u0 u1 u2 u3 u4 u5 u6 u7 u8 u9 u10 u11 u12 u13 u14 u15 u16 o : Slot} {r : List Slot} {x : Value} (hp : pc + 2 = pc') (hd : decode M.b pc = .ok (.astore 17, 2)) (ho : One o) (hv : x.isRef = true) (k : own_WP K M Q pc' (u0 :: u1 :: u2 :: u3 :: u4 :: u5 :: u6 :: u7 :: u8 :: u9 :: u10 :: u11 :: u12 :: u13 :: u14 :: u15 :: u16 :: .val x :: r) St sf h cs sl) : own_WP K M Q pc (u0 :: u1 :: u2 :: u3 :: u4 :: u5 :: u6 :: u7 :: u8 :: u9 :: u10 :: u11 :: u12 :: u13 :: u14 :: u15 :: u16 :: o :: r) (x :: St) sf h cs sl :=
  own_step k fun p e s m args below meth c T locs cs' sl' B X eT t q => XS.astore X.here B.1 rfl (hb B.2.1 hd) rfl hv (own_store (Ls := u0 :: u1 :: u2 :: u3 :: u4 :: u5 :: u6 :: u7 :: u8 :: u9 :: u10 :: u11 :: u12 :: u13 :: u14 :: u15 :: u16 :: o :: r) (i := 17) ho (by rcases ref_cases hv with rfl | ⟨_, rfl⟩ <;> rfl) rfl) (by subst hp; exact q)
theorem own_istore_18 {u0 u1 u2 u3 u4 u5 u6 u7 u8 u9 u10 u11 u12 u13 u14 u15 u16 u17 o : Slot} {r : List Slot} {x : Int32} (hp : pc + 2 = pc') (hd : decode M.b pc = .ok (.istore 18, 2)) (ho : One o) (k : own_WP K M Q pc' (u0 :: u1 :: u2 :: u3 :: u4 :: u5 :: u6 :: u7 :: u8 :: u9 :: u10 :: u11 :: u12 :: u13 :: u14 :: u15 :: u16 :: u17 :: .val (.int x) :: r) St sf h cs sl) : own_WP K M Q pc (u0 :: u1 :: u2 :: u3 :: u4 :: u5 :: u6 :: u7 :: u8 :: u9 :: u10 :: u11 :: u12 :: u13 :: u14 :: u15 :: u16 :: u17 :: o :: r) (.int x :: St) sf h cs sl :=
  own_step k fun p e s m args below meth c T locs cs' sl' B X eT t q => XS.istore X.here B.1 rfl (hb B.2.1 hd) rfl (own_store (Ls := u0 :: u1 :: u2 :: u3 :: u4 :: u5 :: u6 :: u7 :: u8 :: u9 :: u10 :: u11 :: u12 :: u13 :: u14 :: u15 :: u16 :: u17 :: o :: r) (i := 18) ho rfl rfl) (by subst hp; exact q)
theorem own_goto {o : Int} (hd : decode M.b pc = .ok (.goto o, 3)) (ho : 0 ≤ (pc : Int) + o) (hp : ((pc : Int) + o).toNat = pc') (k : own_WP K M Q pc' Ls St sf h cs sl) : own_WP K M Q pc Ls St sf h cs sl :=
  own_step k fun p e s m args below meth c T locs cs' sl' B X eT t q => XS.goto X.here B.1 rfl (pc0 := pc) rfl (hb B.2.1 hd) ho hp q
theorem own_if {cd : ClassFile.Cond} {o : Int} {x : Int32} {pcT pcF : Nat} (hd : decode M.b pc = .ok (.ifCond cd o, 3)) (ho : 0 ≤ (pc : Int) + o) (hp : ((pc : Int) + o).toNat = pcT) (hp' : pc + 3 = pcF)
    (kT : ifCond.holds cd x = true → own_WP K M Q pcT Ls St sf h cs sl) (kF : ifCond.holds cd x = false → own_WP K M Q pcF Ls St sf h cs sl) : own_WP K M Q pc Ls (.int x :: St) sf h cs sl := by
  cases hc : ifCond.holds cd x
  · exact own_step (kF hc) fun p e s m args below meth c T locs cs' sl' B X eT t q => XS.ifNo X.here B.1 rfl (hb B.2.1 hd) rfl hc (by subst hp'; exact q)
  · exact own_step (kT hc) fun p e s m args below meth c T locs cs' sl' B X eT t q => XS.ifYes X.here B.1 rfl (pc0 := pc) rfl (hb B.2.1 hd) rfl hc ho hp q
theorem own_icmp {cd : ClassFile.Cond} {o : Int} {x y : Int32} {pcT pcF : Nat} (hd : decode M.b pc = .ok (.if_icmp cd o, 3)) (ho : 0 ≤ (pc : Int) + o) (hp : ((pc : Int) + o).toNat = pcT) (hp' : pc + 3 = pcF)
    (kT : if_icmp.holds cd x y = true → own_WP K M Q pcT Ls St sf h cs sl) (kF : if_icmp.holds cd x y = false → own_WP K M Q pcF Ls St sf h cs sl) : own_WP K M Q pc Ls (.int y :: .int x :: St) sf h cs sl := by
  cases hc : if_icmp.holds cd x y
  · exact own_step (kF hc) fun p e s m args below meth c T locs cs' sl' B X eT t q => XS.icmpNo X.here B.1 rfl (hb B.2.1 hd) rfl hc (by subst hp'; exact q)
  · exact own_step (kT hc) fun p e s m args below meth c T locs cs' sl' B X eT t q => XS.icmpYes X.here B.1 rfl (pc0 := pc) rfl (hb B.2.1 hd) rfl hc ho hp q
theorem own_ifeq {o : Int} {x : Int32} {pcT pcF : Nat} (hd : decode M.b pc = .ok (.ifCond .eq o, 3)) (ho : 0 ≤ (pc : Int) + o) (hp : ((pc : Int) + o).toNat = pcT) (hp' : pc + 3 = pcF) (kT : x = 0 → own_WP K M Q pcT Ls St sf h cs sl) (kF : ¬ x = 0 → own_WP K M Q pcF Ls St sf h cs sl) : own_WP K M Q pc Ls (.int x :: St) sf h cs sl := by
  refine own_if hd ho hp hp' (fun c => ?_) (fun c => ?_)
  · rw [if0] at c; by_cases q : x = 0
    · exact kT q
    · have z := (feq q).1; rw [z] at c; cases c
  · rw [if0] at c; by_cases q : x = 0
    · have z := (teq q).1; rw [z] at c; cases c
    · exact kF q
theorem own_icmpeq {o : Int} {x y : Int32} {pcT pcF : Nat} (hd : decode M.b pc = .ok (.if_icmp .eq o, 3)) (ho : 0 ≤ (pc : Int) + o) (hp : ((pc : Int) + o).toNat = pcT) (hp' : pc + 3 = pcF) (kT : x = y → own_WP K M Q pcT Ls St sf h cs sl) (kF : ¬ x = y → own_WP K M Q pcF Ls St sf h cs sl) : own_WP K M Q pc Ls (.int y :: .int x :: St) sf h cs sl := by
  refine own_icmp hd ho hp hp' (fun c => ?_) (fun c => ?_)
  · by_cases q : x = y
    · exact kT q
    · have z := (feq q).1; rw [z] at c; cases c
  · by_cases q : x = y
    · have z := (teq q).1; rw [z] at c; cases c
    · exact kF q
theorem own_ifne {o : Int} {x : Int32} {pcT pcF : Nat} (hd : decode M.b pc = .ok (.ifCond .ne o, 3)) (ho : 0 ≤ (pc : Int) + o) (hp : ((pc : Int) + o).toNat = pcT) (hp' : pc + 3 = pcF) (kT : ¬ x = 0 → own_WP K M Q pcT Ls St sf h cs sl) (kF : x = 0 → own_WP K M Q pcF Ls St sf h cs sl) : own_WP K M Q pc Ls (.int x :: St) sf h cs sl := by
  refine own_if hd ho hp hp' (fun c => ?_) (fun c => ?_)
  · rw [if0] at c; by_cases q : x = 0
    · have z := (teq q).2; rw [z] at c; cases c
    · exact kT q
  · rw [if0] at c; by_cases q : x = 0
    · exact kF q
    · have z := (feq q).2; rw [z] at c; cases c
theorem own_icmpne {o : Int} {x y : Int32} {pcT pcF : Nat} (hd : decode M.b pc = .ok (.if_icmp .ne o, 3)) (ho : 0 ≤ (pc : Int) + o) (hp : ((pc : Int) + o).toNat = pcT) (hp' : pc + 3 = pcF) (kT : ¬ x = y → own_WP K M Q pcT Ls St sf h cs sl) (kF : x = y → own_WP K M Q pcF Ls St sf h cs sl) : own_WP K M Q pc Ls (.int y :: .int x :: St) sf h cs sl := by
  refine own_icmp hd ho hp hp' (fun c => ?_) (fun c => ?_)
  · by_cases q : x = y
    · have z := (teq q).2; rw [z] at c; cases c
    · exact kT q
  · by_cases q : x = y
    · exact kF q
    · have z := (feq q).2; rw [z] at c; cases c
theorem own_iflt {o : Int} {x : Int32} {pcT pcF : Nat} (hd : decode M.b pc = .ok (.ifCond .lt o, 3)) (ho : 0 ≤ (pc : Int) + o) (hp : ((pc : Int) + o).toNat = pcT) (hp' : pc + 3 = pcF) (kT : x < 0 → own_WP K M Q pcT Ls St sf h cs sl) (kF : ¬ x < 0 → own_WP K M Q pcF Ls St sf h cs sl) : own_WP K M Q pc Ls (.int x :: St) sf h cs sl := by
  refine own_if hd ho hp hp' (fun c => ?_) (fun c => ?_)
  · rw [if0] at c; by_cases q : x < 0
    · exact kT q
    · have z := (flt q).1; rw [z] at c; cases c
  · rw [if0] at c; by_cases q : x < 0
    · have z := (tlt q).1; rw [z] at c; cases c
    · exact kF q
theorem own_icmplt {o : Int} {x y : Int32} {pcT pcF : Nat} (hd : decode M.b pc = .ok (.if_icmp .lt o, 3)) (ho : 0 ≤ (pc : Int) + o) (hp : ((pc : Int) + o).toNat = pcT) (hp' : pc + 3 = pcF) (kT : x < y → own_WP K M Q pcT Ls St sf h cs sl) (kF : ¬ x < y → own_WP K M Q pcF Ls St sf h cs sl) : own_WP K M Q pc Ls (.int y :: .int x :: St) sf h cs sl := by
  refine own_icmp hd ho hp hp' (fun c => ?_) (fun c => ?_)
  · by_cases q : x < y
    · exact kT q
    · have z := (flt q).1; rw [z] at c; cases c
  · by_cases q : x < y
    · have z := (tlt q).1; rw [z] at c; cases c
    · exact kF q
theorem own_ifge {o : Int} {x : Int32} {pcT pcF : Nat} (hd : decode M.b pc = .ok (.ifCond .ge o, 3)) (ho : 0 ≤ (pc : Int) + o) (hp : ((pc : Int) + o).toNat = pcT) (hp' : pc + 3 = pcF) (kT : ¬ x < 0 → own_WP K M Q pcT Ls St sf h cs sl) (kF : x < 0 → own_WP K M Q pcF Ls St sf h cs sl) : own_WP K M Q pc Ls (.int x :: St) sf h cs sl := by
  refine own_if hd ho hp hp' (fun c => ?_) (fun c => ?_)
  · rw [if0] at c; by_cases q : x < 0
    · have z := (tlt q).2.1; rw [z] at c; cases c
    · exact kT q
  · rw [if0] at c; by_cases q : x < 0
    · exact kF q
    · have z := (flt q).2.1; rw [z] at c; cases c
theorem own_icmpge {o : Int} {x y : Int32} {pcT pcF : Nat} (hd : decode M.b pc = .ok (.if_icmp .ge o, 3)) (ho : 0 ≤ (pc : Int) + o) (hp : ((pc : Int) + o).toNat = pcT) (hp' : pc + 3 = pcF) (kT : ¬ x < y → own_WP K M Q pcT Ls St sf h cs sl) (kF : x < y → own_WP K M Q pcF Ls St sf h cs sl) : own_WP K M Q pc Ls (.int y :: .int x :: St) sf h cs sl := by
  refine own_icmp hd ho hp hp' (fun c => ?_) (fun c => ?_)
  · by_cases q : x < y
    · have z := (tlt q).2.1; rw [z] at c; cases c
    · exact kT q
  · by_cases q : x < y
    · exact kF q
    · have z := (flt q).2.1; rw [z] at c; cases c
theorem own_icmpgt {o : Int} {x y : Int32} {pcT pcF : Nat} (hd : decode M.b pc = .ok (.if_icmp .gt o, 3)) (ho : 0 ≤ (pc : Int) + o) (hp : ((pc : Int) + o).toNat = pcT) (hp' : pc + 3 = pcF) (kT : y < x → own_WP K M Q pcT Ls St sf h cs sl) (kF : ¬ y < x → own_WP K M Q pcF Ls St sf h cs sl) : own_WP K M Q pc Ls (.int y :: .int x :: St) sf h cs sl := by
  refine own_icmp hd ho hp hp' (fun c => ?_) (fun c => ?_)
  · by_cases q : y < x
    · exact kT q
    · have z := (flt q).2.2.1; rw [z] at c; cases c
  · by_cases q : y < x
    · have z := (tlt q).2.2.1; rw [z] at c; cases c
    · exact kF q
theorem own_ifle {o : Int} {x : Int32} {pcT pcF : Nat} (hd : decode M.b pc = .ok (.ifCond .le o, 3)) (ho : 0 ≤ (pc : Int) + o) (hp : ((pc : Int) + o).toNat = pcT) (hp' : pc + 3 = pcF) (kT : ¬ 0 < x → own_WP K M Q pcT Ls St sf h cs sl) (kF : 0 < x → own_WP K M Q pcF Ls St sf h cs sl) : own_WP K M Q pc Ls (.int x :: St) sf h cs sl := by
  refine own_if hd ho hp hp' (fun c => ?_) (fun c => ?_)
  · rw [if0] at c; by_cases q : 0 < x
    · have z := (tlt q).2.2.2; rw [z] at c; cases c
    · exact kT q
  · rw [if0] at c; by_cases q : 0 < x
    · exact kF q
    · have z := (flt q).2.2.2; rw [z] at c; cases c
theorem own_icmple {o : Int} {x y : Int32} {pcT pcF : Nat} (hd : decode M.b pc = .ok (.if_icmp .le o, 3)) (ho : 0 ≤ (pc : Int) + o) (hp : ((pc : Int) + o).toNat = pcT) (hp' : pc + 3 = pcF) (kT : ¬ y < x → own_WP K M Q pcT Ls St sf h cs sl) (kF : y < x → own_WP K M Q pcF Ls St sf h cs sl) : own_WP K M Q pc Ls (.int y :: .int x :: St) sf h cs sl := by
  refine own_icmp hd ho hp hp' (fun c => ?_) (fun c => ?_)
  · by_cases q : y < x
    · have z := (tlt q).2.2.2; rw [z] at c; cases c
    · exact kT q
  · by_cases q : y < x
    · exact kF q
    · have z := (flt q).2.2.2; rw [z] at c; cases c
/-- returns -/
theorem own_return {qn : Heap → List Addr → Prop} (hr : M.ret = none) (hd : decode M.b pc = .ok (.return_, 1)) (hc : Nat.ble cs M.R.cells = true) (hs : Nat.ble sl M.R.slots = true) (q : qn h sf) : own_WP K M (own_void qn) pc Ls [] sf h cs sl :=
  own_leave (v := none) (fun _ => rfl) (Nat.le_of_ble_eq_true hc) (Nat.le_of_ble_eq_true hs) ⟨rfl, q⟩ fun p e s m args below meth c T locs cs' sl' B X fs hl => X.returnOut B.1 (by rw [B.2.2.2.2.2.1, hr]) (hb B.2.1 hd) hl
theorem own_ireturn {qv : Value → Heap → List Addr → Prop} {z : Int32} (hr : M.ret = some .int) (hd : decode M.b pc = .ok (.ireturn, 1)) (hc : Nat.ble cs M.R.cells = true) (hs : Nat.ble sl M.R.slots = true) (q : qv (.int z) h sf) : own_WP K M (own_ret qv) pc Ls (.int z :: St) sf h cs sl :=
  own_leave (v := some (.int z)) (fun n => by rw [hr] at n; cases n) (Nat.le_of_ble_eq_true hc) (Nat.le_of_ble_eq_true hs) ⟨_, rfl, q⟩ fun p e s m args below meth c T locs cs' sl' B X fs hl => retOut X B.1 (t := .int) (by rw [B.2.2.2.2.2.1, hr]) rfl (Or.inl ⟨rfl, Or.inl rfl, z, rfl⟩) (hb B.2.1 hd) hl
theorem own_ireturnN {qv : Value → Heap → List Addr → Prop} {t : FieldType} {z z' : Int32} (hr : M.ret = some t) (ht : t = .boolean ∨ t = .byte ∨ t = .char ∨ t = .short) (hz : nar t z = z') (hd : decode M.b pc = .ok (.ireturn, 1)) (hc : Nat.ble cs M.R.cells = true) (hs : Nat.ble sl M.R.slots = true) (q : qv (.int z') h sf) : own_WP K M (own_ret qv) pc Ls (.int z :: St) sf h cs sl :=
  own_leave (v := some (.int z')) (fun n => by rw [hr] at n; cases n) (Nat.le_of_ble_eq_true hc) (Nat.le_of_ble_eq_true hs) ⟨_, rfl, q⟩ fun p e s m args below meth c T locs cs' sl' B X fs hl => retN X B.1 (t := t) (by rw [B.2.2.2.2.2.1, hr]) ht (hb B.2.1 hd) (by rw [hz]; exact hl)
theorem own_areturn {qv : Value → Heap → List Addr → Prop} {t : FieldType} {v : Value} (hr : M.ret = some t) (ht : t.isReference = true) (hv : v.isRef = true) (hd : decode M.b pc = .ok (.areturn, 1)) (hc : Nat.ble cs M.R.cells = true) (hs : Nat.ble sl M.R.slots = true) (q : qv v h sf) : own_WP K M (own_ret qv) pc Ls (v :: St) sf h cs sl :=
  own_leave (v := some v) (fun n => by rw [hr] at n; cases n) (Nat.le_of_ble_eq_true hc) (Nat.le_of_ble_eq_true hs) ⟨_, rfl, q⟩ fun p e s m args below meth c T locs cs' sl' B X fs hl => retOut X B.1 (t := t) (by rw [B.2.2.2.2.2.1, hr]) (by cases t <;> first | (cases ht; done) | (rcases ref_cases hv with rfl | ⟨_, rfl⟩ <;> rfl)) (Or.inr (Or.inr (Or.inr (Or.inr ⟨rfl, ht, hv⟩)))) (hb B.2.1 hd) hl
/-- constants of the pool, fields, statics, new objects and arrays -/
theorem own_ldcI {index : Nat} {v : Int32} (hp : pc + 2 = pc') (hd : decode M.b pc = .ok (.ldc index, 2)) (w : (Jvm.Cond.constant M.y.cls index v).before a0 K.Z = true) (k : own_WP K M Q pc' Ls (.int v :: St) sf h cs sl) : own_WP K M Q pc Ls St sf h cs sl :=
  own_step k fun p e s m args below meth c T locs cs' sl' B X eT t q => X.ldcInt B.1 B.2.2.2.1 (mv B.2.2.2.2.2.2.2.1 w) (g := mkF m pc Ls.toArray St) rfl (hb B.2.1 hd) t (by subst hp; exact q)
theorem own_getF {index : Nat} {R0 O n d : String} {a : Addr} {v : Value} (hp : pc + 3 = pc') (hd : decode M.b pc = .ok (.getfield index, 3)) (w : (Jvm.Cond.fieldLink M.y.cls index R0 n d).before a0 K.Z = true) (via : Via K.Z R0 O n d) (F : Fld K.Z h a O n d v) (k : own_WP K M Q pc' Ls (v :: St) sf h cs sl) : own_WP K M Q pc Ls (.ref a :: St) sf h cs sl := by
  subst hp
  exact own_move k fun p e s m args below meth c T locs cs' sl' B X eT hE => getF X B.1 B.2.2.2.2.2.2.2.1 (host := "") B.2.2.2.1 (Or.inl w) via eT F (g := mkF m pc Ls.toArray (.ref a :: St)) rfl rfl (hb B.2.1 hd)
theorem own_getS {index : Nat} {R0 O n d : String} {v : Value} (hp : pc + 3 = pc') (hd : decode M.b pc = .ok (.getstatic index, 3)) (w : (Jvm.Cond.fieldLink M.y.cls index R0 n d).before a0 K.Z = true) (via : Via K.Z R0 O n d) (F : Sta K.Z K.Z.heap O n d v) (k : own_WP K M Q pc' Ls (v :: St) sf h cs sl) : own_WP K M Q pc Ls St sf h cs sl := by
  subst hp
  exact own_move k fun p e s m args below meth c T locs cs' sl' B X eT hE => getS X B.1 B.2.2.2.2.2.2.2.1 (host := "") B.2.2.2.1 w via eT (F.ext hE) (g := mkF m pc Ls.toArray St) rfl (hb B.2.1 hd)
theorem own_new {index n : Nat} {C : String} (hp : pc + 3 = pc') (hd : decode M.b pc = .ok (.new index, 3)) (w : (Jvm.Cond.classLink M.y.cls index C).before a0 K.Z = true) (wi : (Jvm.Cond.instantiable C n).before a0 K.Z = true) (wz : (Jvm.Cond.initialized C).before a0 K.Z = true) (hc : Nat.ble (cs + 1) M.R.cells = true) (hs : Nat.ble (sl + n) M.R.slots = true)
    (k : ∀ (a : Addr) (h' : Heap), @Eq Nat a h.size → Ext h h' → Exa K.Z h' a C → (∀ {O nm d : String} {ty : FieldType}, Laid K.Z a0 C O nm d → parseFieldDescriptor d = some ty → Fld K.Z h' a O nm d (defaultValue ty)) → own_WP K M Q pc' Ls (.ref a :: St) (a :: sf) h' (cs + 1) (sl + n)) : own_WP K M Q pc Ls St sf h cs sl := by
  subst hp
  refine own_grow (P := fun h' => Exa K.Z h' h.size C ∧ (∀ {O nm d : String} {ty : FieldType}, Laid K.Z a0 C O nm d → parseFieldDescriptor d = some ty → Fld K.Z h' h.size O nm d (defaultValue ty))) (Nat.le_of_ble_eq_true hc) (Nat.le_of_ble_eq_true hs) (fun h' E P => k _ h' rfl E P.1 P.2) ?_
  intro p e s m args below meth c T locs cs' sl' B X hc' hs' eT
  obtain ⟨T', h', X', e', E, A, D, -, st⟩ := newO X B.1 B.2.2.2.2.2.2.2.1 B.2.2.2.1 w wi wz eT (g := mkF m pc Ls.toArray St) rfl (hb B.2.1 hd) hc' hs'
  exact ⟨T', h', X', e', E, A.lt, ⟨A, D⟩, st⟩
theorem own_putF {index kk : Nat} {R0 O n d C : String} {ty : FieldType} {a : Addr} {v v' old : Value} (hp : pc + 3 = pc') (hd : decode M.b pc = .ok (.putfield index, 3)) (w : (Jvm.Cond.fieldLink M.y.cls index R0 n d).before a0 K.Z = true) (via : Via K.Z R0 O n d)
    (L : (Jvm.Cond.lays C O n d).before a0 K.Z = true ∨ ((Jvm.Cond.laysFinal C O n d).before a0 K.Z = true ∧ M.y.cls = O ∧ M.y.name = "<init>")) (wi : (Jvm.Cond.instantiable C kk).before a0 K.Z = true) (hty : parseFieldDescriptor d = some ty) (hn : narrow ty v = v') (hf : fits ty v' = true) (F : Fld K.Z h a O n d old) (E : Exa K.Z h a C) (ha : a ∈ sf)
    (k : ∀ h', Wr h h' a (RoadKit.slotOf K.Z O n d) v' → own_WP K M Q pc' Ls St sf h' cs sl) : own_WP K M Q pc Ls (v :: .ref a :: St) sf h cs sl := by
  subst hp
  exact own_write ha k fun p e s m args below meth c T locs cs' sl' B X eT => putFN X B.1 B.2.2.2.2.2.2.2.1 B.2.2.2.1 w via eT F E (L.imp id fun q => ⟨q.1, q.2.1, by rw [B.2.2.2.2.1]; exact q.2.2⟩) wi hty hn hf (g := mkF m pc Ls.toArray (v :: .ref a :: St)) rfl rfl (hb B.2.1 hd)
theorem own_initO {index : Nat} {a : Addr} (hp : pc + 3 = pc') (hd : decode M.b pc = .ok (.invokespecial index, 3)) (w1 : (Jvm.Cond.methodLink M.y.cls index Lib.objectInit).before a0 K.Z = true) (w2 : (Jvm.Cond.instanceMethod Lib.objectInit).before a0 K.Z = true) (w3 : (Jvm.Cond.code Lib.objectInit ⟨#[0xb1]⟩ 1 none).before a0 K.Z = true) (hsz : Ls.length = M.mx) (hf : Nat.ble 1 M.R.frames = true) (hl : Nat.ble ((St.map fun v => v.category).sum + 12) M.R.locals = true)
    (k : own_WP K M Q pc' Ls St sf h cs sl) : own_WP K M Q pc Ls (.ref a :: St) sf h cs sl := by
  subst hp
  exact own_move k fun p e s m args below meth c T locs cs' sl' B X eT hE => initO X B.1 B.2.2.2.2.2.2.2.1 B.2.2.2.1 w1 w2 w3 eT (g := mkF m pc Ls.toArray (.ref a :: St)) rfl (by rw [B.2.2.1, ← hsz]; simp) rfl (hb B.2.1 hd) (Nat.le_of_ble_eq_true hf) (W := (St.map fun v => v.category).sum) (by show 2 * 0 + _ ≤ _; omega) (Nat.le_of_ble_eq_true hl)
end Plain
section Arrays
/-- the array at a holds just vs -/
def own_Ary (Z : State) (h : Heap) (a : Addr) (ty : FieldType) (vs : List Value) : Prop := ∃ c : Cell, Arr Z h a c ty ∧ c.slots = vs.toArray ∧ vs.length < 2 ^ 31
variable {K : own_Cx} {M : own_Mi} {Q : own_Q} {pc pc' : Nat} {Ls : List Slot} {St : List Value} {sf : List Addr} {h h' : Heap} {cs sl : Nat} {a0 : Array Value} {Z : State} {a b : Addr} {ty : FieldType} {vs : List Value}
theorem own_Ary.ext (F : own_Ary Z h a ty vs) (E : Ext h h') : own_Ary Z h' a ty vs := by obtain ⟨c, A, r⟩ := F; exact ⟨c, A.ext E, r⟩
theorem own_Ary.lt (F : own_Ary Z h a ty vs) : a < h.size := by obtain ⟨c, A, r⟩ := F; exact A.lt
theorem own_Ary.keep {ws : List Addr} (F : own_Ary Z h a ty vs) (k : Keep h h' ws) (q : a ∉ ws) : own_Ary Z h' a ty vs := by obtain ⟨c, A, r⟩ := F; exact ⟨c, ⟨k.2.1 a c A.1 q, A.2⟩, r⟩
theorem own_Ary.other {i : Nat} {v : Value} (F : own_Ary Z h b ty vs) (W : Wr h h' a i v) (q : b ≠ a) : own_Ary Z h' b ty vs := by obtain ⟨c, A, r⟩ := F; exact ⟨c, A.other W q, r⟩
theorem own_Ary.same {i : Nat} {v : Value} (F : own_Ary Z h a ty vs) (W : Wr h h' a i v) : own_Ary Z h' a ty (vs.set i v) := by
  obtain ⟨c, A, r1, r2⟩ := F
  refine ⟨c.setSlot i v, A.same W, ?_, by simpa using r2⟩
  simp [Cell.setSlot, r1]
theorem own_idx {j : Int32} {i n : Nat} (hj : j.toInt = i) (hi : i < n) : ¬ (j < 0 ∨ n ≤ j.toNatClampNeg) ∧ j.toNatClampNeg = i := by
  have q : j.toNatClampNeg = i := by
    have : j.toNatClampNeg = j.toInt.toNat := rfl
    rw [this, hj]; rfl
  refine ⟨fun z => ?_, q⟩
  rcases z with z | z
  · rw [Int32.lt_iff_toInt_lt, hj] at z
    have : (0 : Int32).toInt = 0 := rfl
    omega
  · omega
theorem own_len {n : Nat} (q : n < 2 ^ 31) : (n.toInt32).toInt = n := Int32.toInt_ofNat_small q
theorem own_arrlen {z : Int32} (hp : pc + 1 = pc') (hd : decode M.b pc = .ok (.arraylength, 1)) (F : own_Ary K.Z h a ty vs) (hz : z.toInt = vs.length) (k : own_WP K M Q pc' Ls (.int z :: St) sf h cs sl) : own_WP K M Q pc Ls (.ref a :: St) sf h cs sl := by
  obtain ⟨cl, A, r1, r2⟩ := F
  have e1 : cl.slots.size.toInt32 = z := by
    apply Int32.toInt_inj.mp
    rw [hz, r1]; simpa using own_len r2
  exact own_step k fun p e s m args below meth c T locs cs' sl' B X eT t q => X.arraylength B.1 (by rw [eT]; exact A.1) (State.isArrayOf_alike B.2.2.2.2.2.2.2.1.alike A.2.1) (g := mkF m pc Ls.toArray (.ref a :: St)) rfl rfl (hb B.2.1 hd) t (by subst hp; rw [e1]; exact q)
theorem own_caload {i : Nat} {j : Int32} {v : Value} (hp : pc + 1 = pc') (hd : decode M.b pc = .ok (.caload, 1)) (F : own_Ary K.Z h a .char vs) (hj : j.toInt = i) (hv : vs[i]? = some v) (k : own_WP K M Q pc' Ls (v :: St) sf h cs sl) : own_WP K M Q pc Ls (.int j :: .ref a :: St) sf h cs sl := by
  obtain ⟨cl, A, r1, r2⟩ := F
  have hi : i < vs.length := (List.getElem?_eq_some_iff.mp hv).1
  have hsz : cl.slots.size = vs.length := by rw [r1]; simp
  obtain ⟨q1, q2⟩ := own_idx (n := cl.slots.size) hj (by rw [hsz]; exact hi)
  exact own_step k fun p e s m args below meth c T locs cs' sl' B X eT t q => X.caload B.1 (j := j) (v := v) (by rw [eT]; exact A.1) (State.isArrayOf_alike B.2.2.2.2.2.2.2.1.alike A.2.1) A.2.2 q1 (by rw [q2, r1]; simpa using hv) (g := mkF m pc Ls.toArray (.int j :: .ref a :: St)) rfl rfl (hb B.2.1 hd) t (by subst hp; exact q)
theorem own_iaload {i : Nat} {j : Int32} {v : Value} (hp : pc + 1 = pc') (hd : decode M.b pc = .ok (.iaload, 1)) (F : own_Ary K.Z h a .int vs) (hj : j.toInt = i) (hv : vs[i]? = some v) (k : own_WP K M Q pc' Ls (v :: St) sf h cs sl) : own_WP K M Q pc Ls (.int j :: .ref a :: St) sf h cs sl := by
  obtain ⟨cl, A, r1, r2⟩ := F
  have hi : i < vs.length := (List.getElem?_eq_some_iff.mp hv).1
  have hsz : cl.slots.size = vs.length := by rw [r1]; simp
  obtain ⟨q1, q2⟩ := own_idx (n := cl.slots.size) hj (by rw [hsz]; exact hi)
  exact own_step k fun p e s m args below meth c T locs cs' sl' B X eT t q => X.iaload B.1 (j := j) (v := v) (by rw [eT]; exact A.1) (State.isArrayOf_alike B.2.2.2.2.2.2.2.1.alike A.2.1) A.2.2 q1 (by rw [q2, r1]; simpa using hv) (g := mkF m pc Ls.toArray (.int j :: .ref a :: St)) rfl rfl (hb B.2.1 hd) t (by subst hp; exact q)
theorem own_baload {i : Nat} {j : Int32} {v : Value} (hp : pc + 1 = pc') (hd : decode M.b pc = .ok (.baload, 1)) (F : own_Ary K.Z h a .byte vs) (hj : j.toInt = i) (hv : vs[i]? = some v) (k : own_WP K M Q pc' Ls (v :: St) sf h cs sl) : own_WP K M Q pc Ls (.int j :: .ref a :: St) sf h cs sl := by
  obtain ⟨cl, A, r1, r2⟩ := F
  have hi : i < vs.length := (List.getElem?_eq_some_iff.mp hv).1
  have hsz : cl.slots.size = vs.length := by rw [r1]; simp
  obtain ⟨q1, q2⟩ := own_idx (n := cl.slots.size) hj (by rw [hsz]; exact hi)
  exact own_step k fun p e s m args below meth c T locs cs' sl' B X eT t q => X.baloadBytes B.1 (j := j) (v := v) (by rw [eT]; exact A.1) (State.isArrayOf_alike B.2.2.2.2.2.2.2.1.alike A.2.1) A.2.2 q1 (by rw [q2, r1]; simpa using hv) (g := mkF m pc Ls.toArray (.int j :: .ref a :: St)) rfl rfl (hb B.2.1 hd) t (by subst hp; exact q)
theorem own_castore {i : Nat} {j x x' : Int32} (hp : pc + 1 = pc') (hd : decode M.b pc = .ok (.castore, 1)) (F : own_Ary K.Z h a .char vs) (hj : j.toInt = i) (hi : i < vs.length) (hx : nar .char x = x') (ha : a ∈ sf) (k : ∀ h', Keep h h' [a] → own_Ary K.Z h' a .char (vs.set i (.int x')) → own_WP K M Q pc' Ls St sf h' cs sl) : own_WP K M Q pc Ls (.int x :: .int j :: .ref a :: St) sf h cs sl := by
  subst hp hx
  have F' := F
  obtain ⟨cl, A, r1, r2⟩ := F
  have hsz : cl.slots.size = vs.length := by rw [r1]; simp
  obtain ⟨q1, q2⟩ := own_idx (n := cl.slots.size) hj (by rw [hsz]; exact hi)
  refine own_write ha (i := j.toNatClampNeg) (fun h' W => k h' (Keep.of_wr W) (by rw [← q2]; exact F'.same W)) ?_
  exact fun p e s m args below meth c T locs cs' sl' B X eT => stC X B.1 B.2.2.2.2.2.2.2.1 eT A (j := j) q1 (g := mkF m pc Ls.toArray (.int x :: .int j :: .ref a :: St)) rfl rfl (hb B.2.1 hd)
theorem own_bastore {i : Nat} {j x x' : Int32} (hp : pc + 1 = pc') (hd : decode M.b pc = .ok (.bastore, 1)) (F : own_Ary K.Z h a .byte vs) (hj : j.toInt = i) (hi : i < vs.length) (hx : nar .byte x = x') (ha : a ∈ sf) (k : ∀ h', Keep h h' [a] → own_Ary K.Z h' a .byte (vs.set i (.int x')) → own_WP K M Q pc' Ls St sf h' cs sl) : own_WP K M Q pc Ls (.int x :: .int j :: .ref a :: St) sf h cs sl := by
  subst hp hx
  have F' := F
  obtain ⟨cl, A, r1, r2⟩ := F
  have hsz : cl.slots.size = vs.length := by rw [r1]; simp
  obtain ⟨q1, q2⟩ := own_idx (n := cl.slots.size) hj (by rw [hsz]; exact hi)
  refine own_write ha (i := j.toNatClampNeg) (fun h' W => k h' (Keep.of_wr W) (by rw [← q2]; exact F'.same W)) ?_
  exact fun p e s m args below meth c T locs cs' sl' B X eT => stB X B.1 B.2.2.2.2.2.2.2.1 eT A (j := j) q1 (g := mkF m pc Ls.toArray (.int x :: .int j :: .ref a :: St)) rfl rfl (hb B.2.1 hd)
theorem own_iastore {i : Nat} {j x x' : Int32} (hp : pc + 1 = pc') (hd : decode M.b pc = .ok (.iastore, 1)) (F : own_Ary K.Z h a .int vs) (hj : j.toInt = i) (hi : i < vs.length) (hx : x = x') (ha : a ∈ sf) (k : ∀ h', Keep h h' [a] → own_Ary K.Z h' a .int (vs.set i (.int x')) → own_WP K M Q pc' Ls St sf h' cs sl) : own_WP K M Q pc Ls (.int x :: .int j :: .ref a :: St) sf h cs sl := by
  subst hp hx
  have F' := F
  obtain ⟨cl, A, r1, r2⟩ := F
  have hsz : cl.slots.size = vs.length := by rw [r1]; simp
  obtain ⟨q1, q2⟩ := own_idx (n := cl.slots.size) hj (by rw [hsz]; exact hi)
  refine own_write ha (i := j.toNatClampNeg) (fun h' W => k h' (Keep.of_wr W) (by rw [← q2]; exact F'.same W)) ?_
  exact fun p e s m args below meth c T locs cs' sl' B X eT => stI X B.1 B.2.2.2.2.2.2.2.1 eT A (j := j) q1 (g := mkF m pc Ls.toArray (.int x :: .int j :: .ref a :: St)) rfl rfl (hb B.2.1 hd)
theorem own_newarray {aty : ArrayType} {n : Int32} {N cap : Nat} (hp : pc + 2 = pc') (hd : decode M.b pc = .ok (.newarray aty, 2)) (w : (Jvm.Cond.arrayClass (newarray.typeOf aty)).before a0 K.Z = true) (hn : n.toInt = N) (hcap : N ≤ cap) (hb' : Nat.ble (cap * 8) 536870912 = true) (hc : Nat.ble (cs + 1) M.R.cells = true) (hs : Nat.ble (sl + cap) M.R.slots = true)
    (k : ∀ (a : Addr) (h' : Heap), @Eq Nat a h.size → Ext h h' → own_Ary K.Z h' a (newarray.typeOf aty) (List.replicate N (defaultValue (newarray.typeOf aty))) → own_WP K M Q pc' Ls (.ref a :: St) (a :: sf) h' (cs + 1) (sl + cap)) : own_WP K M Q pc Ls (.int n :: St) sf h cs sl := by
  subst hp
  have hN : n.toNatClampNeg = N := by
    have : n.toNatClampNeg = n.toInt.toNat := rfl
    rw [this, hn]; rfl
  have h0 : ¬ n < 0 := fun z => by
    rw [Int32.lt_iff_toInt_lt, hn] at z
    have : (0 : Int32).toInt = 0 := rfl
    omega
  refine own_grow (P := fun h' => own_Ary K.Z h' h.size (newarray.typeOf aty) (List.replicate N (defaultValue (newarray.typeOf aty)))) (Nat.le_of_ble_eq_true hc) (Nat.le_of_ble_eq_true hs) (fun h' E P => k _ h' rfl E P) ?_
  intro p e s m args below meth c T locs cs' sl' B X hc' hs' eT
  obtain ⟨T', h', cA, X', e', E, A, st⟩ := newP X B.1 B.2.2.2.2.2.2.2.1 w eT (g := mkF m pc Ls.toArray (.int n :: St)) rfl (hb B.2.1 hd) rfl h0 (cap := cap) (by omega) (Nat.le_of_ble_eq_true hb') hc' hs'
  have hlt := (back32 h0).2
  exact ⟨T', h', X', e', E, A.lt, ⟨_, A, by simp [newA, hN], by rw [List.length_replicate, ← hN]; exact hlt⟩, st⟩
end Arrays
theorem own_lenOf {d : String} {ps : List FieldType} {r : Option FieldType} (hd : parseMethodDescriptor d = some ⟨ps, r⟩) {n : Nat} (hl : n = ps.length) : ∀ sig, parseMethodDescriptor d = some sig → n = sig.parameters.length := fun sig q => by cases hd.symm.trans q; exact hl
theorem own_cat {v : Value} (q : v.isRef = true) : v.category = 1 := by rcases ref_cases q with rfl | ⟨_, rfl⟩ <;> rfl
theorem own_nb0 : nar .boolean 0 = 0 := rfl
theorem own_nb1 : nar .boolean 1 = 1 := rfl
theorem own_ints_get {cs : List Int32} {i : Nat} {c : Int32} (hc : cs[i]? = some c) : (cs.map Value.int)[i]? = some (.int c) := by simp [hc]
theorem own_ints_getM {cs : List Int32} {f : Int32 → Int32} {i : Nat} {c : Int32} (hc : cs[i]? = some c) : ((cs.map f).map Value.int)[i]? = some (.int (f c)) := by simp [hc]
theorem tw_0 {a0 : Array Value} {Z : State} (hw : ∀ d ∈ tables_1, d.before a0 Z = true) : (Jvm.Cond.methodLink "com/example/sunder/sunder/CodePointOrderComparePinLaw" (7 : Nat) ({ cls := "com/example/sunder/sunder/CodePointOrderComparePinLaw", name := "ch", desc := "(I)C" } : Jvm.MethodName)).before a0 Z = true := hw _ (List.mem_of_getElem? (i := 0) rfl)
theorem tw_1 {a0 : Array Value} {Z : State} (hw : ∀ d ∈ tables_1, d.before a0 Z = true) : (Jvm.Cond.static ({ cls := "com/example/sunder/sunder/CodePointOrderComparePinLaw", name := "ch", desc := "(I)C" } : Jvm.MethodName)).before a0 Z = true := hw _ (List.mem_of_getElem? (i := 1) rfl)
theorem tw_2 {a0 : Array Value} {Z : State} (hw : ∀ d ∈ tables_1, d.before a0 Z = true) : (Jvm.Cond.initialized "com/example/sunder/sunder/CodePointOrderComparePinLaw").before a0 Z = true := hw _ (List.mem_of_getElem? (i := 2) rfl)
theorem tw_3 {a0 : Array Value} {Z : State} (hw : ∀ d ∈ tables_1, d.before a0 Z = true) : (Jvm.Cond.code ({ cls := "com/example/sunder/sunder/CodePointOrderComparePinLaw", name := "ch", desc := "(I)C" } : Jvm.MethodName) method_3_code (2 : Nat) (Option.some Jvm.ClassFile.FieldType.char)).before a0 Z = true := hw _ (List.mem_of_getElem? (i := 3) rfl)
theorem tw_4 {a0 : Array Value} {Z : State} (hw : ∀ d ∈ tables_1, d.before a0 Z = true) : (Jvm.Cond.constant "com/example/sunder/sunder/CodePointOrderComparePinLaw" (31 : Nat) (65536 : Int32)).before a0 Z = true := hw _ (List.mem_of_getElem? (i := 4) rfl)
theorem tw_5 {a0 : Array Value} {Z : State} (hw : ∀ d ∈ tables_1, d.before a0 Z = true) : (Jvm.Cond.constant "com/example/sunder/sunder/CodePointOrderComparePinLaw" (32 : Nat) (65535 : Int32)).before a0 Z = true := hw _ (List.mem_of_getElem? (i := 5) rfl)
theorem tw_6 {a0 : Array Value} {Z : State} (hw : ∀ d ∈ tables_1, d.before a0 Z = true) : (Jvm.Cond.methodLink "com/example/sunder/sunder/CodePointOrderComparePinLaw" (13 : Nat) ({ cls := "com/example/sunder/sunder/CodePointOrderComparePinLaw", name := "str", desc := "(CCCI)Ljava/lang/String;" } : Jvm.MethodName)).before a0 Z = true := hw _ (List.mem_of_getElem? (i := 6) rfl)
theorem tw_7 {a0 : Array Value} {Z : State} (hw : ∀ d ∈ tables_1, d.before a0 Z = true) : (Jvm.Cond.static ({ cls := "com/example/sunder/sunder/CodePointOrderComparePinLaw", name := "str", desc := "(CCCI)Ljava/lang/String;" } : Jvm.MethodName)).before a0 Z = true := hw _ (List.mem_of_getElem? (i := 7) rfl)
theorem tw_8 {a0 : Array Value} {Z : State} (hw : ∀ d ∈ tables_1, d.before a0 Z = true) : (Jvm.Cond.code ({ cls := "com/example/sunder/sunder/CodePointOrderComparePinLaw", name := "str", desc := "(CCCI)Ljava/lang/String;" } : Jvm.MethodName) method_4_code (4 : Nat) (Option.some (Jvm.ClassFile.FieldType.object "java/lang/String"))).before a0 Z = true := hw _ (List.mem_of_getElem? (i := 8) rfl)
theorem tw_9 {a0 : Array Value} {Z : State} (hw : ∀ d ∈ tables_1, d.before a0 Z = true) : (Jvm.Cond.classLink "com/example/sunder/sunder/CodePointOrderComparePinLaw" (38 : Nat) "java/lang/String").before a0 Z = true := hw _ (List.mem_of_getElem? (i := 9) rfl)
theorem tw_10 {a0 : Array Value} {Z : State} (hw : ∀ d ∈ tables_1, d.before a0 Z = true) : (Jvm.Cond.instantiable "java/lang/String" (4 : Nat)).before a0 Z = true := hw _ (List.mem_of_getElem? (i := 10) rfl)
theorem tw_11 {a0 : Array Value} {Z : State} (hw : ∀ d ∈ tables_1, d.before a0 Z = true) : (Jvm.Cond.initialized "java/lang/String").before a0 Z = true := hw _ (List.mem_of_getElem? (i := 11) rfl)
theorem tw_12 {a0 : Array Value} {Z : State} (hw : ∀ d ∈ tables_1, d.before a0 Z = true) : (Jvm.Cond.arrayClass Jvm.ClassFile.FieldType.char).before a0 Z = true := hw _ (List.mem_of_getElem? (i := 12) rfl)
theorem tw_13 {a0 : Array Value} {Z : State} (hw : ∀ d ∈ tables_1, d.before a0 Z = true) : (Jvm.Cond.methodLink "com/example/sunder/sunder/CodePointOrderComparePinLaw" (40 : Nat) ({ cls := "java/lang/String", name := "<init>", desc := "([C)V" } : Jvm.MethodName)).before a0 Z = true := hw _ (List.mem_of_getElem? (i := 13) rfl)
theorem tw_14 {a0 : Array Value} {Z : State} (hw : ∀ d ∈ tables_1, d.before a0 Z = true) : (Jvm.Cond.instanceMethod ({ cls := "java/lang/String", name := "<init>", desc := "([C)V" } : Jvm.MethodName)).before a0 Z = true := hw _ (List.mem_of_getElem? (i := 14) rfl)
theorem tw_15 {a0 : Array Value} {Z : State} (hw : ∀ d ∈ tables_1, d.before a0 Z = true) : (Jvm.Cond.code ({ cls := "java/lang/String", name := "<init>", desc := "([C)V" } : Jvm.MethodName) jdk_42_method_3_code (2 : Nat) (Option.none : Option Jvm.ClassFile.FieldType)).before a0 Z = true := hw _ (List.mem_of_getElem? (i := 15) rfl)
theorem tw_16 {a0 : Array Value} {Z : State} (hw : ∀ d ∈ tables_1, d.before a0 Z = true) : (Jvm.Cond.methodLink "java/lang/String" (27 : Nat) ({ cls := "java/lang/String", name := "<init>", desc := "([CIILjava/lang/Void;)V" } : Jvm.MethodName)).before a0 Z = true := hw _ (List.mem_of_getElem? (i := 16) rfl)
theorem tw_17 {a0 : Array Value} {Z : State} (hw : ∀ d ∈ tables_1, d.before a0 Z = true) : (Jvm.Cond.instanceMethod ({ cls := "java/lang/String", name := "<init>", desc := "([CIILjava/lang/Void;)V" } : Jvm.MethodName)).before a0 Z = true := hw _ (List.mem_of_getElem? (i := 17) rfl)
theorem tw_19 {a0 : Array Value} {Z : State} (hw : ∀ d ∈ tables_1, d.before a0 Z = true) : (Jvm.Cond.code ({ cls := "java/lang/String", name := "<init>", desc := "([CIILjava/lang/Void;)V" } : Jvm.MethodName) jdk_42_method_149_code (6 : Nat) (Option.none : Option Jvm.ClassFile.FieldType)).before a0 Z = true := hw _ (List.mem_of_getElem? (i := 19) rfl)
theorem tw_20 {a0 : Array Value} {Z : State} (hw : ∀ d ∈ tables_1, d.before a0 Z = true) : (Jvm.Cond.methodLink "java/lang/String" (1 : Nat) ({ cls := "java/lang/Object", name := "<init>", desc := "()V" } : Jvm.MethodName)).before a0 Z = true := hw _ (List.mem_of_getElem? (i := 20) rfl)
theorem tw_21 {a0 : Array Value} {Z : State} (hw : ∀ d ∈ tables_1, d.before a0 Z = true) : (Jvm.Cond.instanceMethod ({ cls := "java/lang/Object", name := "<init>", desc := "()V" } : Jvm.MethodName)).before a0 Z = true := hw _ (List.mem_of_getElem? (i := 21) rfl)
theorem tw_22 {a0 : Array Value} {Z : State} (hw : ∀ d ∈ tables_1, d.before a0 Z = true) : (Jvm.Cond.code ({ cls := "java/lang/Object", name := "<init>", desc := "()V" } : Jvm.MethodName) object_method_1_code (1 : Nat) (Option.none : Option Jvm.ClassFile.FieldType)).before a0 Z = true := hw _ (List.mem_of_getElem? (i := 22) rfl)
theorem tw_24 {a0 : Array Value} {Z : State} (hw : ∀ d ∈ tables_1, d.before a0 Z = true) : (Jvm.Cond.arrayClass Jvm.ClassFile.FieldType.byte).before a0 Z = true := hw _ (List.mem_of_getElem? (i := 24) rfl)
theorem tw_25 {a0 : Array Value} {Z : State} (hw : ∀ d ∈ tables_1, d.before a0 Z = true) : (Jvm.Cond.laysFinal "java/lang/String" "java/lang/String" "value" "[B").before a0 Z = true := hw _ (List.mem_of_getElem? (i := 25) rfl)
theorem tw_26 {a0 : Array Value} {Z : State} (hw : ∀ d ∈ tables_1, d.before a0 Z = true) : (Jvm.Cond.laysFinal "java/lang/String" "java/lang/String" "coder" "B").before a0 Z = true := hw _ (List.mem_of_getElem? (i := 26) rfl)
theorem tw_27 {a0 : Array Value} {Z : State} (hw : ∀ d ∈ tables_1, d.before a0 Z = true) : (Jvm.Cond.soleField "java/lang/String" "value").before a0 Z = true := hw _ (List.mem_of_getElem? (i := 27) rfl)
theorem tw_28 {a0 : Array Value} {Z : State} (hw : ∀ d ∈ tables_1, d.before a0 Z = true) : (Jvm.Cond.soleField "java/lang/String" "coder").before a0 Z = true := hw _ (List.mem_of_getElem? (i := 28) rfl)
theorem tw_29 {a0 : Array Value} {Z : State} (hw : ∀ d ∈ tables_1, d.before a0 Z = true) : (Jvm.Cond.fieldLink "java/lang/String" (9 : Nat) "java/lang/String" "value" "[B").before a0 Z = true := hw _ (List.mem_of_getElem? (i := 29) rfl)
theorem tw_30 {a0 : Array Value} {Z : State} (hw : ∀ d ∈ tables_1, d.before a0 Z = true) : (Jvm.Cond.fieldLink "java/lang/String" (15 : Nat) "java/lang/String" "coder" "B").before a0 Z = true := hw _ (List.mem_of_getElem? (i := 30) rfl)
theorem tw_31 {a0 : Array Value} {Z : State} (hw : ∀ d ∈ tables_1, d.before a0 Z = true) : (Jvm.Cond.methodLink "com/example/sunder/sunder/CodePointOrderComparePinLaw" (17 : Nat) ({ cls := "com/example/sunder/sunder/CodePointOrderComparePinLaw", name := "decode", desc := "([CI)[I" } : Jvm.MethodName)).before a0 Z = true := hw _ (List.mem_of_getElem? (i := 31) rfl)
theorem tw_32 {a0 : Array Value} {Z : State} (hw : ∀ d ∈ tables_1, d.before a0 Z = true) : (Jvm.Cond.static ({ cls := "com/example/sunder/sunder/CodePointOrderComparePinLaw", name := "decode", desc := "([CI)[I" } : Jvm.MethodName)).before a0 Z = true := hw _ (List.mem_of_getElem? (i := 32) rfl)
theorem tw_33 {a0 : Array Value} {Z : State} (hw : ∀ d ∈ tables_1, d.before a0 Z = true) : (Jvm.Cond.code ({ cls := "com/example/sunder/sunder/CodePointOrderComparePinLaw", name := "decode", desc := "([CI)[I" } : Jvm.MethodName) method_6_code (6 : Nat) (Option.some (Jvm.ClassFile.FieldType.array Jvm.ClassFile.FieldType.int))).before a0 Z = true := hw _ (List.mem_of_getElem? (i := 33) rfl)
theorem tw_34 {a0 : Array Value} {Z : State} (hw : ∀ d ∈ tables_1, d.before a0 Z = true) : (Jvm.Cond.arrayClass Jvm.ClassFile.FieldType.int).before a0 Z = true := hw _ (List.mem_of_getElem? (i := 34) rfl)
theorem tw_35 {a0 : Array Value} {Z : State} (hw : ∀ d ∈ tables_1, d.before a0 Z = true) : (Jvm.Cond.methodLink "com/example/sunder/sunder/CodePointOrderComparePinLaw" (21 : Nat) ({ cls := "com/example/sunder/sunder/CodePointOrderComparePinLaw", name := "ref", desc := "([I[I)I" } : Jvm.MethodName)).before a0 Z = true := hw _ (List.mem_of_getElem? (i := 35) rfl)
theorem tw_36 {a0 : Array Value} {Z : State} (hw : ∀ d ∈ tables_1, d.before a0 Z = true) : (Jvm.Cond.static ({ cls := "com/example/sunder/sunder/CodePointOrderComparePinLaw", name := "ref", desc := "([I[I)I" } : Jvm.MethodName)).before a0 Z = true := hw _ (List.mem_of_getElem? (i := 36) rfl)
theorem tw_37 {a0 : Array Value} {Z : State} (hw : ∀ d ∈ tables_1, d.before a0 Z = true) : (Jvm.Cond.code ({ cls := "com/example/sunder/sunder/CodePointOrderComparePinLaw", name := "ref", desc := "([I[I)I" } : Jvm.MethodName) method_7_code (5 : Nat) (Option.some Jvm.ClassFile.FieldType.int)).before a0 Z = true := hw _ (List.mem_of_getElem? (i := 37) rfl)
theorem tw_38 {a0 : Array Value} {Z : State} (hw : ∀ d ∈ tables_1, d.before a0 Z = true) : (Jvm.Cond.methodLink "com/example/sunder/sunder/CodePointOrderComparePinLaw" (47 : Nat) ({ cls := "java/lang/Math", name := "min", desc := "(II)I" } : Jvm.MethodName)).before a0 Z = true := hw _ (List.mem_of_getElem? (i := 38) rfl)
theorem tw_39 {a0 : Array Value} {Z : State} (hw : ∀ d ∈ tables_1, d.before a0 Z = true) : (Jvm.Cond.static ({ cls := "java/lang/Math", name := "min", desc := "(II)I" } : Jvm.MethodName)).before a0 Z = true := hw _ (List.mem_of_getElem? (i := 39) rfl)
theorem tw_40 {a0 : Array Value} {Z : State} (hw : ∀ d ∈ tables_1, d.before a0 Z = true) : (Jvm.Cond.initialized "java/lang/Math").before a0 Z = true := hw _ (List.mem_of_getElem? (i := 40) rfl)
theorem tw_41 {a0 : Array Value} {Z : State} (hw : ∀ d ∈ tables_1, d.before a0 Z = true) : (Jvm.Cond.code ({ cls := "java/lang/Math", name := "min", desc := "(II)I" } : Jvm.MethodName) jdk_29_method_69_code (2 : Nat) (Option.some Jvm.ClassFile.FieldType.int)).before a0 Z = true := hw _ (List.mem_of_getElem? (i := 41) rfl)
theorem tw_42 {a0 : Array Value} {Z : State} (hw : ∀ d ∈ tables_1, d.before a0 Z = true) : (Jvm.Cond.methodLink "com/example/sunder/sunder/CodePointOrderComparePinLaw" (25 : Nat) ({ cls := "com/example/sunder/sunder/CodePointOrder", name := "compare", desc := "(Ljava/lang/String;Ljava/lang/String;)I" } : Jvm.MethodName)).before a0 Z = true := hw _ (List.mem_of_getElem? (i := 42) rfl)
theorem tw_43 {a0 : Array Value} {Z : State} (hw : ∀ d ∈ tables_1, d.before a0 Z = true) : (Jvm.Cond.static ({ cls := "com/example/sunder/sunder/CodePointOrder", name := "compare", desc := "(Ljava/lang/String;Ljava/lang/String;)I" } : Jvm.MethodName)).before a0 Z = true := hw _ (List.mem_of_getElem? (i := 43) rfl)
theorem tw_44 {a0 : Array Value} {Z : State} (hw : ∀ d ∈ tables_1, d.before a0 Z = true) : (Jvm.Cond.initialized "com/example/sunder/sunder/CodePointOrder").before a0 Z = true := hw _ (List.mem_of_getElem? (i := 44) rfl)
theorem tw_45 {a0 : Array Value} {Z : State} (hw : ∀ d ∈ tables_1, d.before a0 Z = true) : (Jvm.Cond.code ({ cls := "com/example/sunder/sunder/CodePointOrder", name := "compare", desc := "(Ljava/lang/String;Ljava/lang/String;)I" } : Jvm.MethodName) prog_3_method_2_code (5 : Nat) (Option.some Jvm.ClassFile.FieldType.int)).before a0 Z = true := hw _ (List.mem_of_getElem? (i := 45) rfl)
theorem tw_46 {a0 : Array Value} {Z : State} (hw : ∀ d ∈ tables_1, d.before a0 Z = true) : (Jvm.Cond.methodLink "com/example/sunder/sunder/CodePointOrder" (7 : Nat) ({ cls := "java/lang/String", name := "length", desc := "()I" } : Jvm.MethodName)).before a0 Z = true := hw _ (List.mem_of_getElem? (i := 46) rfl)
theorem tw_47 {a0 : Array Value} {Z : State} (hw : ∀ d ∈ tables_1, d.before a0 Z = true) : (Jvm.Cond.declares ({ cls := "java/lang/String", name := "length", desc := "()I" } : Jvm.MethodName)).before a0 Z = true := hw _ (List.mem_of_getElem? (i := 47) rfl)
theorem tw_48 {a0 : Array Value} {Z : State} (hw : ∀ d ∈ tables_1, d.before a0 Z = true) : (Jvm.Cond.instanceMethod ({ cls := "java/lang/String", name := "length", desc := "()I" } : Jvm.MethodName)).before a0 Z = true := hw _ (List.mem_of_getElem? (i := 48) rfl)
theorem tw_49 {a0 : Array Value} {Z : State} (hw : ∀ d ∈ tables_1, d.before a0 Z = true) : (Jvm.Cond.selects "java/lang/String" ({ cls := "java/lang/String", name := "length", desc := "()I" } : Jvm.MethodName) ({ cls := "java/lang/String", name := "length", desc := "()I" } : Jvm.MethodName)).before a0 Z = true := hw _ (List.mem_of_getElem? (i := 49) rfl)
theorem tw_50 {a0 : Array Value} {Z : State} (hw : ∀ d ∈ tables_1, d.before a0 Z = true) : (Jvm.Cond.code ({ cls := "java/lang/String", name := "length", desc := "()I" } : Jvm.MethodName) jdk_42_method_54_code (1 : Nat) (Option.some Jvm.ClassFile.FieldType.int)).before a0 Z = true := hw _ (List.mem_of_getElem? (i := 50) rfl)
theorem tw_51 {a0 : Array Value} {Z : State} (hw : ∀ d ∈ tables_1, d.before a0 Z = true) : (Jvm.Cond.methodLink "java/lang/String" (335 : Nat) ({ cls := "java/lang/String", name := "coder", desc := "()B" } : Jvm.MethodName)).before a0 Z = true := hw _ (List.mem_of_getElem? (i := 51) rfl)
theorem tw_52 {a0 : Array Value} {Z : State} (hw : ∀ d ∈ tables_1, d.before a0 Z = true) : (Jvm.Cond.declares ({ cls := "java/lang/String", name := "coder", desc := "()B" } : Jvm.MethodName)).before a0 Z = true := hw _ (List.mem_of_getElem? (i := 52) rfl)
theorem tw_53 {a0 : Array Value} {Z : State} (hw : ∀ d ∈ tables_1, d.before a0 Z = true) : (Jvm.Cond.instanceMethod ({ cls := "java/lang/String", name := "coder", desc := "()B" } : Jvm.MethodName)).before a0 Z = true := hw _ (List.mem_of_getElem? (i := 53) rfl)
theorem tw_54 {a0 : Array Value} {Z : State} (hw : ∀ d ∈ tables_1, d.before a0 Z = true) : (Jvm.Cond.selects "java/lang/String" ({ cls := "java/lang/String", name := "coder", desc := "()B" } : Jvm.MethodName) ({ cls := "java/lang/String", name := "coder", desc := "()B" } : Jvm.MethodName)).before a0 Z = true := hw _ (List.mem_of_getElem? (i := 54) rfl)
theorem tw_55 {a0 : Array Value} {Z : State} (hw : ∀ d ∈ tables_1, d.before a0 Z = true) : (Jvm.Cond.code ({ cls := "java/lang/String", name := "coder", desc := "()B" } : Jvm.MethodName) jdk_42_method_152_code (1 : Nat) (Option.some Jvm.ClassFile.FieldType.byte)).before a0 Z = true := hw _ (List.mem_of_getElem? (i := 55) rfl)
theorem tw_56 {a0 : Array Value} {Z : State} (hw : ∀ d ∈ tables_1, d.before a0 Z = true) : (Jvm.Cond.fieldLink "java/lang/String" (38 : Nat) "java/lang/String" "COMPACT_STRINGS" "Z").before a0 Z = true := hw _ (List.mem_of_getElem? (i := 56) rfl)
theorem tw_57 {a0 : Array Value} {Z : State} (hw : ∀ d ∈ tables_1, d.before a0 Z = true) : (Jvm.Cond.methodLink "com/example/sunder/sunder/CodePointOrder" (17 : Nat) ({ cls := "java/lang/Integer", name := "compare", desc := "(II)I" } : Jvm.MethodName)).before a0 Z = true := hw _ (List.mem_of_getElem? (i := 57) rfl)
theorem tw_58 {a0 : Array Value} {Z : State} (hw : ∀ d ∈ tables_1, d.before a0 Z = true) : (Jvm.Cond.static ({ cls := "java/lang/Integer", name := "compare", desc := "(II)I" } : Jvm.MethodName)).before a0 Z = true := hw _ (List.mem_of_getElem? (i := 58) rfl)
theorem tw_59 {a0 : Array Value} {Z : State} (hw : ∀ d ∈ tables_1, d.before a0 Z = true) : (Jvm.Cond.initialized "java/lang/Integer").before a0 Z = true := hw _ (List.mem_of_getElem? (i := 59) rfl)
theorem tw_60 {a0 : Array Value} {Z : State} (hw : ∀ d ∈ tables_1, d.before a0 Z = true) : (Jvm.Cond.code ({ cls := "java/lang/Integer", name := "compare", desc := "(II)I" } : Jvm.MethodName) jdk_33_method_40_code (2 : Nat) (Option.some Jvm.ClassFile.FieldType.int)).before a0 Z = true := hw _ (List.mem_of_getElem? (i := 60) rfl)
theorem tw_61 {a0 : Array Value} {Z : State} (hw : ∀ d ∈ tables_1, d.before a0 Z = true) : (Jvm.Cond.constant "com/example/sunder/sunder/CodePointOrderComparePinLaw" (34 : Nat) (56319 : Int32)).before a0 Z = true := hw _ (List.mem_of_getElem? (i := 61) rfl)
theorem tw_62 {a0 : Array Value} {Z : State} (hw : ∀ d ∈ tables_1, d.before a0 Z = true) : (Jvm.Cond.methodLink "java/lang/String" (177 : Nat) ({ cls := "java/lang/StringUTF16", name := "compress", desc := "([CII)[B" } : Jvm.MethodName)).before a0 Z = true := hw _ (List.mem_of_getElem? (i := 62) rfl)
theorem tw_63 {a0 : Array Value} {Z : State} (hw : ∀ d ∈ tables_1, d.before a0 Z = true) : (Jvm.Cond.static ({ cls := "java/lang/StringUTF16", name := "compress", desc := "([CII)[B" } : Jvm.MethodName)).before a0 Z = true := hw _ (List.mem_of_getElem? (i := 63) rfl)
theorem tw_64 {a0 : Array Value} {Z : State} (hw : ∀ d ∈ tables_1, d.before a0 Z = true) : (Jvm.Cond.initialized "java/lang/StringUTF16").before a0 Z = true := hw _ (List.mem_of_getElem? (i := 64) rfl)
theorem tw_65 {a0 : Array Value} {Z : State} (hw : ∀ d ∈ tables_1, d.before a0 Z = true) : (Jvm.Cond.code ({ cls := "java/lang/StringUTF16", name := "compress", desc := "([CII)[B" } : Jvm.MethodName) jdk_52_method_16_code (6 : Nat) (Option.some (Jvm.ClassFile.FieldType.array Jvm.ClassFile.FieldType.byte))).before a0 Z = true := hw _ (List.mem_of_getElem? (i := 65) rfl)
theorem tw_66 {a0 : Array Value} {Z : State} (hw : ∀ d ∈ tables_1, d.before a0 Z = true) : (Jvm.Cond.methodLink "java/lang/StringUTF16" (115 : Nat) ({ cls := "java/lang/StringUTF16", name := "compress", desc := "([CI[BII)I" } : Jvm.MethodName)).before a0 Z = true := hw _ (List.mem_of_getElem? (i := 66) rfl)
theorem tw_67 {a0 : Array Value} {Z : State} (hw : ∀ d ∈ tables_1, d.before a0 Z = true) : (Jvm.Cond.static ({ cls := "java/lang/StringUTF16", name := "compress", desc := "([CI[BII)I" } : Jvm.MethodName)).before a0 Z = true := hw _ (List.mem_of_getElem? (i := 67) rfl)
theorem tw_68 {a0 : Array Value} {Z : State} (hw : ∀ d ∈ tables_1, d.before a0 Z = true) : (Jvm.Cond.code ({ cls := "java/lang/StringUTF16", name := "compress", desc := "([CI[BII)I" } : Jvm.MethodName) jdk_52_method_21_code (7 : Nat) (Option.some Jvm.ClassFile.FieldType.int)).before a0 Z = true := hw _ (List.mem_of_getElem? (i := 68) rfl)
theorem tw_69 {a0 : Array Value} {Z : State} (hw : ∀ d ∈ tables_1, d.before a0 Z = true) : (Jvm.Cond.methodLink "java/lang/StringUTF16" (119 : Nat) ({ cls := "java/lang/StringUTF16", name := "toBytes", desc := "([CII)[B" } : Jvm.MethodName)).before a0 Z = true := hw _ (List.mem_of_getElem? (i := 69) rfl)
theorem tw_70 {a0 : Array Value} {Z : State} (hw : ∀ d ∈ tables_1, d.before a0 Z = true) : (Jvm.Cond.static ({ cls := "java/lang/StringUTF16", name := "toBytes", desc := "([CII)[B" } : Jvm.MethodName)).before a0 Z = true := hw _ (List.mem_of_getElem? (i := 70) rfl)
theorem tw_71 {a0 : Array Value} {Z : State} (hw : ∀ d ∈ tables_1, d.before a0 Z = true) : (Jvm.Cond.code ({ cls := "java/lang/StringUTF16", name := "toBytes", desc := "([CII)[B" } : Jvm.MethodName) jdk_52_method_14_code (5 : Nat) (Option.some (Jvm.ClassFile.FieldType.array Jvm.ClassFile.FieldType.byte))).before a0 Z = true := hw _ (List.mem_of_getElem? (i := 71) rfl)
theorem tw_72 {a0 : Array Value} {Z : State} (hw : ∀ d ∈ tables_1, d.before a0 Z = true) : (Jvm.Cond.methodLink "java/lang/StringUTF16" (107 : Nat) ({ cls := "java/lang/StringUTF16", name := "newBytesFor", desc := "(I)[B" } : Jvm.MethodName)).before a0 Z = true := hw _ (List.mem_of_getElem? (i := 72) rfl)
theorem tw_73 {a0 : Array Value} {Z : State} (hw : ∀ d ∈ tables_1, d.before a0 Z = true) : (Jvm.Cond.static ({ cls := "java/lang/StringUTF16", name := "newBytesFor", desc := "(I)[B" } : Jvm.MethodName)).before a0 Z = true := hw _ (List.mem_of_getElem? (i := 73) rfl)
theorem tw_74 {a0 : Array Value} {Z : State} (hw : ∀ d ∈ tables_1, d.before a0 Z = true) : (Jvm.Cond.code ({ cls := "java/lang/StringUTF16", name := "newBytesFor", desc := "(I)[B" } : Jvm.MethodName) jdk_52_method_2_code (1 : Nat) (Option.some (Jvm.ClassFile.FieldType.array Jvm.ClassFile.FieldType.byte))).before a0 Z = true := hw _ (List.mem_of_getElem? (i := 74) rfl)
theorem tw_75 {a0 : Array Value} {Z : State} (hw : ∀ d ∈ tables_1, d.before a0 Z = true) : (Jvm.Cond.methodLink "java/lang/StringUTF16" (11 : Nat) ({ cls := "java/lang/StringUTF16", name := "newBytesLength", desc := "(I)I" } : Jvm.MethodName)).before a0 Z = true := hw _ (List.mem_of_getElem? (i := 75) rfl)
theorem tw_76 {a0 : Array Value} {Z : State} (hw : ∀ d ∈ tables_1, d.before a0 Z = true) : (Jvm.Cond.static ({ cls := "java/lang/StringUTF16", name := "newBytesLength", desc := "(I)I" } : Jvm.MethodName)).before a0 Z = true := hw _ (List.mem_of_getElem? (i := 76) rfl)
theorem tw_77 {a0 : Array Value} {Z : State} (hw : ∀ d ∈ tables_1, d.before a0 Z = true) : (Jvm.Cond.code ({ cls := "java/lang/StringUTF16", name := "newBytesLength", desc := "(I)I" } : Jvm.MethodName) jdk_52_method_3_code (1 : Nat) (Option.some Jvm.ClassFile.FieldType.int)).before a0 Z = true := hw _ (List.mem_of_getElem? (i := 77) rfl)
theorem tw_78 {a0 : Array Value} {Z : State} (hw : ∀ d ∈ tables_1, d.before a0 Z = true) : (Jvm.Cond.constant "java/lang/StringUTF16" (20 : Nat) (1073741823 : Int32)).before a0 Z = true := hw _ (List.mem_of_getElem? (i := 78) rfl)
theorem tw_79 {a0 : Array Value} {Z : State} (hw : ∀ d ∈ tables_1, d.before a0 Z = true) : (Jvm.Cond.methodLink "java/lang/StringUTF16" (111 : Nat) ({ cls := "java/lang/StringUTF16", name := "putChar", desc := "([BII)V" } : Jvm.MethodName)).before a0 Z = true := hw _ (List.mem_of_getElem? (i := 79) rfl)
theorem tw_80 {a0 : Array Value} {Z : State} (hw : ∀ d ∈ tables_1, d.before a0 Z = true) : (Jvm.Cond.static ({ cls := "java/lang/StringUTF16", name := "putChar", desc := "([BII)V" } : Jvm.MethodName)).before a0 Z = true := hw _ (List.mem_of_getElem? (i := 80) rfl)
theorem tw_81 {a0 : Array Value} {Z : State} (hw : ∀ d ∈ tables_1, d.before a0 Z = true) : (Jvm.Cond.code ({ cls := "java/lang/StringUTF16", name := "putChar", desc := "([BII)V" } : Jvm.MethodName) jdk_52_method_4_code (3 : Nat) (Option.none : Option Jvm.ClassFile.FieldType)).before a0 Z = true := hw _ (List.mem_of_getElem? (i := 81) rfl)
theorem tw_82 {a0 : Array Value} {Z : State} (hw : ∀ d ∈ tables_1, d.before a0 Z = true) : (Jvm.Cond.fieldLink "java/lang/StringUTF16" (44 : Nat) "java/lang/StringUTF16" "$assertionsDisabled" "Z").before a0 Z = true := hw _ (List.mem_of_getElem? (i := 82) rfl)
theorem tw_83 {a0 : Array Value} {Z : State} (hw : ∀ d ∈ tables_1, d.before a0 Z = true) : (Jvm.Cond.fieldLink "java/lang/StringUTF16" (59 : Nat) "java/lang/StringUTF16" "HI_BYTE_SHIFT" "I").before a0 Z = true := hw _ (List.mem_of_getElem? (i := 83) rfl)
theorem tw_84 {a0 : Array Value} {Z : State} (hw : ∀ d ∈ tables_1, d.before a0 Z = true) : (Jvm.Cond.fieldLink "java/lang/StringUTF16" (63 : Nat) "java/lang/StringUTF16" "LO_BYTE_SHIFT" "I").before a0 Z = true := hw _ (List.mem_of_getElem? (i := 84) rfl)
theorem tw_85 {a0 : Array Value} {Z : State} (hw : ∀ d ∈ tables_1, d.before a0 Z = true) : (Jvm.Cond.methodLink "java/lang/StringUTF16" (71 : Nat) ({ cls := "java/lang/StringUTF16", name := "getChar", desc := "([BI)C" } : Jvm.MethodName)).before a0 Z = true := hw _ (List.mem_of_getElem? (i := 85) rfl)
theorem tw_86 {a0 : Array Value} {Z : State} (hw : ∀ d ∈ tables_1, d.before a0 Z = true) : (Jvm.Cond.static ({ cls := "java/lang/StringUTF16", name := "getChar", desc := "([BI)C" } : Jvm.MethodName)).before a0 Z = true := hw _ (List.mem_of_getElem? (i := 86) rfl)
theorem tw_87 {a0 : Array Value} {Z : State} (hw : ∀ d ∈ tables_1, d.before a0 Z = true) : (Jvm.Cond.code ({ cls := "java/lang/StringUTF16", name := "getChar", desc := "([BI)C" } : Jvm.MethodName) jdk_52_method_5_code (2 : Nat) (Option.some Jvm.ClassFile.FieldType.char)).before a0 Z = true := hw _ (List.mem_of_getElem? (i := 87) rfl)
theorem tw_88 {a0 : Array Value} {Z : State} (hw : ∀ d ∈ tables_1, d.before a0 Z = true) : (Jvm.Cond.methodLink "java/lang/String" (47 : Nat) ({ cls := "java/lang/StringUTF16", name := "coderFromArrayLen", desc := "([BI)B" } : Jvm.MethodName)).before a0 Z = true := hw _ (List.mem_of_getElem? (i := 88) rfl)
theorem tw_89 {a0 : Array Value} {Z : State} (hw : ∀ d ∈ tables_1, d.before a0 Z = true) : (Jvm.Cond.static ({ cls := "java/lang/StringUTF16", name := "coderFromArrayLen", desc := "([BI)B" } : Jvm.MethodName)).before a0 Z = true := hw _ (List.mem_of_getElem? (i := 89) rfl)
theorem tw_90 {a0 : Array Value} {Z : State} (hw : ∀ d ∈ tables_1, d.before a0 Z = true) : (Jvm.Cond.code ({ cls := "java/lang/StringUTF16", name := "coderFromArrayLen", desc := "([BI)B" } : Jvm.MethodName) jdk_52_method_15_code (2 : Nat) (Option.some Jvm.ClassFile.FieldType.byte)).before a0 Z = true := hw _ (List.mem_of_getElem? (i := 90) rfl)
theorem tw_91 {a0 : Array Value} {Z : State} (hw : ∀ d ∈ tables_1, d.before a0 Z = true) : (Jvm.Cond.methodLink "com/example/sunder/sunder/CodePointOrderComparePinLaw" (43 : Nat) ({ cls := "com/example/sunder/sunder/CodePointOrderComparePinLaw", name := "cp", desc := "([CII)I" } : Jvm.MethodName)).before a0 Z = true := hw _ (List.mem_of_getElem? (i := 91) rfl)
theorem tw_92 {a0 : Array Value} {Z : State} (hw : ∀ d ∈ tables_1, d.before a0 Z = true) : (Jvm.Cond.static ({ cls := "com/example/sunder/sunder/CodePointOrderComparePinLaw", name := "cp", desc := "([CII)I" } : Jvm.MethodName)).before a0 Z = true := hw _ (List.mem_of_getElem? (i := 92) rfl)
theorem tw_93 {a0 : Array Value} {Z : State} (hw : ∀ d ∈ tables_1, d.before a0 Z = true) : (Jvm.Cond.code ({ cls := "com/example/sunder/sunder/CodePointOrderComparePinLaw", name := "cp", desc := "([CII)I" } : Jvm.MethodName) method_5_code (5 : Nat) (Option.some Jvm.ClassFile.FieldType.int)).before a0 Z = true := hw _ (List.mem_of_getElem? (i := 93) rfl)
theorem tw_94 {a0 : Array Value} {Z : State} (hw : ∀ d ∈ tables_1, d.before a0 Z = true) : (Jvm.Cond.constant "com/example/sunder/sunder/CodePointOrderComparePinLaw" (33 : Nat) (55296 : Int32)).before a0 Z = true := hw _ (List.mem_of_getElem? (i := 94) rfl)
theorem tw_95 {a0 : Array Value} {Z : State} (hw : ∀ d ∈ tables_1, d.before a0 Z = true) : (Jvm.Cond.constant "com/example/sunder/sunder/CodePointOrderComparePinLaw" (35 : Nat) (56320 : Int32)).before a0 Z = true := hw _ (List.mem_of_getElem? (i := 95) rfl)
theorem tw_96 {a0 : Array Value} {Z : State} (hw : ∀ d ∈ tables_1, d.before a0 Z = true) : (Jvm.Cond.constant "com/example/sunder/sunder/CodePointOrderComparePinLaw" (37 : Nat) (57344 : Int32)).before a0 Z = true := hw _ (List.mem_of_getElem? (i := 96) rfl)
theorem tw_97 {a0 : Array Value} {Z : State} (hw : ∀ d ∈ tables_1, d.before a0 Z = true) : (Jvm.Cond.constant "com/example/sunder/sunder/CodePointOrderComparePinLaw" (36 : Nat) (57343 : Int32)).before a0 Z = true := hw _ (List.mem_of_getElem? (i := 97) rfl)
theorem tw_98 {a0 : Array Value} {Z : State} (hw : ∀ d ∈ tables_1, d.before a0 Z = true) : (Jvm.Cond.methodLink "com/example/sunder/sunder/CodePointOrder" (13 : Nat) ({ cls := "java/lang/String", name := "codePointAt", desc := "(I)I" } : Jvm.MethodName)).before a0 Z = true := hw _ (List.mem_of_getElem? (i := 98) rfl)
theorem tw_99 {a0 : Array Value} {Z : State} (hw : ∀ d ∈ tables_1, d.before a0 Z = true) : (Jvm.Cond.declares ({ cls := "java/lang/String", name := "codePointAt", desc := "(I)I" } : Jvm.MethodName)).before a0 Z = true := hw _ (List.mem_of_getElem? (i := 99) rfl)
theorem tw_100 {a0 : Array Value} {Z : State} (hw : ∀ d ∈ tables_1, d.before a0 Z = true) : (Jvm.Cond.instanceMethod ({ cls := "java/lang/String", name := "codePointAt", desc := "(I)I" } : Jvm.MethodName)).before a0 Z = true := hw _ (List.mem_of_getElem? (i := 100) rfl)
theorem tw_101 {a0 : Array Value} {Z : State} (hw : ∀ d ∈ tables_1, d.before a0 Z = true) : (Jvm.Cond.selects "java/lang/String" ({ cls := "java/lang/String", name := "codePointAt", desc := "(I)I" } : Jvm.MethodName) ({ cls := "java/lang/String", name := "codePointAt", desc := "(I)I" } : Jvm.MethodName)).before a0 Z = true := hw _ (List.mem_of_getElem? (i := 101) rfl)
theorem tw_102 {a0 : Array Value} {Z : State} (hw : ∀ d ∈ tables_1, d.before a0 Z = true) : (Jvm.Cond.code ({ cls := "java/lang/String", name := "codePointAt", desc := "(I)I" } : Jvm.MethodName) jdk_42_method_57_code (3 : Nat) (Option.some Jvm.ClassFile.FieldType.int)).before a0 Z = true := hw _ (List.mem_of_getElem? (i := 102) rfl)
theorem tw_103 {a0 : Array Value} {Z : State} (hw : ∀ d ∈ tables_1, d.before a0 Z = true) : (Jvm.Cond.methodLink "java/lang/String" (492 : Nat) ({ cls := "java/lang/String", name := "isLatin1", desc := "()Z" } : Jvm.MethodName)).before a0 Z = true := hw _ (List.mem_of_getElem? (i := 103) rfl)
theorem tw_104 {a0 : Array Value} {Z : State} (hw : ∀ d ∈ tables_1, d.before a0 Z = true) : (Jvm.Cond.declares ({ cls := "java/lang/String", name := "isLatin1", desc := "()Z" } : Jvm.MethodName)).before a0 Z = true := hw _ (List.mem_of_getElem? (i := 104) rfl)
theorem tw_105 {a0 : Array Value} {Z : State} (hw : ∀ d ∈ tables_1, d.before a0 Z = true) : (Jvm.Cond.instanceMethod ({ cls := "java/lang/String", name := "isLatin1", desc := "()Z" } : Jvm.MethodName)).before a0 Z = true := hw _ (List.mem_of_getElem? (i := 105) rfl)
theorem tw_106 {a0 : Array Value} {Z : State} (hw : ∀ d ∈ tables_1, d.before a0 Z = true) : (Jvm.Cond.selects "java/lang/String" ({ cls := "java/lang/String", name := "isLatin1", desc := "()Z" } : Jvm.MethodName) ({ cls := "java/lang/String", name := "isLatin1", desc := "()Z" } : Jvm.MethodName)).before a0 Z = true := hw _ (List.mem_of_getElem? (i := 106) rfl)
theorem tw_107 {a0 : Array Value} {Z : State} (hw : ∀ d ∈ tables_1, d.before a0 Z = true) : (Jvm.Cond.code ({ cls := "java/lang/String", name := "isLatin1", desc := "()Z" } : Jvm.MethodName) jdk_42_method_154_code (1 : Nat) (Option.some Jvm.ClassFile.FieldType.boolean)).before a0 Z = true := hw _ (List.mem_of_getElem? (i := 107) rfl)
theorem tw_108 {a0 : Array Value} {Z : State} (hw : ∀ d ∈ tables_1, d.before a0 Z = true) : (Jvm.Cond.methodLink "java/lang/String" (499 : Nat) ({ cls := "java/lang/String", name := "checkIndex", desc := "(II)V" } : Jvm.MethodName)).before a0 Z = true := hw _ (List.mem_of_getElem? (i := 108) rfl)
theorem tw_109 {a0 : Array Value} {Z : State} (hw : ∀ d ∈ tables_1, d.before a0 Z = true) : (Jvm.Cond.static ({ cls := "java/lang/String", name := "checkIndex", desc := "(II)V" } : Jvm.MethodName)).before a0 Z = true := hw _ (List.mem_of_getElem? (i := 109) rfl)
theorem tw_110 {a0 : Array Value} {Z : State} (hw : ∀ d ∈ tables_1, d.before a0 Z = true) : (Jvm.Cond.code ({ cls := "java/lang/String", name := "checkIndex", desc := "(II)V" } : Jvm.MethodName) jdk_42_method_155_code (2 : Nat) (Option.none : Option Jvm.ClassFile.FieldType)).before a0 Z = true := hw _ (List.mem_of_getElem? (i := 110) rfl)
theorem tw_111 {a0 : Array Value} {Z : State} (hw : ∀ d ∈ tables_1, d.before a0 Z = true) : (Jvm.Cond.fieldLink "java/lang/String" (1053 : Nat) "jdk/internal/util/Preconditions" "SIOOBE_FORMATTER" "Ljava/util/function/BiFunction;").before a0 Z = true := hw _ (List.mem_of_getElem? (i := 111) rfl)
theorem tw_112 {a0 : Array Value} {Z : State} (hw : ∀ d ∈ tables_1, d.before a0 Z = true) : (Jvm.Cond.initialized "jdk/internal/util/Preconditions").before a0 Z = true := hw _ (List.mem_of_getElem? (i := 112) rfl)
theorem tw_113 {a0 : Array Value} {Z : State} (hw : ∀ d ∈ tables_1, d.before a0 Z = true) : (Jvm.Cond.methodLink "java/lang/String" (1059 : Nat) ({ cls := "jdk/internal/util/Preconditions", name := "checkIndex", desc := "(IILjava/util/function/BiFunction;)I" } : Jvm.MethodName)).before a0 Z = true := hw _ (List.mem_of_getElem? (i := 113) rfl)
theorem tw_114 {a0 : Array Value} {Z : State} (hw : ∀ d ∈ tables_1, d.before a0 Z = true) : (Jvm.Cond.static ({ cls := "jdk/internal/util/Preconditions", name := "checkIndex", desc := "(IILjava/util/function/BiFunction;)I" } : Jvm.MethodName)).before a0 Z = true := hw _ (List.mem_of_getElem? (i := 114) rfl)
theorem tw_115 {a0 : Array Value} {Z : State} (hw : ∀ d ∈ tables_1, d.before a0 Z = true) : (Jvm.Cond.code ({ cls := "jdk/internal/util/Preconditions", name := "checkIndex", desc := "(IILjava/util/function/BiFunction;)I" } : Jvm.MethodName) jdk_41_method_11_code (3 : Nat) (Option.some Jvm.ClassFile.FieldType.int)).before a0 Z = true := hw _ (List.mem_of_getElem? (i := 115) rfl)
theorem tw_116 {a0 : Array Value} {Z : State} (hw : ∀ d ∈ tables_1, d.before a0 Z = true) : (Jvm.Cond.methodLink "java/lang/String" (502 : Nat) ({ cls := "java/lang/StringUTF16", name := "codePointAt", desc := "([BII)I" } : Jvm.MethodName)).before a0 Z = true := hw _ (List.mem_of_getElem? (i := 116) rfl)
theorem tw_117 {a0 : Array Value} {Z : State} (hw : ∀ d ∈ tables_1, d.before a0 Z = true) : (Jvm.Cond.static ({ cls := "java/lang/StringUTF16", name := "codePointAt", desc := "([BII)I" } : Jvm.MethodName)).before a0 Z = true := hw _ (List.mem_of_getElem? (i := 117) rfl)
theorem tw_118 {a0 : Array Value} {Z : State} (hw : ∀ d ∈ tables_1, d.before a0 Z = true) : (Jvm.Cond.code ({ cls := "java/lang/StringUTF16", name := "codePointAt", desc := "([BII)I" } : Jvm.MethodName) jdk_52_method_8_code (3 : Nat) (Option.some Jvm.ClassFile.FieldType.int)).before a0 Z = true := hw _ (List.mem_of_getElem? (i := 118) rfl)
theorem tw_119 {a0 : Array Value} {Z : State} (hw : ∀ d ∈ tables_1, d.before a0 Z = true) : (Jvm.Cond.methodLink "java/lang/StringUTF16" (88 : Nat) ({ cls := "java/lang/StringUTF16", name := "codePointAt", desc := "([BIIZ)I" } : Jvm.MethodName)).before a0 Z = true := hw _ (List.mem_of_getElem? (i := 119) rfl)
theorem tw_120 {a0 : Array Value} {Z : State} (hw : ∀ d ∈ tables_1, d.before a0 Z = true) : (Jvm.Cond.static ({ cls := "java/lang/StringUTF16", name := "codePointAt", desc := "([BIIZ)I" } : Jvm.MethodName)).before a0 Z = true := hw _ (List.mem_of_getElem? (i := 120) rfl)
theorem tw_121 {a0 : Array Value} {Z : State} (hw : ∀ d ∈ tables_1, d.before a0 Z = true) : (Jvm.Cond.code ({ cls := "java/lang/StringUTF16", name := "codePointAt", desc := "([BIIZ)I" } : Jvm.MethodName) jdk_52_method_7_code (6 : Nat) (Option.some Jvm.ClassFile.FieldType.int)).before a0 Z = true := hw _ (List.mem_of_getElem? (i := 121) rfl)
theorem tw_122 {a0 : Array Value} {Z : State} (hw : ∀ d ∈ tables_1, d.before a0 Z = true) : (Jvm.Cond.methodLink "java/lang/StringUTF16" (75 : Nat) ({ cls := "java/lang/Character", name := "isHighSurrogate", desc := "(C)Z" } : Jvm.MethodName)).before a0 Z = true := hw _ (List.mem_of_getElem? (i := 122) rfl)
theorem tw_123 {a0 : Array Value} {Z : State} (hw : ∀ d ∈ tables_1, d.before a0 Z = true) : (Jvm.Cond.static ({ cls := "java/lang/Character", name := "isHighSurrogate", desc := "(C)Z" } : Jvm.MethodName)).before a0 Z = true := hw _ (List.mem_of_getElem? (i := 123) rfl)
theorem tw_124 {a0 : Array Value} {Z : State} (hw : ∀ d ∈ tables_1, d.before a0 Z = true) : (Jvm.Cond.initialized "java/lang/Character").before a0 Z = true := hw _ (List.mem_of_getElem? (i := 124) rfl)
theorem tw_125 {a0 : Array Value} {Z : State} (hw : ∀ d ∈ tables_1, d.before a0 Z = true) : (Jvm.Cond.code ({ cls := "java/lang/Character", name := "isHighSurrogate", desc := "(C)Z" } : Jvm.MethodName) jdk_89_method_14_code (1 : Nat) (Option.some Jvm.ClassFile.FieldType.boolean)).before a0 Z = true := hw _ (List.mem_of_getElem? (i := 125) rfl)
theorem tw_126 {a0 : Array Value} {Z : State} (hw : ∀ d ∈ tables_1, d.before a0 Z = true) : (Jvm.Cond.constant "java/lang/Character" (75 : Nat) (55296 : Int32)).before a0 Z = true := hw _ (List.mem_of_getElem? (i := 126) rfl)
theorem tw_127 {a0 : Array Value} {Z : State} (hw : ∀ d ∈ tables_1, d.before a0 Z = true) : (Jvm.Cond.constant "java/lang/Character" (76 : Nat) (56320 : Int32)).before a0 Z = true := hw _ (List.mem_of_getElem? (i := 127) rfl)
theorem tw_128 {a0 : Array Value} {Z : State} (hw : ∀ d ∈ tables_1, d.before a0 Z = true) : (Jvm.Cond.methodLink "java/lang/StringUTF16" (81 : Nat) ({ cls := "java/lang/Character", name := "isLowSurrogate", desc := "(C)Z" } : Jvm.MethodName)).before a0 Z = true := hw _ (List.mem_of_getElem? (i := 128) rfl)
theorem tw_129 {a0 : Array Value} {Z : State} (hw : ∀ d ∈ tables_1, d.before a0 Z = true) : (Jvm.Cond.static ({ cls := "java/lang/Character", name := "isLowSurrogate", desc := "(C)Z" } : Jvm.MethodName)).before a0 Z = true := hw _ (List.mem_of_getElem? (i := 129) rfl)
theorem tw_130 {a0 : Array Value} {Z : State} (hw : ∀ d ∈ tables_1, d.before a0 Z = true) : (Jvm.Cond.code ({ cls := "java/lang/Character", name := "isLowSurrogate", desc := "(C)Z" } : Jvm.MethodName) jdk_89_method_15_code (1 : Nat) (Option.some Jvm.ClassFile.FieldType.boolean)).before a0 Z = true := hw _ (List.mem_of_getElem? (i := 130) rfl)
theorem tw_131 {a0 : Array Value} {Z : State} (hw : ∀ d ∈ tables_1, d.before a0 Z = true) : (Jvm.Cond.constant "java/lang/Character" (77 : Nat) (57344 : Int32)).before a0 Z = true := hw _ (List.mem_of_getElem? (i := 131) rfl)
theorem tw_132 {a0 : Array Value} {Z : State} (hw : ∀ d ∈ tables_1, d.before a0 Z = true) : (Jvm.Cond.methodLink "java/lang/StringUTF16" (84 : Nat) ({ cls := "java/lang/Character", name := "toCodePoint", desc := "(CC)I" } : Jvm.MethodName)).before a0 Z = true := hw _ (List.mem_of_getElem? (i := 132) rfl)
theorem tw_133 {a0 : Array Value} {Z : State} (hw : ∀ d ∈ tables_1, d.before a0 Z = true) : (Jvm.Cond.static ({ cls := "java/lang/Character", name := "toCodePoint", desc := "(CC)I" } : Jvm.MethodName)).before a0 Z = true := hw _ (List.mem_of_getElem? (i := 133) rfl)
theorem tw_134 {a0 : Array Value} {Z : State} (hw : ∀ d ∈ tables_1, d.before a0 Z = true) : (Jvm.Cond.code ({ cls := "java/lang/Character", name := "toCodePoint", desc := "(CC)I" } : Jvm.MethodName) jdk_89_method_19_code (2 : Nat) (Option.some Jvm.ClassFile.FieldType.int)).before a0 Z = true := hw _ (List.mem_of_getElem? (i := 134) rfl)
theorem tw_135 {a0 : Array Value} {Z : State} (hw : ∀ d ∈ tables_1, d.before a0 Z = true) : (Jvm.Cond.constant "java/lang/Character" (85 : Nat) (-56613888 : Int32)).before a0 Z = true := hw _ (List.mem_of_getElem? (i := 135) rfl)
theorem tw_136 {a0 : Array Value} {Z : State} (hw : ∀ d ∈ tables_1, d.before a0 Z = true) : (Jvm.Cond.methodLink "com/example/sunder/sunder/CodePointOrder" (23 : Nat) ({ cls := "java/lang/Character", name := "charCount", desc := "(I)I" } : Jvm.MethodName)).before a0 Z = true := hw _ (List.mem_of_getElem? (i := 136) rfl)
theorem tw_137 {a0 : Array Value} {Z : State} (hw : ∀ d ∈ tables_1, d.before a0 Z = true) : (Jvm.Cond.static ({ cls := "java/lang/Character", name := "charCount", desc := "(I)I" } : Jvm.MethodName)).before a0 Z = true := hw _ (List.mem_of_getElem? (i := 137) rfl)
theorem tw_138 {a0 : Array Value} {Z : State} (hw : ∀ d ∈ tables_1, d.before a0 Z = true) : (Jvm.Cond.code ({ cls := "java/lang/Character", name := "charCount", desc := "(I)I" } : Jvm.MethodName) jdk_89_method_18_code (1 : Nat) (Option.some Jvm.ClassFile.FieldType.int)).before a0 Z = true := hw _ (List.mem_of_getElem? (i := 138) rfl)
theorem tw_139 {a0 : Array Value} {Z : State} (hw : ∀ d ∈ tables_1, d.before a0 Z = true) : (Jvm.Cond.constant "java/lang/Character" (73 : Nat) (65536 : Int32)).before a0 Z = true := hw _ (List.mem_of_getElem? (i := 139) rfl)
theorem pd_0 : parseMethodDescriptor "(I)I" = some ⟨[.int], some .int⟩ := by decide +kernel
theorem pd_1 : parseMethodDescriptor "(I)[B" = some ⟨[.int], some (.array .byte)⟩ := by decide +kernel
theorem pd_2 : parseMethodDescriptor "([BII)V" = some ⟨[(.array .byte), .int, .int], none⟩ := by decide +kernel
theorem pd_3 : parseMethodDescriptor "([CI[BII)I" = some ⟨[(.array .char), .int, (.array .byte), .int, .int], some .int⟩ := by decide +kernel
theorem pd_4 : parseMethodDescriptor "([CII)[B" = some ⟨[(.array .char), .int, .int], some (.array .byte)⟩ := by decide +kernel
theorem pd_5 : parseMethodDescriptor "([BI)C" = some ⟨[(.array .byte), .int], some .char⟩ := by decide +kernel
theorem pd_6 : parseMethodDescriptor "([BI)B" = some ⟨[(.array .byte), .int], some .byte⟩ := by decide +kernel
theorem pd_7 : parseMethodDescriptor "([CIILjava/lang/Void;)V" = some ⟨[(.array .char), .int, .int, (.object "java/lang/Void")], none⟩ := by decide +kernel
theorem pd_8 : parseMethodDescriptor "()B" = some ⟨[], some .byte⟩ := by decide +kernel
theorem pd_9 : parseMethodDescriptor "(IILjava/util/function/BiFunction;)I" = some ⟨[.int, .int, (.object "java/util/function/BiFunction")], some .int⟩ := by decide +kernel
theorem pd_10 : parseMethodDescriptor "([C)V" = some ⟨[(.array .char)], none⟩ := by decide +kernel
theorem pd_11 : parseMethodDescriptor "([CII)I" = some ⟨[(.array .char), .int, .int], some .int⟩ := by decide +kernel
theorem pd_12 : parseMethodDescriptor "(II)I" = some ⟨[.int, .int], some .int⟩ := by decide +kernel
theorem pd_13 : parseMethodDescriptor "(C)Z" = some ⟨[.char], some .boolean⟩ := by decide +kernel
theorem pd_14 : parseMethodDescriptor "(CC)I" = some ⟨[.char, .char], some .int⟩ := by decide +kernel
theorem pd_15 : parseMethodDescriptor "([BIIZ)I" = some ⟨[(.array .byte), .int, .int, .boolean], some .int⟩ := by decide +kernel
theorem pd_16 : parseMethodDescriptor "()Z" = some ⟨[], some .boolean⟩ := by decide +kernel
theorem pd_17 : parseMethodDescriptor "(II)V" = some ⟨[.int, .int], none⟩ := by decide +kernel
theorem pd_18 : parseMethodDescriptor "([BII)I" = some ⟨[(.array .byte), .int, .int], some .int⟩ := by decide +kernel
theorem pd_19 : parseMethodDescriptor "()I" = some ⟨[], some .int⟩ := by decide +kernel
theorem pd_20 : parseMethodDescriptor "(I)C" = some ⟨[.int], some .char⟩ := by decide +kernel
theorem pd_21 : parseMethodDescriptor "(CCCI)Ljava/lang/String;" = some ⟨[.char, .char, .char, .int], some (.object "java/lang/String")⟩ := by decide +kernel
theorem pd_22 : parseMethodDescriptor "([CI)[I" = some ⟨[(.array .char), .int], some (.array .int)⟩ := by decide +kernel
theorem pd_23 : parseMethodDescriptor "([I[I)I" = some ⟨[(.array .int), (.array .int)], some .int⟩ := by decide +kernel
theorem pd_24 : parseMethodDescriptor "(Ljava/lang/String;Ljava/lang/String;)I" = some ⟨[(.object "java/lang/String"), (.object "java/lang/String")], some .int⟩ := by decide +kernel
theorem own_met_1_0 {K : own_Cx} {M : own_Mi} {Q : own_Q} {sf : List Addr} {h : Heap} {v0 : Value} (hpn : plainFor M.y = true) (hm : M.mx = 1) (c0 : v0.category = 1) (k : own_WP K M Q 0 [.val v0] [] sf h 0 0) : own_Met K M #[v0] sf h Q := own_met hpn (fun m => by rw [hm]; simp [entryFrame, mkF, argsToLocals, c0, List.replicate, Array.replicate]) k
theorem own_met_1_1 {K : own_Cx} {M : own_Mi} {Q : own_Q} {sf : List Addr} {h : Heap} {v0 : Value} (hpn : plainFor M.y = true) (hm : M.mx = 2) (c0 : v0.category = 1) (k : own_WP K M Q 0 [.val v0, .unset] [] sf h 0 0) : own_Met K M #[v0] sf h Q := own_met hpn (fun m => by rw [hm]; simp [entryFrame, mkF, argsToLocals, c0, List.replicate, Array.replicate]) k
theorem own_met_2_0 {K : own_Cx} {M : own_Mi} {Q : own_Q} {sf : List Addr} {h : Heap} {v0 v1 : Value} (hpn : plainFor M.y = true) (hm : M.mx = 2) (c0 : v0.category = 1) (c1 : v1.category = 1) (k : own_WP K M Q 0 [.val v0, .val v1] [] sf h 0 0) : own_Met K M #[v0, v1] sf h Q := own_met hpn (fun m => by rw [hm]; simp [entryFrame, mkF, argsToLocals, c0, c1, List.replicate, Array.replicate]) k
theorem own_met_2_1 {K : own_Cx} {M : own_Mi} {Q : own_Q} {sf : List Addr} {h : Heap} {v0 v1 : Value} (hpn : plainFor M.y = true) (hm : M.mx = 3) (c0 : v0.category = 1) (c1 : v1.category = 1) (k : own_WP K M Q 0 [.val v0, .val v1, .unset] [] sf h 0 0) : own_Met K M #[v0, v1] sf h Q := own_met hpn (fun m => by rw [hm]; simp [entryFrame, mkF, argsToLocals, c0, c1, List.replicate, Array.replicate]) k
theorem own_met_2_3 {K : own_Cx} {M : own_Mi} {Q : own_Q} {sf : List Addr} {h : Heap} {v0 v1 : Value} (hpn : plainFor M.y = true) (hm : M.mx = 5) (c0 : v0.category = 1) (c1 : v1.category = 1) (k : own_WP K M Q 0 [.val v0, .val v1, .unset, .unset, .unset] [] sf h 0 0) : own_Met K M #[v0, v1] sf h Q := own_met hpn (fun m => by rw [hm]; simp [entryFrame, mkF, argsToLocals, c0, c1, List.replicate, Array.replicate]) k
theorem own_met_2_4 {K : own_Cx} {M : own_Mi} {Q : own_Q} {sf : List Addr} {h : Heap} {v0 v1 : Value} (hpn : plainFor M.y = true) (hm : M.mx = 6) (c0 : v0.category = 1) (c1 : v1.category = 1) (k : own_WP K M Q 0 [.val v0, .val v1, .unset, .unset, .unset, .unset] [] sf h 0 0) : own_Met K M #[v0, v1] sf h Q := own_met hpn (fun m => by rw [hm]; simp [entryFrame, mkF, argsToLocals, c0, c1, List.replicate, Array.replicate]) k
theorem own_met_3_0 {K : own_Cx} {M : own_Mi} {Q : own_Q} {sf : List Addr} {h : Heap} {v0 v1 v2 : Value} (hpn : plainFor M.y = true) (hm : M.mx = 3) (c0 : v0.category = 1) (c1 : v1.category = 1) (c2 : v2.category = 1) (k : own_WP K M Q 0 [.val v0, .val v1, .val v2] [] sf h 0 0) : own_Met K M #[v0, v1, v2] sf h Q := own_met hpn (fun m => by rw [hm]; simp [entryFrame, mkF, argsToLocals, c0, c1, c2, List.replicate, Array.replicate]) k
theorem own_met_3_2 {K : own_Cx} {M : own_Mi} {Q : own_Q} {sf : List Addr} {h : Heap} {v0 v1 v2 : Value} (hpn : plainFor M.y = true) (hm : M.mx = 5) (c0 : v0.category = 1) (c1 : v1.category = 1) (c2 : v2.category = 1) (k : own_WP K M Q 0 [.val v0, .val v1, .val v2, .unset, .unset] [] sf h 0 0) : own_Met K M #[v0, v1, v2] sf h Q := own_met hpn (fun m => by rw [hm]; simp [entryFrame, mkF, argsToLocals, c0, c1, c2, List.replicate, Array.replicate]) k
theorem own_met_3_3 {K : own_Cx} {M : own_Mi} {Q : own_Q} {sf : List Addr} {h : Heap} {v0 v1 v2 : Value} (hpn : plainFor M.y = true) (hm : M.mx = 6) (c0 : v0.category = 1) (c1 : v1.category = 1) (c2 : v2.category = 1) (k : own_WP K M Q 0 [.val v0, .val v1, .val v2, .unset, .unset, .unset] [] sf h 0 0) : own_Met K M #[v0, v1, v2] sf h Q := own_met hpn (fun m => by rw [hm]; simp [entryFrame, mkF, argsToLocals, c0, c1, c2, List.replicate, Array.replicate]) k
theorem own_met_4_0 {K : own_Cx} {M : own_Mi} {Q : own_Q} {sf : List Addr} {h : Heap} {v0 v1 v2 v3 : Value} (hpn : plainFor M.y = true) (hm : M.mx = 4) (c0 : v0.category = 1) (c1 : v1.category = 1) (c2 : v2.category = 1) (c3 : v3.category = 1) (k : own_WP K M Q 0 [.val v0, .val v1, .val v2, .val v3] [] sf h 0 0) : own_Met K M #[v0, v1, v2, v3] sf h Q := own_met hpn (fun m => by rw [hm]; simp [entryFrame, mkF, argsToLocals, c0, c1, c2, c3, List.replicate, Array.replicate]) k
theorem own_met_4_2 {K : own_Cx} {M : own_Mi} {Q : own_Q} {sf : List Addr} {h : Heap} {v0 v1 v2 v3 : Value} (hpn : plainFor M.y = true) (hm : M.mx = 6) (c0 : v0.category = 1) (c1 : v1.category = 1) (c2 : v2.category = 1) (c3 : v3.category = 1) (k : own_WP K M Q 0 [.val v0, .val v1, .val v2, .val v3, .unset, .unset] [] sf h 0 0) : own_Met K M #[v0, v1, v2, v3] sf h Q := own_met hpn (fun m => by rw [hm]; simp [entryFrame, mkF, argsToLocals, c0, c1, c2, c3, List.replicate, Array.replicate]) k
theorem own_met_5_1 {K : own_Cx} {M : own_Mi} {Q : own_Q} {sf : List Addr} {h : Heap} {v0 v1 v2 v3 v4 : Value} (hpn : plainFor M.y = true) (hm : M.mx = 6) (c0 : v0.category = 1) (c1 : v1.category = 1) (c2 : v2.category = 1) (c3 : v3.category = 1) (c4 : v4.category = 1) (k : own_WP K M Q 0 [.val v0, .val v1, .val v2, .val v3, .val v4, .unset] [] sf h 0 0) : own_Met K M #[v0, v1, v2, v3, v4] sf h Q := own_met hpn (fun m => by rw [hm]; simp [entryFrame, mkF, argsToLocals, c0, c1, c2, c3, c4, List.replicate, Array.replicate]) k
theorem own_met_5_2 {K : own_Cx} {M : own_Mi} {Q : own_Q} {sf : List Addr} {h : Heap} {v0 v1 v2 v3 v4 : Value} (hpn : plainFor M.y = true) (hm : M.mx = 7) (c0 : v0.category = 1) (c1 : v1.category = 1) (c2 : v2.category = 1) (c3 : v3.category = 1) (c4 : v4.category = 1) (k : own_WP K M Q 0 [.val v0, .val v1, .val v2, .val v3, .val v4, .unset, .unset] [] sf h 0 0) : own_Met K M #[v0, v1, v2, v3, v4] sf h Q := own_met hpn (fun m => by rw [hm]; simp [entryFrame, mkF, argsToLocals, c0, c1, c2, c3, c4, List.replicate, Array.replicate]) k
theorem own_met_6_13 {K : own_Cx} {M : own_Mi} {Q : own_Q} {sf : List Addr} {h : Heap} {v0 v1 v2 v3 v4 v5 : Value} (hpn : plainFor M.y = true) (hm : M.mx = 19) (c0 : v0.category = 1) (c1 : v1.category = 1) (c2 : v2.category = 1) (c3 : v3.category = 1) (c4 : v4.category = 1) (c5 : v5.category = 1) (k : own_WP K M Q 0 [.val v0, .val v1, .val v2, .val v3, .val v4, .val v5, .unset, .unset, .unset, .unset, .unset, .unset, .unset, .unset, .unset, .unset, .unset, .unset, .unset] [] sf h 0 0) : own_Met K M #[v0, v1, v2, v3, v4, v5] sf h Q := own_met hpn (fun m => by rw [hm]; simp [entryFrame, mkF, argsToLocals, c0, c1, c2, c3, c4, c5, List.replicate, Array.replicate]) k
/-! STRINGS: chars as ints of 0 to 65535; what a String's bytes spell -/
abbrev own_Chs (cs : List Int32) : Prop := ∀ c ∈ cs, 0 ≤ c.toInt ∧ c.toInt < 65536
def own_lat (cs : List Int32) : Bool := cs.all fun c => decide (c.toInt < 256)
def own_bt (c : Int32) : Int32 := c.toInt8.toInt32
def own_hb (c : Int32) : Int32 := (c >>> ((8 : Int32) &&& 31)).toInt8.toInt32
def own_two (cs : List Int32) : List Int32 := cs.flatMap fun c => [own_bt c, own_hb c]
def own_enc (cs : List Int32) : List Int32 := if own_lat cs then cs.map own_bt else own_two cs
def own_cod (cs : List Int32) : Int32 := if own_lat cs then 0 else 1
abbrev own_ints (xs : List Int32) : List Value := xs.map Value.int
def own_Str (Z : State) (h : Heap) (a : Addr) (cs : List Int32) : Prop := Exa Z h a "java/lang/String" ∧ own_Chs cs ∧ cs.length < 2 ^ 30 ∧ ∃ b : Addr, Fld Z h a "java/lang/String" "value" "[B" (.ref b) ∧ Fld Z h a "java/lang/String" "coder" "B" (.int (own_cod cs)) ∧ own_Ary Z h b .byte (own_ints (own_enc cs))
theorem own_Str.ext {Z : State} {h h' : Heap} {a : Addr} {cs : List Int32} (F : own_Str Z h a cs) (E : Ext h h') : own_Str Z h' a cs := by
  obtain ⟨h1, h2, h3, b, h4, h5, h6⟩ := F
  exact ⟨h1.ext E, h2, h3, b, h4.ext E, h5.ext E, h6.ext E⟩
theorem own_Str.keepO {Z : State} {h h' : Heap} {a t : Addr} {cs : List Int32} {C : String} {kk : Nat} {a0 : Array Value} (F : own_Str Z h a cs) (k : Keep h h' [t]) (E : Exa Z h t C) (hC : C ≠ "java/lang/String") (wi : (Jvm.Cond.instantiable C kk).before a0 Z = true) : own_Str Z h' a cs := by
  obtain ⟨h1, h2, h3, b, h4, h5, h6⟩ := F
  have n1 : a ∉ [t] := ninS (ne_exa h1 E (Ne.symm hC)) nin0
  have n2 : b ∉ [t] := ninS (fun q => by obtain ⟨c, A, -⟩ := h6; exact ne_arr E wi A q.symm) nin0
  exact ⟨h1.keep k, h2, h3, b, h4.keep k n1, h5.keep k n1, h6.keep k n2⟩
theorem own_Str.lt {Z : State} {h : Heap} {a : Addr} {cs : List Int32} (F : own_Str Z h a cs) : a < h.size := F.1.lt
theorem own_ext_keep {h0 h h' : Heap} {ws : List Addr} (E : Ext h0 h) (k : Keep h h' ws) (q : ∀ x ∈ ws, h0.size ≤ x) : Ext h0 h' :=
  ⟨Nat.le_trans E.1 k.1, fun x c z => k.2.1 x c (E.2 x c z) fun m => by
    have := q x m
    have := (Array.getElem?_eq_some_iff.mp z).1
    omega⟩
theorem own_lit (n : Nat) (q : n < 2 ^ 31) : (n.toInt32).toInt = n := Int32.toInt_ofNat_small q
theorem own_add {x y : Int32} {a b : Int} (hx : x.toInt = a) (hy : y.toInt = b) (h1 : -2147483648 ≤ a + b) (h2 : a + b < 2147483648) : (x + y).toInt = a + b := by
  have := c_iadd x y
  have := rng32 (x + y)
  omega
theorem own_sub {x y : Int32} {a b : Int} (hx : x.toInt = a) (hy : y.toInt = b) (h1 : -2147483648 ≤ a - b) (h2 : a - b < 2147483648) : (x - y).toInt = a - b := by
  have := c_isub x y
  have := rng32 (x - y)
  omega
theorem own_setmid {α : Type} (L : List α) (z v : α) (k : Nat) : (L ++ List.replicate (k + 1) z).set L.length v = (L ++ [v]) ++ List.replicate k z := by
  simp [List.replicate_succ]
theorem own_bt_nar (c : Int32) : nar .byte (c.toInt8.toInt32) = own_bt c := by
  show (c.toInt8.toInt32).toInt8.toInt32 = c.toInt8.toInt32
  simp
theorem own_lat_get {cs : List Int32} (q : own_lat cs = true) {i : Nat} {c : Int32} (hc : cs[i]? = some c) : c.toInt < 256 := by
  have := List.all_eq_true.mp q c (List.mem_of_getElem? hc)
  simpa using this
theorem own_lat_snoc {cs : List Int32} {i : Nat} {c : Int32} (hc : cs[i]? = some c) (q : own_lat (cs.take i) = true) (hl : c.toInt < 256) : own_lat (cs.take (i + 1)) = true := by
  have e : cs.take (i + 1) = cs.take i ++ [c] := by rw [List.take_add_one, hc]; rfl
  rw [e]
  simp only [own_lat, List.all_append, Bool.and_eq_true] at q ⊢
  exact ⟨q, by simp [hl]⟩
theorem own_lat_no {cs : List Int32} {i : Nat} {c : Int32} (hc : cs[i]? = some c) (hl : ¬ c.toInt < 256) : own_lat cs = false := by
  cases q : own_lat cs
  · rfl
  · exact absurd (own_lat_get q hc) hl
theorem own_cod_byte (cs : List Int32) : narrow .byte (.int (own_cod cs)) = .int (own_cod cs) ∧ fits .byte (.int (own_cod cs)) = true := by
  unfold own_cod; split <;> exact ⟨rfl, rfl⟩
theorem own_enc_lat {cs : List Int32} (q : own_lat cs = true) : own_enc cs = cs.map own_bt ∧ own_cod cs = 0 := by simp [own_enc, own_cod, q]
theorem own_enc_utf {cs : List Int32} (q : own_lat cs = false) : own_enc cs = own_two cs ∧ own_cod cs = 1 := by simp [own_enc, own_cod, q]
theorem own_two_len (cs : List Int32) : (own_two cs).length = 2 * cs.length := by
  induction cs with
  | nil => rfl
  | cons c r ih => simp [own_two] at ih ⊢; omega
theorem own_ushr31 {x : Int32} (q : x.toInt < 0) : XT.ushr x 31 = 1 := by
  apply Int32.toInt_inj.mp
  have := c_iushr x 31 31 (by decide) (by decide)
  have r := rng32 x
  have e : (XT.ushr x 31).toInt = (x.toInt % 4294967296) / (2 ^ 31 : Nat) := this
  rw [e]
  have : (1 : Int32).toInt = 1 := rfl
  omega
theorem own_shl1 {x : Int32} {N : Nat} (hx : x.toInt = N) (hN : N < 2 ^ 29) : (x <<< ((1 : Int32) &&& 31)).toInt = ((2 * N : Nat) : Int) := by
  have := c_ishl x 1 1 (by decide)
  have := rng32 (x <<< ((1 : Int32) &&& 31))
  omega
theorem own_shr0 (x : Int32) : x >>> ((0 : Int32) &&& 31) = x := by
  apply Int32.toInt_inj.mp
  have := c_ishr x 0 0 (by decide)
  rw [this]; simp
theorem own_shl0 (x : Int32) : x <<< ((0 : Int32) &&& 31) = x := by
  apply Int32.toInt_inj.mp
  have := c_ishl x 0 0 (by decide)
  have := rng32 (x <<< ((0 : Int32) &&& 31))
  have := rng32 x
  omega
theorem own_i2c_id {x : Int32} (h0 : 0 ≤ x.toInt) (h1 : x.toInt < 65536) : x.toUInt32.toUInt16.toUInt32.toInt32 = x := by
  apply Int32.toInt_inj.mp
  have := c_i2c x
  omega
theorem own_join {c : Int32} (h0 : 0 ≤ c.toInt) (h1 : c.toInt < 65536) : ((own_bt c &&& 255) <<< ((0 : Int32) &&& 31)) ||| ((own_hb c &&& 255) <<< ((8 : Int32) &&& 31)) = c := by
  rw [own_shl0]
  have b1 := c_mask (own_bt c) 255 8 (by decide) (by decide)
  have b2 := (c_i2b c).1
  have s1 := c_ishr c 8 8 (by decide)
  have b3 := c_mask (own_hb c) 255 8 (by decide) (by decide)
  have b4 := (c_i2b (c >>> ((8 : Int32) &&& 31))).1
  have s2 := c_ishl (own_hb c &&& 255) 8 8 (by decide)
  have r2 := rng32 ((own_hb c &&& 255) <<< ((8 : Int32) &&& 31))
  have e1 : (own_bt c &&& 255).toInt = c.toInt % 256 := by
    have : (own_bt c).toInt = c.toInt8.toInt32.toInt := rfl
    omega
  have e2 : (own_hb c &&& 255).toInt = c.toInt / 256 := by
    have : (own_hb c).toInt = (c >>> ((8 : Int32) &&& 31)).toInt8.toInt32.toInt := rfl
    omega
  have e3 : ((own_hb c &&& 255) <<< ((8 : Int32) &&& 31)).toInt = c.toInt / 256 * 256 := by omega
  have o := c_or ((own_hb c &&& 255) <<< ((8 : Int32) &&& 31)) (own_bt c &&& 255) 8 (by decide) 256 (by decide) (by omega) (by omega) (by omega)
  rw [Int32.or_comm] at o
  apply Int32.toInt_inj.mp
  have r := rng32 ((own_bt c &&& 255) ||| (own_hb c &&& 255) <<< ((8 : Int32) &&& 31))
  omega
theorem own_two_get {cs : List Int32} : ∀ {i : Nat} {c : Int32}, cs[i]? = some c → (own_two cs)[2 * i]? = some (own_bt c) ∧ (own_two cs)[2 * i + 1]? = some (own_hb c) := by
  induction cs with
  | nil => intro i c hc; simp at hc
  | cons d r ih =>
    intro i c hc
    have e : own_two (d :: r) = own_bt d :: own_hb d :: own_two r := rfl
    cases i with
    | zero => simp at hc; subst hc; rw [e]; exact ⟨rfl, rfl⟩
    | succ i =>
      simp at hc
      have := ih hc
      rw [e, show 2 * (i + 1) = 2 * i + 2 by omega]
      exact ⟨by simpa using this.1, by simpa using this.2⟩
theorem own_settwo {α : Type} (L : List α) (z x y : α) (k : Nat) : ((L ++ List.replicate (2 * (k + 1)) z).set L.length x).set (L.length + 1) y = (L ++ [x, y]) ++ List.replicate (2 * k) z := by
  have e : List.replicate (2 * (k + 1)) z = z :: z :: List.replicate (2 * k) z := by
    rw [show 2 * (k + 1) = 2 * k + 1 + 1 by omega, List.replicate_succ, List.replicate_succ]
  rw [e]
  induction L with
  | nil => rfl
  | cons a r ih => simpa using ih
theorem own_two_snoc {cs : List Int32} {i : Nat} {c : Int32} (hc : cs[i]? = some c) : own_two (cs.take (i + 1)) = own_two (cs.take i) ++ [own_bt c, own_hb c] := by
  have e : cs.take (i + 1) = cs.take i ++ [c] := by rw [List.take_add_one, hc]; rfl
  rw [e]; simp [own_two]
theorem d_cp5_0 : decode jdk_52_method_21_code 0 = .ok (.iconst 0, 1) := by decide +kernel
theorem d_cp5_1 : decode jdk_52_method_21_code 1 = .ok (.istore 5, 2) := by decide +kernel
theorem d_cp5_3 : decode jdk_52_method_21_code 3 = .ok (.iload 5, 2) := by decide +kernel
theorem d_cp5_5 : decode jdk_52_method_21_code 5 = .ok (.iload 4, 2) := by decide +kernel
theorem d_cp5_7 : decode jdk_52_method_21_code 7 = .ok (.if_icmp .ge 37, 3) := by decide +kernel
theorem d_cp5_10 : decode jdk_52_method_21_code 10 = .ok (.aload_n 0, 1) := by decide +kernel
theorem d_cp5_11 : decode jdk_52_method_21_code 11 = .ok (.iload_n 1, 1) := by decide +kernel
theorem d_cp5_12 : decode jdk_52_method_21_code 12 = .ok (.caload, 1) := by decide +kernel
theorem d_cp5_13 : decode jdk_52_method_21_code 13 = .ok (.istore 6, 2) := by decide +kernel
theorem d_cp5_15 : decode jdk_52_method_21_code 15 = .ok (.iload 6, 2) := by decide +kernel
theorem d_cp5_17 : decode jdk_52_method_21_code 17 = .ok (.sipush 255, 3) := by decide +kernel
theorem d_cp5_20 : decode jdk_52_method_21_code 20 = .ok (.if_icmp .le 6, 3) := by decide +kernel
theorem d_cp5_23 : decode jdk_52_method_21_code 23 = .ok (.iload 5, 2) := by decide +kernel
theorem d_cp5_25 : decode jdk_52_method_21_code 25 = .ok (.ireturn, 1) := by decide +kernel
theorem d_cp5_26 : decode jdk_52_method_21_code 26 = .ok (.aload_n 2, 1) := by decide +kernel
theorem d_cp5_27 : decode jdk_52_method_21_code 27 = .ok (.iload_n 3, 1) := by decide +kernel
theorem d_cp5_28 : decode jdk_52_method_21_code 28 = .ok (.iload 6, 2) := by decide +kernel
theorem d_cp5_30 : decode jdk_52_method_21_code 30 = .ok (.i2b, 1) := by decide +kernel
theorem d_cp5_31 : decode jdk_52_method_21_code 31 = .ok (.bastore, 1) := by decide +kernel
theorem d_cp5_32 : decode jdk_52_method_21_code 32 = .ok (.iinc 1 1, 3) := by decide +kernel
theorem d_cp5_35 : decode jdk_52_method_21_code 35 = .ok (.iinc 3 1, 3) := by decide +kernel
theorem d_cp5_38 : decode jdk_52_method_21_code 38 = .ok (.iinc 5 1, 3) := by decide +kernel
theorem d_cp5_41 : decode jdk_52_method_21_code 41 = .ok (.goto (-38), 3) := by decide +kernel
theorem d_cp5_44 : decode jdk_52_method_21_code 44 = .ok (.iload 4, 2) := by decide +kernel
theorem d_cp5_46 : decode jdk_52_method_21_code 46 = .ok (.ireturn, 1) := by decide +kernel
abbrev M_cp5 : own_Mi := ((⟨"java/lang/StringUTF16", "compress", "([CI[BII)I"⟩ : MethodName), jdk_52_method_21_code, 7, (Option.some FieldType.int), ({ frames := 0, cells := 0, slots := 0, locals := 0 } : Room))
theorem pn_cp5 : plainFor (own_Mi.y M_cp5) = true := plainFor_of_name (by first | (simp [plainName, overriddenIn]; done) | decide +kernel)
def Q_cp5 (K : own_Cx) (b : Addr) (n : Int32) (cs : List Int32) (h : Heap) : own_Q := own_ret fun w h' _ => ∃ r : Int32, w = .int r ∧ Keep h h' [b] ∧ ((own_lat cs = true ∧ r = n ∧ own_Ary K.Z h' b .byte (own_ints (cs.map own_bt))) ∨ (own_lat cs = false ∧ ∃ (i : Nat) (c : Int32), r.toInt = i ∧ cs[i]? = some c ∧ 256 ≤ c.toInt))
set_option maxRecDepth 65536 in
set_option maxHeartbeats 40000000 in
theorem c_cp5 (K : own_Cx) (a0 : Array Value) (hw : ∀ d ∈ tables_1, d.before a0 K.Z = true) (a b : Addr) (n : Int32) (cs : List Int32) (h : Heap) (hn : n.toInt = cs.length) (hcs : own_Chs cs) (A : own_Ary K.Z h a .char (own_ints cs)) (Bq : own_Ary K.Z h b .byte (List.replicate cs.length (.int 0))) (hab : a ≠ b) :
    own_Met K M_cp5 #[.ref a, .int 0, .ref b, .int 0, .int n] [b] h (Q_cp5 K b n cs h) := by
  have hlen := rng32 n
  refine own_met_5_2 (M := M_cp5) pn_cp5 rfl (by first | rfl | exact own_cat (by assumption)) (by first | rfl | exact own_cat (by assumption)) (by first | rfl | exact own_cat (by assumption)) (by first | rfl | exact own_cat (by assumption)) (by first | rfl | exact own_cat (by assumption)) ?_
  refine own_iconst (v := (0 : Int32)) (pc' := 1) rfl d_cp5_0 rfl ?_
  refine own_istore_5 (pc' := 3) rfl d_cp5_1 (by first | exact One.u | exact One.val rfl | assumption | exact One.val (by assumption)) ?_
  suffices key : ∀ (k i : Nat) (j : Int32) (h1 : Heap) (o : Slot), i + k = cs.length → j.toInt = i → One o → Keep h h1 [b] → own_lat (cs.take i) = true → own_Ary K.Z h1 b .byte (own_ints ((cs.take i).map own_bt) ++ List.replicate k (.int 0)) → own_WP K M_cp5 (Q_cp5 K b n cs h) 3 [.val (.ref a), .val (.int j), .val (.ref b), .val (.int j), .val (.int n), .val (.int j), o] [] [b] h1 0 0 from
    key cs.length 0 0 h .unset (by simp) rfl One.u (Keep.refl _ _) (by simp [own_lat]) (by simpa using Bq)
  intro k
  induction k with
  | zero =>
    intro i j h1 o hik hj ho hk hl hA
    refine own_iload (pc' := 5) rfl d_cp5_3 rfl ?_
    refine own_iload (pc' := 7) rfl d_cp5_5 rfl ?_
    refine own_icmpge (pcT := 44) (pcF := 10) d_cp5_7 (by decide) (by decide) rfl (fun q => ?_) (fun q => ?_)
    · skip
      refine own_iload (pc' := 46) rfl d_cp5_44 rfl ?_
      refine own_ireturn rfl d_cp5_46 rfl rfl ?_
      have e : cs.take i = cs := List.take_of_length_le (by omega)
      rw [e] at hl hA
      exact ⟨n, rfl, hk, Or.inl ⟨hl, rfl, by simpa using hA⟩⟩
    · rw [Int32.lt_iff_toInt_lt] at q
      omega
  | succ k ih =>
    intro i j h1 o hik hj ho hk hl hA
    have hi : i < cs.length := by omega
    obtain ⟨c, hc⟩ : ∃ c, cs[i]? = some c := ⟨cs[i], by simp [hi]⟩
    have hcr := hcs c (List.mem_of_getElem? hc)
    refine own_iload (pc' := 5) rfl d_cp5_3 rfl ?_
    refine own_iload (pc' := 7) rfl d_cp5_5 rfl ?_
    refine own_icmpge (pcT := 44) (pcF := 10) d_cp5_7 (by decide) (by decide) rfl (fun q => ?_) (fun q => ?_)
    · exact absurd (by rw [Int32.lt_iff_toInt_lt]; omega) q
    · skip
      refine own_aload_n (pc' := 11) rfl d_cp5_10 rfl (by first | rfl | assumption) ?_
      refine own_iload_n (pc' := 12) rfl d_cp5_11 rfl ?_
      refine own_caload (pc' := 13) rfl d_cp5_12 (A.keep hk (ninS hab nin0)) (i := i) hj (by first | exact own_ints_get hc | exact own_ints_getM hc) ?_
      refine own_istore_6 (pc' := 15) rfl d_cp5_13 (by first | exact One.u | exact One.val rfl | assumption | exact One.val (by assumption)) ?_
      refine own_iload (pc' := 17) rfl d_cp5_15 rfl ?_
      refine own_sipush (v := (255 : Int32)) (pc' := 20) rfl d_cp5_17 rfl ?_
      refine own_icmple (pcT := 26) (pcF := 23) d_cp5_20 (by decide) (by decide) rfl (fun q2 => ?_) (fun q2 => ?_)
      · have hc2 : c.toInt < 256 := by
          rw [Int32.lt_iff_toInt_lt] at q2
          have : (255 : Int32).toInt = 255 := rfl
          omega
        refine own_aload_n (pc' := 27) rfl d_cp5_26 rfl (by first | rfl | assumption) ?_
        refine own_iload_n (pc' := 28) rfl d_cp5_27 rfl ?_
        refine own_iload (pc' := 30) rfl d_cp5_28 rfl ?_
        refine own_i2b (pc' := 31) rfl d_cp5_30 ?_
        refine own_bastore (pc' := 32) rfl d_cp5_31 hA (i := i) hj (by simp; omega) (own_bt_nar c) (by simp) ?_
        intro h2 k2 hA2
        refine own_iinc_1 (z := (1 : Int32)) (pc' := 35) rfl d_cp5_32 rfl ?_
        refine own_iinc_3 (z := (1 : Int32)) (pc' := 38) rfl d_cp5_35 rfl ?_
        refine own_iinc_5 (z := (1 : Int32)) (pc' := 41) rfl d_cp5_38 rfl ?_
        refine own_goto (pc' := 3) d_cp5_41 (by decide) (by decide) ?_
        have e1 : i = (own_ints ((cs.take i).map own_bt)).length := by simp; omega
        have e2 : own_ints ((cs.take (i + 1)).map own_bt) = own_ints ((cs.take i).map own_bt) ++ [.int (own_bt c)] := by
          have e : cs.take (i + 1) = cs.take i ++ [c] := by rw [List.take_add_one, hc]; rfl
          rw [e]; simp [own_ints]
        refine ih (i + 1) (j + 1) h2 _ (by omega) (by rw [own_add hj (by rfl : (1 : Int32).toInt = 1)] <;> omega) (One.val rfl) (hk.trans k2 (fun x hx => Or.inl hx)) (own_lat_snoc hc hl hc2) ?_
        rw [e2, ← own_setmid, ← e1]
        exact hA2
      · skip
        refine own_iload (pc' := 25) rfl d_cp5_23 rfl ?_
        refine own_ireturn rfl d_cp5_25 rfl rfl ?_
        have hc2 : 256 ≤ c.toInt := by
          rw [Int32.lt_iff_toInt_lt] at q2
          have : (255 : Int32).toInt = 255 := rfl
          omega
        exact ⟨j, rfl, hk, Or.inr ⟨own_lat_no hc (by omega), i, c, hj, hc, hc2⟩⟩
theorem d_cfa_0 : decode jdk_52_method_15_code 0 = .ok (.iload_n 1, 1) := by decide +kernel
theorem d_cfa_1 : decode jdk_52_method_15_code 1 = .ok (.aload_n 0, 1) := by decide +kernel
theorem d_cfa_2 : decode jdk_52_method_15_code 2 = .ok (.arraylength, 1) := by decide +kernel
theorem d_cfa_3 : decode jdk_52_method_15_code 3 = .ok (.isub, 1) := by decide +kernel
theorem d_cfa_4 : decode jdk_52_method_15_code 4 = .ok (.bipush 31, 2) := by decide +kernel
theorem d_cfa_6 : decode jdk_52_method_15_code 6 = .ok (.iushr, 1) := by decide +kernel
theorem d_cfa_7 : decode jdk_52_method_15_code 7 = .ok (.i2b, 1) := by decide +kernel
theorem d_cfa_8 : decode jdk_52_method_15_code 8 = .ok (.ireturn, 1) := by decide +kernel
abbrev M_cfa : own_Mi := ((⟨"java/lang/StringUTF16", "coderFromArrayLen", "([BI)B"⟩ : MethodName), jdk_52_method_15_code, 2, (Option.some FieldType.byte), ({ frames := 0, cells := 0, slots := 0, locals := 0 } : Room))
theorem pn_cfa : plainFor (own_Mi.y M_cfa) = true := plainFor_of_name (by first | (simp [plainName, overriddenIn]; done) | decide +kernel)
set_option maxRecDepth 65536 in
set_option maxHeartbeats 40000000 in
theorem c_cfa (K : own_Cx) (a0 : Array Value) (hw : ∀ d ∈ tables_1, d.before a0 K.Z = true) (b : Addr) (n : Int32) (cs : List Int32) (h : Heap) (hn : n.toInt = cs.length) (hl : cs.length < 2 ^ 30) (hp : 0 < cs.length) (Bq : own_Ary K.Z h b .byte (own_ints (own_enc cs))) :
    own_Met K M_cfa #[.ref b, .int n] [] h (own_ret fun w h' _ => w = .int (own_cod cs) ∧ h' = h) := by
  cases ql : own_lat cs
  · have hz : ((2 * cs.length).toInt32).toInt = ((2 * cs.length : Nat) : Int) := own_lit _ (by omega)
    refine own_met_2_0 (M := M_cfa) pn_cfa rfl (by first | rfl | exact own_cat (by assumption)) (by first | rfl | exact own_cat (by assumption)) ?_
    refine own_iload_n (pc' := 1) rfl d_cfa_0 rfl ?_
    refine own_aload_n (pc' := 2) rfl d_cfa_1 rfl (by first | rfl | assumption) ?_
    refine own_arrlen (z := (2 * cs.length).toInt32) (pc' := 3) rfl d_cfa_2 Bq (by rw [hz]; simp [(own_enc_utf ql).1, own_two_len]) ?_
    refine own_isub (pc' := 4) rfl d_cfa_3 ?_
    refine own_bipush (v := (31 : Int32)) (pc' := 6) rfl d_cfa_4 rfl ?_
    refine own_iushr (pc' := 7) rfl d_cfa_6 ?_
    refine own_i2b (pc' := 8) rfl d_cfa_7 ?_
    have e : XT.ushr (n - (2 * cs.length).toInt32) 31 = 1 := own_ushr31 (by rw [own_sub hn hz] <;> omega)
    rw [e]
    refine own_ireturnN (t := .byte) rfl (by simp) (z' := 1) rfl d_cfa_8 rfl rfl ?_
    exact ⟨by rw [(own_enc_utf ql).2], rfl⟩
  · skip
    refine own_met_2_0 (M := M_cfa) pn_cfa rfl (by first | rfl | exact own_cat (by assumption)) (by first | rfl | exact own_cat (by assumption)) ?_
    refine own_iload_n (pc' := 1) rfl d_cfa_0 rfl ?_
    refine own_aload_n (pc' := 2) rfl d_cfa_1 rfl (by first | rfl | assumption) ?_
    refine own_arrlen (z := n) (pc' := 3) rfl d_cfa_2 Bq (by rw [hn]; simp [(own_enc_lat ql).1]) ?_
    refine own_isub (pc' := 4) rfl d_cfa_3 ?_
    refine own_bipush (v := (31 : Int32)) (pc' := 6) rfl d_cfa_4 rfl ?_
    refine own_iushr (pc' := 7) rfl d_cfa_6 ?_
    refine own_i2b (pc' := 8) rfl d_cfa_7 ?_
    have e : XT.ushr (n - n) 31 = 0 := by rw [Int32.sub_self]; decide
    rw [e]
    refine own_ireturnN (t := .byte) rfl (by simp) (z' := 0) rfl d_cfa_8 rfl rfl ?_
    exact ⟨by rw [(own_enc_lat ql).2], rfl⟩
abbrev own_uC : String := "java/lang/StringUTF16"
def own_U16 (K : own_Cx) : Prop := Sta K.Z K.Z.heap own_uC "$assertionsDisabled" "Z" (.int 1) ∧ Sta K.Z K.Z.heap own_uC "HI_BYTE_SHIFT" "I" (.int 0) ∧ Sta K.Z K.Z.heap own_uC "LO_BYTE_SHIFT" "I" (.int 8)
theorem d_nbl_0 : decode jdk_52_method_3_code 0 = .ok (.iload_n 0, 1) := by decide +kernel
theorem d_nbl_1 : decode jdk_52_method_3_code 1 = .ok (.ifCond .ge 11, 3) := by decide +kernel
theorem d_nbl_12 : decode jdk_52_method_3_code 12 = .ok (.iload_n 0, 1) := by decide +kernel
theorem d_nbl_13 : decode jdk_52_method_3_code 13 = .ok (.ldc 20, 2) := by decide +kernel
theorem d_nbl_15 : decode jdk_52_method_3_code 15 = .ok (.if_icmp .lt 40, 3) := by decide +kernel
theorem d_nbl_55 : decode jdk_52_method_3_code 55 = .ok (.iload_n 0, 1) := by decide +kernel
theorem d_nbl_56 : decode jdk_52_method_3_code 56 = .ok (.iconst 1, 1) := by decide +kernel
theorem d_nbl_57 : decode jdk_52_method_3_code 57 = .ok (.ishl, 1) := by decide +kernel
theorem d_nbl_58 : decode jdk_52_method_3_code 58 = .ok (.ireturn, 1) := by decide +kernel
abbrev M_nbl : own_Mi := ((⟨"java/lang/StringUTF16", "newBytesLength", "(I)I"⟩ : MethodName), jdk_52_method_3_code, 1, (Option.some FieldType.int), ({ frames := 0, cells := 0, slots := 0, locals := 0 } : Room))
theorem pn_nbl : plainFor (own_Mi.y M_nbl) = true := plainFor_of_name (by first | (simp [plainName, overriddenIn]; done) | decide +kernel)
set_option maxRecDepth 65536 in
set_option maxHeartbeats 40000000 in
theorem c_nbl (K : own_Cx) (a0 : Array Value) (hw : ∀ d ∈ tables_1, d.before a0 K.Z = true) (n : Int32) (N : Nat) (h : Heap) (hn : n.toInt = N) (hN : N < 2 ^ 29) :
    own_Met K M_nbl #[.int n] [] h (own_ret fun w h' _ => ∃ r : Int32, w = .int r ∧ r.toInt = ((2 * N : Nat) : Int) ∧ h' = h) := by
  refine own_met_1_0 (M := M_nbl) pn_nbl rfl (by first | rfl | exact own_cat (by assumption)) ?_
  refine own_iload_n (pc' := 1) rfl d_nbl_0 rfl ?_
  refine own_ifge (pcT := 12) (pcF := 4) d_nbl_1 (by decide) (by decide) rfl (fun q => ?_) (fun q => ?_)
  · skip
    refine own_iload_n (pc' := 13) rfl d_nbl_12 rfl ?_
    refine own_ldcI (pc' := 15) rfl d_nbl_13 (tw_78 hw) ?_
    refine own_icmplt (pcT := 55) (pcF := 18) d_nbl_15 (by decide) (by decide) rfl (fun q2 => ?_) (fun q2 => ?_)
    · skip
      refine own_iload_n (pc' := 56) rfl d_nbl_55 rfl ?_
      refine own_iconst (v := (1 : Int32)) (pc' := 57) rfl d_nbl_56 rfl ?_
      refine own_ishl (pc' := 58) rfl d_nbl_57 ?_
      refine own_ireturn rfl d_nbl_58 rfl rfl ?_
      exact ⟨_, rfl, own_shl1 hn hN, rfl⟩
    · exfalso
      rw [Int32.lt_iff_toInt_lt] at q2
      have : (1073741823 : Int32).toInt = 1073741823 := rfl
      omega
  · exfalso
    rw [Int32.lt_iff_toInt_lt] at q
    have : (0 : Int32).toInt = 0 := rfl
    omega
theorem d_nbf_0 : decode jdk_52_method_2_code 0 = .ok (.iload_n 0, 1) := by decide +kernel
theorem d_nbf_1 : decode jdk_52_method_2_code 1 = .ok (.invokestatic 11, 3) := by decide +kernel
theorem d_nbf_4 : decode jdk_52_method_2_code 4 = .ok (.newarray .byte, 2) := by decide +kernel
theorem d_nbf_6 : decode jdk_52_method_2_code 6 = .ok (.areturn, 1) := by decide +kernel
abbrev M_nbf : own_Mi := ((⟨"java/lang/StringUTF16", "newBytesFor", "(I)[B"⟩ : MethodName), jdk_52_method_2_code, 1, (Option.some (FieldType.array FieldType.byte)), ({ frames := 1, cells := 1, slots := 6, locals := 12 } : Room))
theorem pn_nbf : plainFor (own_Mi.y M_nbf) = true := plainFor_of_name (by first | (simp [plainName, overriddenIn]; done) | decide +kernel)
set_option maxRecDepth 65536 in
set_option maxHeartbeats 40000000 in
theorem c_nbf (K : own_Cx) (a0 : Array Value) (hw : ∀ d ∈ tables_1, d.before a0 K.Z = true) (n : Int32) (N : Nat) (h : Heap) (hn : n.toInt = N) (hN : N ≤ 3) :
    own_Met K M_nbf #[.int n] [] h (own_ret fun w h' xs => ∃ b : Addr, w = .ref b ∧ Ext h h' ∧ h.size ≤ b ∧ b ∈ xs ∧ own_Ary K.Z h' b .byte (List.replicate (2 * N) (.int 0))) := by
  refine own_met_1_0 (M := M_nbf) pn_nbf rfl (by first | rfl | exact own_cat (by assumption)) ?_
  refine own_iload_n (pc' := 1) rfl d_nbf_0 rfl ?_
  refine own_static1v (M' := M_nbl) d_nbf_1 (pc' := 4) rfl (tw_75 hw) (tw_76 hw) (tw_64 hw) (tw_77 hw) (by decide) rfl (own_lenOf pd_0 rfl) rfl rfl rfl rfl (c_nbl K a0 hw n N h hn (by omega)) (by simp) ?_
  rintro w h1 xs ⟨r, rfl, hr, rfl⟩
  refine own_newarray (pc' := 6) rfl d_nbf_4 (tw_24 hw) (N := (2 * N)) (cap := 6) hr (by omega) rfl rfl rfl ?_
  intro b h2 eb E2 B2
  refine own_areturn rfl rfl (by first | rfl | assumption) d_nbf_6 rfl rfl ?_
  exact ⟨b, rfl, E2, by omega, by simp, B2⟩
theorem d_pch_0 : decode jdk_52_method_4_code 0 = .ok (.getstatic 44, 3) := by decide +kernel
theorem d_pch_3 : decode jdk_52_method_4_code 3 = .ok (.ifCond .ne 25, 3) := by decide +kernel
theorem d_pch_28 : decode jdk_52_method_4_code 28 = .ok (.iload_n 1, 1) := by decide +kernel
theorem d_pch_29 : decode jdk_52_method_4_code 29 = .ok (.iconst 1, 1) := by decide +kernel
theorem d_pch_30 : decode jdk_52_method_4_code 30 = .ok (.ishl, 1) := by decide +kernel
theorem d_pch_31 : decode jdk_52_method_4_code 31 = .ok (.istore_n 1, 1) := by decide +kernel
theorem d_pch_32 : decode jdk_52_method_4_code 32 = .ok (.aload_n 0, 1) := by decide +kernel
theorem d_pch_33 : decode jdk_52_method_4_code 33 = .ok (.iload_n 1, 1) := by decide +kernel
theorem d_pch_34 : decode jdk_52_method_4_code 34 = .ok (.iinc 1 1, 3) := by decide +kernel
theorem d_pch_37 : decode jdk_52_method_4_code 37 = .ok (.iload_n 2, 1) := by decide +kernel
theorem d_pch_38 : decode jdk_52_method_4_code 38 = .ok (.getstatic 59, 3) := by decide +kernel
theorem d_pch_41 : decode jdk_52_method_4_code 41 = .ok (.ishr, 1) := by decide +kernel
theorem d_pch_42 : decode jdk_52_method_4_code 42 = .ok (.i2b, 1) := by decide +kernel
theorem d_pch_43 : decode jdk_52_method_4_code 43 = .ok (.bastore, 1) := by decide +kernel
theorem d_pch_44 : decode jdk_52_method_4_code 44 = .ok (.aload_n 0, 1) := by decide +kernel
theorem d_pch_45 : decode jdk_52_method_4_code 45 = .ok (.iload_n 1, 1) := by decide +kernel
theorem d_pch_46 : decode jdk_52_method_4_code 46 = .ok (.iload_n 2, 1) := by decide +kernel
theorem d_pch_47 : decode jdk_52_method_4_code 47 = .ok (.getstatic 63, 3) := by decide +kernel
theorem d_pch_50 : decode jdk_52_method_4_code 50 = .ok (.ishr, 1) := by decide +kernel
theorem d_pch_51 : decode jdk_52_method_4_code 51 = .ok (.i2b, 1) := by decide +kernel
theorem d_pch_52 : decode jdk_52_method_4_code 52 = .ok (.bastore, 1) := by decide +kernel
theorem d_pch_53 : decode jdk_52_method_4_code 53 = .ok (.return_, 1) := by decide +kernel
abbrev M_pch : own_Mi := ((⟨"java/lang/StringUTF16", "putChar", "([BII)V"⟩ : MethodName), jdk_52_method_4_code, 3, (Option.none : Option FieldType), ({ frames := 0, cells := 0, slots := 0, locals := 0 } : Room))
theorem pn_pch : plainFor (own_Mi.y M_pch) = true := plainFor_of_name (by first | (simp [plainName, overriddenIn]; done) | decide +kernel)
set_option maxRecDepth 65536 in
set_option maxHeartbeats 40000000 in
theorem c_pch (K : own_Cx) (a0 : Array Value) (hw : ∀ d ∈ tables_1, d.before a0 K.Z = true) (hU : own_U16 K) (b : Addr) (i c : Int32) (I : Nat) (vs : List Value) (h : Heap) (hi : i.toInt = I) (hI : 2 * I + 1 < vs.length) (hI2 : I < 2 ^ 29) (B : own_Ary K.Z h b .byte vs) :
    own_Met K M_pch #[.ref b, .int i, .int c] [b] h (own_void fun h' _ => Keep h h' [b] ∧ own_Ary K.Z h' b .byte ((vs.set (2 * I) (.int (own_bt c))).set (2 * I + 1) (.int (own_hb c)))) := by
  obtain ⟨u1, u2, u3⟩ := hU
  have hj := own_shl1 hi hI2
  refine own_met_3_0 (M := M_pch) pn_pch rfl (by first | rfl | exact own_cat (by assumption)) (by first | rfl | exact own_cat (by assumption)) (by first | rfl | exact own_cat (by assumption)) ?_
  refine own_getS (pc' := 3) rfl d_pch_0 (tw_82 hw) Via.refl (by assumption) ?_
  refine own_ifne (pcT := 28) (pcF := 6) d_pch_3 (by decide) (by decide) rfl (fun q => ?_) (fun q => ?_)
  · skip
    refine own_iload_n (pc' := 29) rfl d_pch_28 rfl ?_
    refine own_iconst (v := (1 : Int32)) (pc' := 30) rfl d_pch_29 rfl ?_
    refine own_ishl (pc' := 31) rfl d_pch_30 ?_
    refine own_istore_n1 (pc' := 32) rfl d_pch_31 (by first | exact One.u | exact One.val rfl | assumption | exact One.val (by assumption)) ?_
    refine own_aload_n (pc' := 33) rfl d_pch_32 rfl (by first | rfl | assumption) ?_
    refine own_iload_n (pc' := 34) rfl d_pch_33 rfl ?_
    refine own_iinc_1 (z := (1 : Int32)) (pc' := 37) rfl d_pch_34 rfl ?_
    refine own_iload_n (pc' := 38) rfl d_pch_37 rfl ?_
    refine own_getS (pc' := 41) rfl d_pch_38 (tw_83 hw) Via.refl (by assumption) ?_
    refine own_ishr (pc' := 42) rfl d_pch_41 ?_
    refine own_i2b (pc' := 43) rfl d_pch_42 ?_
    refine own_bastore (pc' := 44) rfl d_pch_43 B (i := (2 * I)) hj (by omega) ((congrArg (fun z : Int32 => nar .byte (z.toInt8.toInt32)) (own_shr0 c)).trans (own_bt_nar c)) (by simp) ?_
    intro h1 k1 B1
    refine own_aload_n (pc' := 45) rfl d_pch_44 rfl (by first | rfl | assumption) ?_
    refine own_iload_n (pc' := 46) rfl d_pch_45 rfl ?_
    refine own_iload_n (pc' := 47) rfl d_pch_46 rfl ?_
    refine own_getS (pc' := 50) rfl d_pch_47 (tw_84 hw) Via.refl (by assumption) ?_
    refine own_ishr (pc' := 51) rfl d_pch_50 ?_
    refine own_i2b (pc' := 52) rfl d_pch_51 ?_
    refine own_bastore (pc' := 53) rfl d_pch_52 B1 (i := (2 * I + 1)) (by rw [own_add hj (by rfl : (1 : Int32).toInt = 1)] <;> omega) (by simpa using hI) (own_bt_nar (c >>> ((8 : Int32) &&& 31))) (by simp) ?_
    intro h2 k2 B2
    refine own_return rfl d_pch_53 rfl rfl ?_
    exact ⟨k1.trans k2 (fun x hx => Or.inl hx), B2⟩
  · exact absurd q (by decide)
theorem d_tb3_0 : decode jdk_52_method_14_code 0 = .ok (.iload_n 2, 1) := by decide +kernel
theorem d_tb3_1 : decode jdk_52_method_14_code 1 = .ok (.invokestatic 107, 3) := by decide +kernel
theorem d_tb3_4 : decode jdk_52_method_14_code 4 = .ok (.astore_n 3, 1) := by decide +kernel
theorem d_tb3_5 : decode jdk_52_method_14_code 5 = .ok (.iconst 0, 1) := by decide +kernel
theorem d_tb3_6 : decode jdk_52_method_14_code 6 = .ok (.istore 4, 2) := by decide +kernel
theorem d_tb3_8 : decode jdk_52_method_14_code 8 = .ok (.iload 4, 2) := by decide +kernel
theorem d_tb3_10 : decode jdk_52_method_14_code 10 = .ok (.iload_n 2, 1) := by decide +kernel
theorem d_tb3_11 : decode jdk_52_method_14_code 11 = .ok (.if_icmp .ge 21, 3) := by decide +kernel
theorem d_tb3_14 : decode jdk_52_method_14_code 14 = .ok (.aload_n 3, 1) := by decide +kernel
theorem d_tb3_15 : decode jdk_52_method_14_code 15 = .ok (.iload 4, 2) := by decide +kernel
theorem d_tb3_17 : decode jdk_52_method_14_code 17 = .ok (.aload_n 0, 1) := by decide +kernel
theorem d_tb3_18 : decode jdk_52_method_14_code 18 = .ok (.iload_n 1, 1) := by decide +kernel
theorem d_tb3_19 : decode jdk_52_method_14_code 19 = .ok (.caload, 1) := by decide +kernel
theorem d_tb3_20 : decode jdk_52_method_14_code 20 = .ok (.invokestatic 111, 3) := by decide +kernel
theorem d_tb3_23 : decode jdk_52_method_14_code 23 = .ok (.iinc 1 1, 3) := by decide +kernel
theorem d_tb3_26 : decode jdk_52_method_14_code 26 = .ok (.iinc 4 1, 3) := by decide +kernel
theorem d_tb3_29 : decode jdk_52_method_14_code 29 = .ok (.goto (-21), 3) := by decide +kernel
theorem d_tb3_32 : decode jdk_52_method_14_code 32 = .ok (.aload_n 3, 1) := by decide +kernel
theorem d_tb3_33 : decode jdk_52_method_14_code 33 = .ok (.areturn, 1) := by decide +kernel
abbrev M_tb3 : own_Mi := ((⟨"java/lang/StringUTF16", "toBytes", "([CII)[B"⟩ : MethodName), jdk_52_method_14_code, 5, (Option.some (FieldType.array FieldType.byte)), ({ frames := 2, cells := 1, slots := 6, locals := 24 } : Room))
theorem pn_tb3 : plainFor (own_Mi.y M_tb3) = true := plainFor_of_name (by first | (simp [plainName, overriddenIn]; done) | decide +kernel)
set_option maxRecDepth 65536 in
set_option maxHeartbeats 40000000 in
theorem c_tb3 (K : own_Cx) (a0 : Array Value) (hw : ∀ d ∈ tables_1, d.before a0 K.Z = true) (hU : own_U16 K) (a : Addr) (n : Int32) (cs : List Int32) (h : Heap) (hn : n.toInt = cs.length) (hcap : cs.length ≤ 3) (hcs : own_Chs cs) (A : own_Ary K.Z h a .char (own_ints cs)) :
    own_Met K M_tb3 #[.ref a, .int 0, .int n] [] h (own_ret fun w h' _ => ∃ b : Addr, w = .ref b ∧ Ext h h' ∧ h.size ≤ b ∧ own_Ary K.Z h' b .byte (own_ints (own_two cs))) := by
  refine own_met_3_2 (M := M_tb3) pn_tb3 rfl (by first | rfl | exact own_cat (by assumption)) (by first | rfl | exact own_cat (by assumption)) (by first | rfl | exact own_cat (by assumption)) ?_
  refine own_iload_n (pc' := 1) rfl d_tb3_0 rfl ?_
  refine own_static1v (M' := M_nbf) d_tb3_1 (pc' := 4) rfl (tw_72 hw) (tw_73 hw) (tw_64 hw) (tw_74 hw) (by decide) rfl (own_lenOf pd_1 rfl) rfl rfl rfl rfl (c_nbf K a0 hw n cs.length h hn hcap) (by simp) ?_
  rintro w h1 xs ⟨b, rfl, E1, hb1, hbx, B1⟩
  refine own_astore_n3 (pc' := 5) rfl d_tb3_4 (by first | exact One.u | exact One.val rfl | assumption | exact One.val (by assumption)) (by first | rfl | assumption) ?_
  refine own_iconst (v := (0 : Int32)) (pc' := 6) rfl d_tb3_5 rfl ?_
  refine own_istore_4 (pc' := 8) rfl d_tb3_6 (by first | exact One.u | exact One.val rfl | assumption | exact One.val (by assumption)) ?_
  suffices key : ∀ (k i : Nat) (j : Int32) (h2 : Heap) (sf : List Addr), i + k = cs.length → j.toInt = i → b ∈ sf → Ext h h2 → own_Ary K.Z h2 b .byte (own_ints (own_two (cs.take i)) ++ List.replicate (2 * k) (.int 0)) → own_WP K M_tb3 (own_ret fun w h' _ => ∃ b : Addr, w = .ref b ∧ Ext h h' ∧ h.size ≤ b ∧ own_Ary K.Z h' b .byte (own_ints (own_two cs))) 8 [.val (.ref a), .val (.int j), .val (.int n), .val (.ref b), .val (.int j)] [] sf h2 1 6 from
    own_weak (key cs.length 0 0 h1 _ (by simp) rfl (by simpa using hbx) E1 (by simpa [own_two] using B1)) (fun x hx => hx) (by exact Nat.le_of_ble_eq_true rfl) (by exact Nat.le_of_ble_eq_true rfl)
  intro k
  induction k with
  | zero =>
    intro i j h2 sf hik hj hbs E2 B2
    refine own_iload (pc' := 10) rfl d_tb3_8 rfl ?_
    refine own_iload_n (pc' := 11) rfl d_tb3_10 rfl ?_
    refine own_icmpge (pcT := 32) (pcF := 14) d_tb3_11 (by decide) (by decide) rfl (fun q => ?_) (fun q => ?_)
    · skip
      refine own_aload_n (pc' := 33) rfl d_tb3_32 rfl (by first | rfl | assumption) ?_
      refine own_areturn rfl rfl (by first | rfl | assumption) d_tb3_33 rfl rfl ?_
      have e : cs.take i = cs := List.take_of_length_le (by omega)
      rw [e] at B2
      exact ⟨b, rfl, E2, hb1, by simpa using B2⟩
    · rw [Int32.lt_iff_toInt_lt] at q
      omega
  | succ k ih =>
    intro i j h2 sf hik hj hbs E2 B2
    have hi : i < cs.length := by omega
    obtain ⟨c, hc⟩ : ∃ c, cs[i]? = some c := ⟨cs[i], by simp [hi]⟩
    have e1 : (own_ints (own_two (cs.take i))).length = 2 * i := by simp [own_two_len]; omega
    refine own_iload (pc' := 10) rfl d_tb3_8 rfl ?_
    refine own_iload_n (pc' := 11) rfl d_tb3_10 rfl ?_
    refine own_icmpge (pcT := 32) (pcF := 14) d_tb3_11 (by decide) (by decide) rfl (fun q => ?_) (fun q => ?_)
    · exact absurd (by rw [Int32.lt_iff_toInt_lt]; omega) q
    · skip
      refine own_aload_n (pc' := 15) rfl d_tb3_14 rfl (by first | rfl | assumption) ?_
      refine own_iload (pc' := 17) rfl d_tb3_15 rfl ?_
      refine own_aload_n (pc' := 18) rfl d_tb3_17 rfl (by first | rfl | assumption) ?_
      refine own_iload_n (pc' := 19) rfl d_tb3_18 rfl ?_
      refine own_caload (pc' := 20) rfl d_tb3_19 (A.ext E2) (i := i) hj (by first | exact own_ints_get hc | exact own_ints_getM hc) ?_
      refine own_static3n (M' := M_pch) d_tb3_20 (pc' := 23) rfl (tw_79 hw) (tw_80 hw) (tw_64 hw) (tw_81 hw) (by decide) rfl (own_lenOf pd_2 rfl) rfl rfl rfl rfl (c_pch K a0 hw hU b j c i _ h2 hj (by rw [List.length_append, e1, List.length_replicate]; omega) (by omega) B2) (by simpa using hbs) ?_
      rintro h3 xs3 ⟨k3, B3⟩
      refine own_iinc_1 (z := (1 : Int32)) (pc' := 26) rfl d_tb3_23 rfl ?_
      refine own_iinc_4 (z := (1 : Int32)) (pc' := 29) rfl d_tb3_26 rfl ?_
      refine own_goto (pc' := 8) d_tb3_29 (by decide) (by decide) ?_
      refine own_weak (ih (i + 1) (j + 1) h3 _ (by omega) (by rw [own_add hj (by rfl : (1 : Int32).toInt = 1)] <;> omega) (List.mem_append_right _ hbs) (own_ext_keep E2 k3 (by intro x hx; cases List.mem_singleton.mp hx; omega)) ?_) (fun x hx => hx) (by exact Nat.le_of_ble_eq_true rfl) (by exact Nat.le_of_ble_eq_true rfl)
      rw [own_two_snoc hc]
      have e2 : own_ints (own_two (cs.take i) ++ [own_bt c, own_hb c]) = own_ints (own_two (cs.take i)) ++ [.int (own_bt c), .int (own_hb c)] := by simp [own_ints]
      rw [e2, ← own_settwo, e1]
      exact B3
theorem d_gc_0 : decode jdk_52_method_5_code 0 = .ok (.getstatic 44, 3) := by decide +kernel
theorem d_gc_3 : decode jdk_52_method_5_code 3 = .ok (.ifCond .ne 25, 3) := by decide +kernel
theorem d_gc_28 : decode jdk_52_method_5_code 28 = .ok (.iload_n 1, 1) := by decide +kernel
theorem d_gc_29 : decode jdk_52_method_5_code 29 = .ok (.iconst 1, 1) := by decide +kernel
theorem d_gc_30 : decode jdk_52_method_5_code 30 = .ok (.ishl, 1) := by decide +kernel
theorem d_gc_31 : decode jdk_52_method_5_code 31 = .ok (.istore_n 1, 1) := by decide +kernel
theorem d_gc_32 : decode jdk_52_method_5_code 32 = .ok (.aload_n 0, 1) := by decide +kernel
theorem d_gc_33 : decode jdk_52_method_5_code 33 = .ok (.iload_n 1, 1) := by decide +kernel
theorem d_gc_34 : decode jdk_52_method_5_code 34 = .ok (.iinc 1 1, 3) := by decide +kernel
theorem d_gc_37 : decode jdk_52_method_5_code 37 = .ok (.baload, 1) := by decide +kernel
theorem d_gc_38 : decode jdk_52_method_5_code 38 = .ok (.sipush 255, 3) := by decide +kernel
theorem d_gc_41 : decode jdk_52_method_5_code 41 = .ok (.iand, 1) := by decide +kernel
theorem d_gc_42 : decode jdk_52_method_5_code 42 = .ok (.getstatic 59, 3) := by decide +kernel
theorem d_gc_45 : decode jdk_52_method_5_code 45 = .ok (.ishl, 1) := by decide +kernel
theorem d_gc_46 : decode jdk_52_method_5_code 46 = .ok (.aload_n 0, 1) := by decide +kernel
theorem d_gc_47 : decode jdk_52_method_5_code 47 = .ok (.iload_n 1, 1) := by decide +kernel
theorem d_gc_48 : decode jdk_52_method_5_code 48 = .ok (.baload, 1) := by decide +kernel
theorem d_gc_49 : decode jdk_52_method_5_code 49 = .ok (.sipush 255, 3) := by decide +kernel
theorem d_gc_52 : decode jdk_52_method_5_code 52 = .ok (.iand, 1) := by decide +kernel
theorem d_gc_53 : decode jdk_52_method_5_code 53 = .ok (.getstatic 63, 3) := by decide +kernel
theorem d_gc_56 : decode jdk_52_method_5_code 56 = .ok (.ishl, 1) := by decide +kernel
theorem d_gc_57 : decode jdk_52_method_5_code 57 = .ok (.ior, 1) := by decide +kernel
theorem d_gc_58 : decode jdk_52_method_5_code 58 = .ok (.i2c, 1) := by decide +kernel
theorem d_gc_59 : decode jdk_52_method_5_code 59 = .ok (.ireturn, 1) := by decide +kernel
abbrev M_gc : own_Mi := ((⟨"java/lang/StringUTF16", "getChar", "([BI)C"⟩ : MethodName), jdk_52_method_5_code, 2, (Option.some FieldType.char), ({ frames := 0, cells := 0, slots := 0, locals := 0 } : Room))
theorem pn_gc : plainFor (own_Mi.y M_gc) = true := plainFor_of_name (by first | (simp [plainName, overriddenIn]; done) | decide +kernel)
set_option maxRecDepth 65536 in
set_option maxHeartbeats 40000000 in
theorem c_gc (K : own_Cx) (a0 : Array Value) (hw : ∀ d ∈ tables_1, d.before a0 K.Z = true) (hU : own_U16 K) (b : Addr) (r : Int32) (i : Nat) (c : Int32) (cs : List Int32) (h : Heap) (hr : r.toInt = i) (hc : cs[i]? = some c) (hi : i < 2 ^ 29) (hcs : own_Chs cs) (B : own_Ary K.Z h b .byte (own_ints (own_two cs))) :
    own_Met K M_gc #[.ref b, .int r] [] h (own_ret fun w h' _ => w = .int c ∧ h' = h) := by
  obtain ⟨u1, u2, u3⟩ := hU
  have hj := own_shl1 hr hi
  have g := own_two_get hc
  have hcr := hcs c (List.mem_of_getElem? hc)
  refine own_met_2_0 (M := M_gc) pn_gc rfl (by first | rfl | exact own_cat (by assumption)) (by first | rfl | exact own_cat (by assumption)) ?_
  refine own_getS (pc' := 3) rfl d_gc_0 (tw_82 hw) Via.refl (by assumption) ?_
  refine own_ifne (pcT := 28) (pcF := 6) d_gc_3 (by decide) (by decide) rfl (fun q => ?_) (fun q => ?_)
  · skip
    refine own_iload_n (pc' := 29) rfl d_gc_28 rfl ?_
    refine own_iconst (v := (1 : Int32)) (pc' := 30) rfl d_gc_29 rfl ?_
    refine own_ishl (pc' := 31) rfl d_gc_30 ?_
    refine own_istore_n1 (pc' := 32) rfl d_gc_31 (by first | exact One.u | exact One.val rfl | assumption | exact One.val (by assumption)) ?_
    refine own_aload_n (pc' := 33) rfl d_gc_32 rfl (by first | rfl | assumption) ?_
    refine own_iload_n (pc' := 34) rfl d_gc_33 rfl ?_
    refine own_iinc_1 (z := (1 : Int32)) (pc' := 37) rfl d_gc_34 rfl ?_
    refine own_baload (pc' := 38) rfl d_gc_37 B (i := (2 * i)) hj (by first | exact own_ints_get g.1 | exact own_ints_getM g.1) ?_
    refine own_sipush (v := (255 : Int32)) (pc' := 41) rfl d_gc_38 rfl ?_
    refine own_iand (pc' := 42) rfl d_gc_41 ?_
    refine own_getS (pc' := 45) rfl d_gc_42 (tw_83 hw) Via.refl (by assumption) ?_
    refine own_ishl (pc' := 46) rfl d_gc_45 ?_
    refine own_aload_n (pc' := 47) rfl d_gc_46 rfl (by first | rfl | assumption) ?_
    refine own_iload_n (pc' := 48) rfl d_gc_47 rfl ?_
    refine own_baload (pc' := 49) rfl d_gc_48 B (i := (2 * i + 1)) (by rw [own_add hj (by rfl : (1 : Int32).toInt = 1)] <;> omega) (by first | exact own_ints_get g.2 | exact own_ints_getM g.2) ?_
    refine own_sipush (v := (255 : Int32)) (pc' := 52) rfl d_gc_49 rfl ?_
    refine own_iand (pc' := 53) rfl d_gc_52 ?_
    refine own_getS (pc' := 56) rfl d_gc_53 (tw_84 hw) Via.refl (by assumption) ?_
    refine own_ishl (pc' := 57) rfl d_gc_56 ?_
    refine own_ior (pc' := 58) rfl d_gc_57 ?_
    refine own_i2c (pc' := 59) rfl d_gc_58 ?_
    rw [own_join hcr.1 hcr.2, own_i2c_id hcr.1 hcr.2]
    refine own_ireturnN (t := .char) rfl (by simp) (own_i2c_id hcr.1 hcr.2) d_gc_59 rfl rfl ?_
    exact ⟨rfl, rfl⟩
  · exact absurd q (by decide)
theorem d_cp3_0 : decode jdk_52_method_16_code 0 = .ok (.iload_n 2, 1) := by decide +kernel
theorem d_cp3_1 : decode jdk_52_method_16_code 1 = .ok (.newarray .byte, 2) := by decide +kernel
theorem d_cp3_3 : decode jdk_52_method_16_code 3 = .ok (.astore_n 3, 1) := by decide +kernel
theorem d_cp3_4 : decode jdk_52_method_16_code 4 = .ok (.aload_n 0, 1) := by decide +kernel
theorem d_cp3_5 : decode jdk_52_method_16_code 5 = .ok (.iload_n 1, 1) := by decide +kernel
theorem d_cp3_6 : decode jdk_52_method_16_code 6 = .ok (.aload_n 3, 1) := by decide +kernel
theorem d_cp3_7 : decode jdk_52_method_16_code 7 = .ok (.iconst 0, 1) := by decide +kernel
theorem d_cp3_8 : decode jdk_52_method_16_code 8 = .ok (.iload_n 2, 1) := by decide +kernel
theorem d_cp3_9 : decode jdk_52_method_16_code 9 = .ok (.invokestatic 115, 3) := by decide +kernel
theorem d_cp3_12 : decode jdk_52_method_16_code 12 = .ok (.istore 4, 2) := by decide +kernel
theorem d_cp3_14 : decode jdk_52_method_16_code 14 = .ok (.iload 4, 2) := by decide +kernel
theorem d_cp3_16 : decode jdk_52_method_16_code 16 = .ok (.iload_n 2, 1) := by decide +kernel
theorem d_cp3_17 : decode jdk_52_method_16_code 17 = .ok (.if_icmp .eq 40, 3) := by decide +kernel
theorem d_cp3_20 : decode jdk_52_method_16_code 20 = .ok (.aload_n 0, 1) := by decide +kernel
theorem d_cp3_21 : decode jdk_52_method_16_code 21 = .ok (.iload_n 1, 1) := by decide +kernel
theorem d_cp3_22 : decode jdk_52_method_16_code 22 = .ok (.iload_n 2, 1) := by decide +kernel
theorem d_cp3_23 : decode jdk_52_method_16_code 23 = .ok (.invokestatic 119, 3) := by decide +kernel
theorem d_cp3_26 : decode jdk_52_method_16_code 26 = .ok (.astore 5, 2) := by decide +kernel
theorem d_cp3_28 : decode jdk_52_method_16_code 28 = .ok (.aload 5, 2) := by decide +kernel
theorem d_cp3_30 : decode jdk_52_method_16_code 30 = .ok (.iload 4, 2) := by decide +kernel
theorem d_cp3_32 : decode jdk_52_method_16_code 32 = .ok (.invokestatic 71, 3) := by decide +kernel
theorem d_cp3_35 : decode jdk_52_method_16_code 35 = .ok (.sipush 255, 3) := by decide +kernel
theorem d_cp3_38 : decode jdk_52_method_16_code 38 = .ok (.if_icmp .gt 16, 3) := by decide +kernel
theorem d_cp3_54 : decode jdk_52_method_16_code 54 = .ok (.aload 5, 2) := by decide +kernel
theorem d_cp3_56 : decode jdk_52_method_16_code 56 = .ok (.areturn, 1) := by decide +kernel
theorem d_cp3_57 : decode jdk_52_method_16_code 57 = .ok (.aload_n 3, 1) := by decide +kernel
theorem d_cp3_58 : decode jdk_52_method_16_code 58 = .ok (.areturn, 1) := by decide +kernel
abbrev M_cp3 : own_Mi := ((⟨"java/lang/StringUTF16", "compress", "([CII)[B"⟩ : MethodName), jdk_52_method_16_code, 6, (Option.some (FieldType.array FieldType.byte)), ({ frames := 3, cells := 2, slots := 9, locals := 40 } : Room))
theorem pn_cp3 : plainFor (own_Mi.y M_cp3) = true := plainFor_of_name (by first | (simp [plainName, overriddenIn]; done) | decide +kernel)
set_option maxRecDepth 65536 in
set_option maxHeartbeats 40000000 in
theorem c_cp3 (K : own_Cx) (a0 : Array Value) (hw : ∀ d ∈ tables_1, d.before a0 K.Z = true)
    (hU : own_U16 K)
    (a : Addr) (n : Int32) (cs : List Int32) (h : Heap) (hn : n.toInt = cs.length) (hcap : cs.length ≤ 3) (hcs : own_Chs cs) (A : own_Ary K.Z h a .char (own_ints cs))
    : own_Met K M_cp3 #[.ref a, .int 0, .int n] [] h (own_ret fun w h' _ => ∃ b : Addr, w = .ref b ∧ Ext h h' ∧ h.size ≤ b ∧ own_Ary K.Z h' b .byte (own_ints (own_enc cs))) := by
  refine own_met_3_3 (M := M_cp3) pn_cp3 rfl (by first | rfl | exact own_cat (by assumption)) (by first | rfl | exact own_cat (by assumption)) (by first | rfl | exact own_cat (by assumption)) ?_
  refine own_iload_n (pc' := 1) rfl d_cp3_0 rfl ?_
  refine own_newarray (pc' := 3) rfl d_cp3_1 (tw_24 hw) (N := cs.length) (cap := 3) hn hcap rfl rfl rfl ?_
  intro b h1 eb E1 B1
  have hab : a ≠ b := by show @Ne Nat a b; have : @LT.lt Nat _ _ _ := A.lt; omega
  refine own_astore_n3 (pc' := 4) rfl d_cp3_3 (by first | exact One.u | exact One.val rfl | assumption | exact One.val (by assumption)) (by first | rfl | assumption) ?_
  refine own_aload_n (pc' := 5) rfl d_cp3_4 rfl (by first | rfl | assumption) ?_
  refine own_iload_n (pc' := 6) rfl d_cp3_5 rfl ?_
  refine own_aload_n (pc' := 7) rfl d_cp3_6 rfl (by first | rfl | assumption) ?_
  refine own_iconst (v := (0 : Int32)) (pc' := 8) rfl d_cp3_7 rfl ?_
  refine own_iload_n (pc' := 9) rfl d_cp3_8 rfl ?_
  refine own_static5v (M' := M_cp5) d_cp3_9 (pc' := 12) rfl (tw_66 hw) (tw_67 hw) (tw_64 hw) (tw_68 hw) (by decide) rfl (own_lenOf pd_3 rfl) rfl rfl rfl rfl (c_cp5 K a0 hw a b n cs h1 hn hcs (A.ext E1) B1 hab) (by simp) ?_
  rintro w h2 xs ⟨r, rfl, k2, q⟩
  have E2 := own_ext_keep E1 k2 (by intro x hx; cases List.mem_singleton.mp hx; omega)
  refine own_istore_4 (pc' := 14) rfl d_cp3_12 (by first | exact One.u | exact One.val rfl | assumption | exact One.val (by assumption)) ?_
  refine own_iload (pc' := 16) rfl d_cp3_14 rfl ?_
  refine own_iload_n (pc' := 17) rfl d_cp3_16 rfl ?_
  refine own_icmpeq (pcT := 57) (pcF := 20) d_cp3_17 (by decide) (by decide) rfl (fun z => ?_) (fun z => ?_)
  · rcases q with ⟨q1, q2, q3⟩ | ⟨q1, i, c, q2, q3, q4⟩
    · skip
      refine own_aload_n (pc' := 58) rfl d_cp3_57 rfl (by first | rfl | assumption) ?_
      refine own_areturn rfl rfl (by first | rfl | assumption) d_cp3_58 rfl rfl ?_
      exact ⟨b, rfl, E2, by omega, by rw [(own_enc_lat q1).1]; exact q3⟩
    · have := (List.getElem?_eq_some_iff.mp q3).1
      rw [z] at q2
      omega
  · rcases q with ⟨q1, q2, q3⟩ | ⟨q1, i, c, q2, q3, q4⟩
    · exact absurd q2 z
    have hil := (List.getElem?_eq_some_iff.mp q3).1
    refine own_aload_n (pc' := 21) rfl d_cp3_20 rfl (by first | rfl | assumption) ?_
    refine own_iload_n (pc' := 22) rfl d_cp3_21 rfl ?_
    refine own_iload_n (pc' := 23) rfl d_cp3_22 rfl ?_
    refine own_static3v (M' := M_tb3) d_cp3_23 (pc' := 26) rfl (tw_69 hw) (tw_70 hw) (tw_64 hw) (tw_71 hw) (by decide) rfl (own_lenOf pd_4 rfl) rfl rfl rfl rfl (c_tb3 K a0 hw hU a n cs h2 hn hcap hcs (A.ext E2)) (by simp) ?_
    rintro w h3 xs3 ⟨b3, rfl, E3, hb3, B3⟩
    refine own_astore_5 (pc' := 28) rfl d_cp3_26 (by first | exact One.u | exact One.val rfl | assumption | exact One.val (by assumption)) (by first | rfl | assumption) ?_
    refine own_aload (pc' := 30) rfl d_cp3_28 rfl (by first | rfl | assumption) ?_
    refine own_iload (pc' := 32) rfl d_cp3_30 rfl ?_
    refine own_static2v (M' := M_gc) d_cp3_32 (pc' := 35) rfl (tw_85 hw) (tw_86 hw) (tw_64 hw) (tw_87 hw) (by decide) rfl (own_lenOf pd_5 rfl) rfl rfl rfl rfl (c_gc K a0 hw hU b3 r i c cs h3 q2 q3 (by omega) hcs B3) (by simp) ?_
    rintro w h4 xs4 ⟨rfl, rfl⟩
    refine own_sipush (v := (255 : Int32)) (pc' := 38) rfl d_cp3_35 rfl ?_
    refine own_icmpgt (pcT := 54) (pcF := 41) d_cp3_38 (by decide) (by decide) rfl (fun z2 => ?_) (fun z2 => ?_)
    · skip
      refine own_aload (pc' := 56) rfl d_cp3_54 rfl (by first | rfl | assumption) ?_
      refine own_areturn rfl rfl (by first | rfl | assumption) d_cp3_56 rfl rfl ?_
      exact ⟨b3, rfl, own_ext_trans E2 E3, by have := E2.1; omega, by rw [(own_enc_utf q1).1]; exact B3⟩
    · exfalso
      rw [Int32.lt_iff_toInt_lt] at z2
      have : (255 : Int32).toInt = 255 := rfl
      omega
theorem own_atoms {a0 : Array Value} {Z : State} (hw : ∀ d ∈ tables_1, d.before a0 Z = true) : ∀ a ∈ Bundle.stringAtoms, a.before a0 Z = true := by
  intro a ha
  simp only [Bundle.stringAtoms, List.mem_cons, List.not_mem_nil, or_false] at ha
  rcases ha with rfl | rfl | rfl | rfl | rfl | rfl | rfl
  · exact (tw_11 hw)
  · exact (tw_10 hw)
  · exact (tw_24 hw)
  · exact (tw_25 hw)
  · exact (tw_26 hw)
  · exact (tw_27 hw)
  · exact (tw_28 hw)
theorem own_ofArv {Z : State} {h : Heap} {b : Addr} {k : ClassId} {ty : FieldType} {z : Int32} {vs : List Value} {d : Value} (A : Arv Z h b k ty z vs d) (hl : z.toNatClampNeg = vs.length) : own_Ary Z h b ty vs := by
  obtain ⟨c, h1, -, h3, h4, h5, -⟩ := A
  refine ⟨c, h1, ?_, by rw [← hl]; exact (back32 h4).2⟩
  apply Array.ext
  · simp [h3, hl]
  · intro i hi1 hi2
    have := h5 i hi1
    have hi3 : i < vs.length := by simpa using hi2
    simp [hi1, hi3] at this
    simpa using this
/-- what a constant's text spells -/
def own_us (text : String) : List Int32 := text.toList.map fun c => c.toNat.toInt32
theorem own_ldcS {K : own_Cx} {M : own_Mi} {Q : own_Q} {pc pc' : Nat} {Ls : List Slot} {St : List Value} {sf : List Addr} {h : Heap} {cs sl : Nat} {a0 : Array Value} {index n : Nat} {text : String}
    (hnw : K.nw = false) (hp : pc + 2 = pc') (hd : decode M.b pc = .ok (.ldc index, 2)) (w : (Jvm.Cond.stringLink M.y.cls index text).before a0 K.Z = true) (wS : ∀ a ∈ Bundle.stringAtoms, a.before a0 K.Z = true) (hEL : EW K.Z a0 K.E) (hmem : (M.y.cls, index) ∈ K.E)
    (ht : (∀ c ∈ text.toList, c.toNat < 256) ∧ text.toList.map (fun c => Value.int (Jvm.Lit.byteI c.toNat.toUInt16)) = own_ints (own_enc (own_us text))) (hlat : own_lat (own_us text) = true) (hcs : own_Chs (own_us text)) (hz : ¬ ((own_us text).length.toInt32) < 0) (hl : ((own_us text).length.toInt32).toNatClampNeg = (own_ints (own_enc (own_us text))).length) (hlen : (own_us text).length < 2 ^ 30)
    (hn : Nat.ble (4 * text.toList.length) n = true) (hbig : Nat.ble n 536870912 = true) (hc : Nat.ble (cs + 2) M.R.cells = true) (hs : Nat.ble (sl + (n + 4)) M.R.slots = true)
    (k : ∀ (a : Addr) (h' : Heap), Ext h h' → own_Str K.Z h' a (own_us text) → own_WP K M Q pc' Ls (.ref a :: St) sf h' (cs + 2) (sl + (n + 4))) : own_WP K M Q pc Ls St sf h cs sl := by
  subst hp
  intro p e s vm0 k0 m args below meth c T locs cs' sl' B X hc' hs' eT N I
  obtain ⟨i1, i2, i3, i4, i5, i6⟩ := I
  obtain ⟨b1, b2, b3, b4, b5, b6, b7, b8, b9⟩ := B
  have q3 := Nat.le_of_ble_eq_true hc
  have q4 := Nat.le_of_ble_eq_true hs
  obtain ⟨a, T', h', k1, b, kk, X', e', E, S', hk', Z', O', A1, A2, A3, A4, -, -, C, -, -, st⟩ := ldcCH X b1 b8 b4 w wS eT i1 i2 hEL hmem i4.1 ht hz hl (g := mkF m pc Ls.toArray St) rfl (hb b2 hd) (Nat.le_of_ble_eq_true hn) (Nat.le_of_ble_eq_true hbig) (by omega) (by omega)
  obtain ⟨s₂, o, h1, r⟩ := k a h' E ⟨A1, hcs, hlen, b, A3, by rw [(own_enc_lat hlat).2]; exact A2, own_ofArv A4 hl⟩ p e s T'.vm k1 m args below meth c T' locs _ _ ⟨b1, b2, b3, O', b5, b6, b7, Z', b9⟩ X' (by omega) (by omega) e' N
    ⟨S', hk', (fun q => by rw [hnw] at q; cases q), i4.trans C, fun x hx => ⟨(i5 x hx).1, Nat.lt_of_lt_of_le (i5 x hx).2.1 C.2.1, C.safe (i5 x hx).2.1 (i5 x hx).2.2⟩, own_ext_trans i6 E⟩
  exact ⟨s₂, o, st _ h1, r⟩
theorem d_si4_0 : decode jdk_42_method_149_code 0 = .ok (.aload_n 0, 1) := by decide +kernel
theorem d_si4_1 : decode jdk_42_method_149_code 1 = .ok (.invokespecial 1, 3) := by decide +kernel
theorem d_si4_4 : decode jdk_42_method_149_code 4 = .ok (.iload_n 3, 1) := by decide +kernel
theorem d_si4_5 : decode jdk_42_method_149_code 5 = .ok (.ifCond .ne 22, 3) := by decide +kernel
theorem d_si4_8 : decode jdk_42_method_149_code 8 = .ok (.aload_n 0, 1) := by decide +kernel
theorem d_si4_9 : decode jdk_42_method_149_code 9 = .ok (.ldc 7, 2) := by decide +kernel
theorem d_si4_11 : decode jdk_42_method_149_code 11 = .ok (.getfield 9, 3) := by decide +kernel
theorem d_si4_14 : decode jdk_42_method_149_code 14 = .ok (.putfield 9, 3) := by decide +kernel
theorem d_si4_17 : decode jdk_42_method_149_code 17 = .ok (.aload_n 0, 1) := by decide +kernel
theorem d_si4_18 : decode jdk_42_method_149_code 18 = .ok (.ldc 7, 2) := by decide +kernel
theorem d_si4_20 : decode jdk_42_method_149_code 20 = .ok (.getfield 15, 3) := by decide +kernel
theorem d_si4_23 : decode jdk_42_method_149_code 23 = .ok (.putfield 15, 3) := by decide +kernel
theorem d_si4_26 : decode jdk_42_method_149_code 26 = .ok (.return_, 1) := by decide +kernel
theorem d_si4_27 : decode jdk_42_method_149_code 27 = .ok (.getstatic 38, 3) := by decide +kernel
theorem d_si4_30 : decode jdk_42_method_149_code 30 = .ok (.ifCond .eq 28, 3) := by decide +kernel
theorem d_si4_33 : decode jdk_42_method_149_code 33 = .ok (.aload_n 1, 1) := by decide +kernel
theorem d_si4_34 : decode jdk_42_method_149_code 34 = .ok (.iload_n 2, 1) := by decide +kernel
theorem d_si4_35 : decode jdk_42_method_149_code 35 = .ok (.iload_n 3, 1) := by decide +kernel
theorem d_si4_36 : decode jdk_42_method_149_code 36 = .ok (.invokestatic 177, 3) := by decide +kernel
theorem d_si4_39 : decode jdk_42_method_149_code 39 = .ok (.astore 5, 2) := by decide +kernel
theorem d_si4_41 : decode jdk_42_method_149_code 41 = .ok (.aload_n 0, 1) := by decide +kernel
theorem d_si4_42 : decode jdk_42_method_149_code 42 = .ok (.aload 5, 2) := by decide +kernel
theorem d_si4_44 : decode jdk_42_method_149_code 44 = .ok (.iload_n 3, 1) := by decide +kernel
theorem d_si4_45 : decode jdk_42_method_149_code 45 = .ok (.invokestatic 47, 3) := by decide +kernel
theorem d_si4_48 : decode jdk_42_method_149_code 48 = .ok (.putfield 15, 3) := by decide +kernel
theorem d_si4_51 : decode jdk_42_method_149_code 51 = .ok (.aload_n 0, 1) := by decide +kernel
theorem d_si4_52 : decode jdk_42_method_149_code 52 = .ok (.aload 5, 2) := by decide +kernel
theorem d_si4_54 : decode jdk_42_method_149_code 54 = .ok (.putfield 9, 3) := by decide +kernel
theorem d_si4_57 : decode jdk_42_method_149_code 57 = .ok (.return_, 1) := by decide +kernel
abbrev M_si4 : own_Mi := ((⟨"java/lang/String", "<init>", "([CIILjava/lang/Void;)V"⟩ : MethodName), jdk_42_method_149_code, 6, (Option.none : Option FieldType), ({ frames := 4, cells := 4, slots := 9, locals := 57 } : Room))
theorem pn_si4 : plainFor (own_Mi.y M_si4) = true := plainFor_of_name (by first | (simp [plainName, overriddenIn]; done) | decide +kernel)
set_option maxRecDepth 65536 in
set_option maxHeartbeats 40000000 in
theorem c_si4 (K : own_Cx) (a0 : Array Value) (hw : ∀ d ∈ tables_1, d.before a0 K.Z = true)
    (hU : own_U16 K)
    (hnw : K.nw = false) (hEL : EW K.Z a0 K.E) (hme : ("java/lang/String", 7) ∈ K.E)
    (x a : Addr) (n g : Int32) (cs : List Int32) (h : Heap) (hn : n.toInt = cs.length)
    (hcap : cs.length ≤ 3) (hcs : own_Chs cs) (A : own_Ary K.Z h a .char (own_ints cs))
    (E : Exa K.Z h x "java/lang/String") (FV : Fld K.Z h x "java/lang/String" "value" "[B" .null) (FC : Fld K.Z h x "java/lang/String" "coder" "B" (.int 0)) (SC : Sta K.Z K.Z.heap "java/lang/String" "COMPACT_STRINGS" "Z" (.int g)) (hg : ¬ g = 0)
    : own_Met K M_si4 #[.ref x, .ref a, .int 0, .int n, .null] [x] h (own_void fun h' _ => Keep h h' [x] ∧ own_Str K.Z h' x cs) := by
  refine own_met_5_1 (M := M_si4) pn_si4 rfl (by first | rfl | exact own_cat (by assumption)) (by first | rfl | exact own_cat (by assumption)) (by first | rfl | exact own_cat (by assumption)) (by first | rfl | exact own_cat (by assumption)) (by first | rfl | exact own_cat (by assumption)) ?_
  refine own_aload_n (pc' := 1) rfl d_si4_0 rfl (by first | rfl | assumption) ?_
  refine own_initO (pc' := 4) rfl d_si4_1 (tw_20 hw) (tw_21 hw) (tw_22 hw) rfl rfl rfl ?_
  refine own_iload_n (pc' := 5) rfl d_si4_4 rfl ?_
  refine own_ifne (pcT := 27) (pcF := 8) d_si4_5 (by decide) (by decide) rfl (fun z => ?_) (fun z => ?_)
  · skip
    refine own_getS (pc' := 30) rfl d_si4_27 (tw_56 hw) Via.refl (by assumption) ?_
    refine own_ifeq (pcT := 58) (pcF := 33) d_si4_30 (by decide) (by decide) rfl (fun z2 => ?_) (fun z2 => ?_)
    · exact absurd z2 hg
    · skip
      refine own_aload_n (pc' := 34) rfl d_si4_33 rfl (by first | rfl | assumption) ?_
      refine own_iload_n (pc' := 35) rfl d_si4_34 rfl ?_
      refine own_iload_n (pc' := 36) rfl d_si4_35 rfl ?_
      refine own_static3v (M' := M_cp3) d_si4_36 (pc' := 39) rfl (tw_62 hw) (tw_63 hw) (tw_64 hw) (tw_65 hw) (by decide) rfl (own_lenOf pd_4 rfl) rfl rfl rfl rfl (c_cp3 K a0 hw hU a n cs h hn hcap hcs A) (by simp) ?_
      rintro w h1 xs ⟨b, rfl, E1, hb1, B1⟩
      have hxb : b ≠ x := by show @Ne Nat b x; have : @LT.lt Nat _ _ _ := E.lt; omega
      refine own_astore_5 (pc' := 41) rfl d_si4_39 (by first | exact One.u | exact One.val rfl | assumption | exact One.val (by assumption)) (by first | rfl | assumption) ?_
      refine own_aload_n (pc' := 42) rfl d_si4_41 rfl (by first | rfl | assumption) ?_
      refine own_aload (pc' := 44) rfl d_si4_42 rfl (by first | rfl | assumption) ?_
      refine own_iload_n (pc' := 45) rfl d_si4_44 rfl ?_
      have hp : 0 < cs.length := by
        rcases Nat.eq_zero_or_pos cs.length with e | e
        · exact absurd (Int32.toInt_inj.mp (by rw [hn, e]; rfl)) z
        · exact e
      refine own_static2v (M' := M_cfa) d_si4_45 (pc' := 48) rfl (tw_88 hw) (tw_89 hw) (tw_64 hw) (tw_90 hw) (by decide) rfl (own_lenOf pd_6 rfl) rfl rfl rfl rfl (c_cfa K a0 hw b n cs h1 hn (by omega) hp B1) (by simp) ?_
      rintro w h2 xs2 ⟨rfl, rfl⟩
      refine own_putF (pc' := 51) rfl d_si4_48 (tw_30 hw) Via.refl (Or.inr ⟨(tw_26 hw), rfl, rfl⟩) (tw_10 hw) (ty := .byte) (by decide) (own_cod_byte cs).1 (own_cod_byte cs).2 (FC.ext E1) (E.ext E1) (by simp) ?_
      intro h3 W3
      have sne : RoadKit.slotOf K.Z "java/lang/String" "value" "[B" ≠ RoadKit.slotOf K.Z "java/lang/String" "coder" "B" := slot_ne (Or.inr (tw_25 hw)) (Or.inr (tw_26 hw)) (by decide) (t := .array .byte) (t' := .byte) (by decide) (by decide)
      have FV3 := (FV.ext E1).other W3 (Or.inr sne)
      have FC3 := (FC.ext E1).same W3
      have E3 := (E.ext E1).wr W3
      have B3 := B1.other W3 hxb
      refine own_aload_n (pc' := 52) rfl d_si4_51 rfl (by first | rfl | assumption) ?_
      refine own_aload (pc' := 54) rfl d_si4_52 rfl (by first | rfl | assumption) ?_
      refine own_putF (pc' := 57) rfl d_si4_54 (tw_29 hw) Via.refl (Or.inr ⟨(tw_25 hw), rfl, rfl⟩) (tw_10 hw) (ty := (.array .byte)) (by decide) rfl rfl FV3 E3 (by simp) ?_
      intro h4 W4
      refine own_return rfl d_si4_57 rfl rfl ?_
      refine ⟨(((Keep.refl h [x]).ext E1).wr W3 (Or.inl (List.mem_singleton.mpr rfl))).wr W4 (Or.inl (List.mem_singleton.mpr rfl)), E3.wr W4, hcs, by omega, b, FV3.same W4, FC3.other W4 (Or.inr (Ne.symm sne)), B3.other W4 hxb⟩
  · have hcs0 : cs = [] := by
      rw [z] at hn
      have : (0 : Int32).toInt = 0 := rfl
      exact List.eq_nil_of_length_eq_zero (by omega)
    subst hcs0
    have hen : own_ints (own_enc []) = [] := rfl
    refine own_aload_n (pc' := 9) rfl d_si4_8 rfl (by first | rfl | assumption) ?_
    refine own_ldcS (n := 0) hnw (pc' := 11) rfl d_si4_9 (hw _ (List.mem_of_getElem? (i := 23) rfl)) (own_atoms hw) hEL hme (by decide +kernel) (by decide +kernel) (by decide +kernel) (by decide +kernel) (by decide +kernel) (by decide +kernel) (by decide +kernel) rfl rfl rfl ?_
    intro e1 h1 E1 S1
    obtain ⟨G1, -, -, b1, GV1, GC1, GB1⟩ := S1
    refine own_getF (pc' := 14) rfl d_si4_11 (tw_29 hw) Via.refl GV1 ?_
    refine own_putF (pc' := 17) rfl d_si4_14 (tw_29 hw) Via.refl (Or.inr ⟨(tw_25 hw), rfl, rfl⟩) (tw_10 hw) (ty := (.array .byte)) (by decide) rfl rfl (FV.ext E1) (E.ext E1) (by simp) ?_
    intro h2 W2
    have sne : RoadKit.slotOf K.Z "java/lang/String" "value" "[B" ≠ RoadKit.slotOf K.Z "java/lang/String" "coder" "B" := slot_ne (Or.inr (tw_25 hw)) (Or.inr (tw_26 hw)) (by decide) (t := .array .byte) (t' := .byte) (by decide) (by decide)
    have FV2 := (FV.ext E1).same W2
    have FC2 := (FC.ext E1).other W2 (Or.inr (Ne.symm sne))
    have E2 := (E.ext E1).wr W2
    have hxb : b1 ≠ x := by obtain ⟨c, A, -⟩ := GB1; exact fun q => ne_arr (E.ext E1) (tw_10 hw) A q.symm
    have B2 := GB1.other W2 hxb
    refine own_aload_n (pc' := 18) rfl d_si4_17 rfl (by first | rfl | assumption) ?_
    refine own_ldcS (n := 0) hnw (pc' := 20) rfl d_si4_18 (hw _ (List.mem_of_getElem? (i := 23) rfl)) (own_atoms hw) hEL hme (by decide +kernel) (by decide +kernel) (by decide +kernel) (by decide +kernel) (by decide +kernel) (by decide +kernel) (by decide +kernel) rfl rfl rfl ?_
    intro e3 h3 E3 S3
    obtain ⟨G3, -, -, b3, GV3, GC3, GB3⟩ := S3
    refine own_getF (pc' := 23) rfl d_si4_20 (tw_30 hw) Via.refl GC3 ?_
    refine own_putF (pc' := 26) rfl d_si4_23 (tw_30 hw) Via.refl (Or.inr ⟨(tw_26 hw), rfl, rfl⟩) (tw_10 hw) (ty := .byte) (by decide) rfl rfl (FC2.ext E3) (E2.ext E3) (by simp) ?_
    intro h4 W4
    refine own_return rfl d_si4_26 rfl rfl ?_
    exact ⟨(((((Keep.refl h [x]).ext E1).wr W2 (Or.inl (List.mem_singleton.mpr rfl))).ext E3).wr W4 (Or.inl (List.mem_singleton.mpr rfl))), (E2.ext E3).wr W4, hcs, by simp, b1, (FV2.ext E3).other W4 (Or.inr sne), (FC2.ext E3).same W4, (B2.ext E3).other W4 hxb⟩
theorem d_si1_0 : decode jdk_42_method_3_code 0 = .ok (.aload_n 0, 1) := by decide +kernel
theorem d_si1_1 : decode jdk_42_method_3_code 1 = .ok (.aload_n 1, 1) := by decide +kernel
theorem d_si1_2 : decode jdk_42_method_3_code 2 = .ok (.iconst 0, 1) := by decide +kernel
theorem d_si1_3 : decode jdk_42_method_3_code 3 = .ok (.aload_n 1, 1) := by decide +kernel
theorem d_si1_4 : decode jdk_42_method_3_code 4 = .ok (.arraylength, 1) := by decide +kernel
theorem d_si1_5 : decode jdk_42_method_3_code 5 = .ok (.aconst_null, 1) := by decide +kernel
theorem d_si1_6 : decode jdk_42_method_3_code 6 = .ok (.invokespecial 27, 3) := by decide +kernel
theorem d_si1_9 : decode jdk_42_method_3_code 9 = .ok (.return_, 1) := by decide +kernel
abbrev M_si1 : own_Mi := ((⟨"java/lang/String", "<init>", "([C)V"⟩ : MethodName), jdk_42_method_3_code, 2, (Option.none : Option FieldType), ({ frames := 5, cells := 4, slots := 9, locals := 74 } : Room))
theorem pn_si1 : plainFor (own_Mi.y M_si1) = true := plainFor_of_name (by first | (simp [plainName, overriddenIn]; done) | decide +kernel)
set_option maxRecDepth 65536 in
set_option maxHeartbeats 40000000 in
theorem c_si1 (K : own_Cx) (a0 : Array Value) (hw : ∀ d ∈ tables_1, d.before a0 K.Z = true)
    (hU : own_U16 K)
    (hnw : K.nw = false) (hEL : EW K.Z a0 K.E) (hme : ("java/lang/String", 7) ∈ K.E)
    (x a : Addr) (g : Int32) (cs : List Int32) (h : Heap)
    (hcap : cs.length ≤ 3) (hcs : own_Chs cs) (A : own_Ary K.Z h a .char (own_ints cs))
    (E : Exa K.Z h x "java/lang/String") (FV : Fld K.Z h x "java/lang/String" "value" "[B" .null) (FC : Fld K.Z h x "java/lang/String" "coder" "B" (.int 0)) (SC : Sta K.Z K.Z.heap "java/lang/String" "COMPACT_STRINGS" "Z" (.int g)) (hg : ¬ g = 0)
    : own_Met K M_si1 #[.ref x, .ref a] [x] h (own_void fun h' _ => Keep h h' [x] ∧ own_Str K.Z h' x cs) := by
  have hz : (cs.length.toInt32).toInt = cs.length := own_lit _ (by omega)
  refine own_met_2_0 (M := M_si1) pn_si1 rfl (by first | rfl | exact own_cat (by assumption)) (by first | rfl | exact own_cat (by assumption)) ?_
  refine own_aload_n (pc' := 1) rfl d_si1_0 rfl (by first | rfl | assumption) ?_
  refine own_aload_n (pc' := 2) rfl d_si1_1 rfl (by first | rfl | assumption) ?_
  refine own_iconst (v := (0 : Int32)) (pc' := 3) rfl d_si1_2 rfl ?_
  refine own_aload_n (pc' := 4) rfl d_si1_3 rfl (by first | rfl | assumption) ?_
  refine own_arrlen (z := cs.length.toInt32) (pc' := 5) rfl d_si1_4 A (by rw [hz]; simp) ?_
  refine own_aconst_null (pc' := 6) rfl d_si1_5 ?_
  refine own_special4n (M' := M_si4) d_si1_6 (pc' := 9) rfl rfl rfl (tw_16 hw) (tw_17 hw) (tw_11 hw) (tw_19 hw) (by decide) rfl (own_lenOf pd_7 rfl) rfl rfl rfl rfl (c_si4 K a0 hw hU hnw hEL hme x a _ g cs h hz  hcap hcs A E FV FC SC hg ) (by simp) ?_
  intro h1 xs q
  refine own_return rfl d_si1_9 rfl rfl ?_
  exact q
def own_ch (c : Int32) : Int32 := c.toUInt32.toUInt16.toUInt32.toInt32
theorem own_ch_r (c : Int32) : 0 ≤ (own_ch c).toInt ∧ (own_ch c).toInt < 65536 := (c_i2c c).2
theorem own_ch_nar (c : Int32) : nar .char (c.toUInt32.toUInt16.toUInt32.toInt32) = own_ch c := own_i2c_id (own_ch_r c).1 (own_ch_r c).2
/-! STRINGS, their methods -/
abbrev own_sC : String := "java/lang/String"
theorem own_len_enc {cs : List Int32} : (own_lat cs = true → (own_ints (own_enc cs)).length = cs.length) ∧ (own_lat cs = false → (own_ints (own_enc cs)).length = 2 * cs.length) :=
  ⟨fun q => by simp [(own_enc_lat q).1], fun q => by simp [(own_enc_utf q).1, own_two_len]⟩
theorem own_lat_byte {c : Int32} (h0 : 0 ≤ c.toInt) (h1 : c.toInt < 256) : own_bt c &&& 255 = c := by
  apply Int32.toInt_inj.mp
  have b1 := c_mask (own_bt c) 255 8 (by decide) (by decide)
  have b2 := (c_i2b c).1
  have : (own_bt c).toInt = c.toInt8.toInt32.toInt := rfl
  omega
theorem d_cdr_0 : decode jdk_42_method_152_code 0 = .ok (.getstatic 38, 3) := by decide +kernel
theorem d_cdr_3 : decode jdk_42_method_152_code 3 = .ok (.ifCond .eq 10, 3) := by decide +kernel
theorem d_cdr_6 : decode jdk_42_method_152_code 6 = .ok (.aload_n 0, 1) := by decide +kernel
theorem d_cdr_7 : decode jdk_42_method_152_code 7 = .ok (.getfield 15, 3) := by decide +kernel
theorem d_cdr_10 : decode jdk_42_method_152_code 10 = .ok (.goto 4, 3) := by decide +kernel
theorem d_cdr_14 : decode jdk_42_method_152_code 14 = .ok (.ireturn, 1) := by decide +kernel
abbrev M_cdr : own_Mi := ((⟨"java/lang/String", "coder", "()B"⟩ : MethodName), jdk_42_method_152_code, 1, (Option.some FieldType.byte), ({ frames := 0, cells := 0, slots := 0, locals := 0 } : Room))
theorem pn_cdr : plainFor (own_Mi.y M_cdr) = true := plainFor_of_name (by first | (simp [plainName, overriddenIn]; done) | decide +kernel)
set_option maxRecDepth 65536 in
set_option maxHeartbeats 40000000 in
theorem c_cdr (K : own_Cx) (a0 : Array Value) (hw : ∀ d ∈ tables_1, d.before a0 K.Z = true) (g : Int32) (SC : Sta K.Z K.Z.heap own_sC "COMPACT_STRINGS" "Z" (.int g)) (hg : ¬ g = 0) (x : Addr) (cs : List Int32) (h : Heap) (S : own_Str K.Z h x cs) :
    own_Met K M_cdr #[.ref x] [] h (own_ret fun w h' _ => w = .int (own_cod cs) ∧ h' = h) := by
  obtain ⟨E, hcs, hl, b, FV, FC, B⟩ := S
  refine own_met_1_0 (M := M_cdr) pn_cdr rfl (by first | rfl | exact own_cat (by assumption)) ?_
  refine own_getS (pc' := 3) rfl d_cdr_0 (tw_56 hw) Via.refl (by assumption) ?_
  refine own_ifeq (pcT := 13) (pcF := 6) d_cdr_3 (by decide) (by decide) rfl (fun q => ?_) (fun q => ?_)
  · exact absurd q hg
  · skip
    refine own_aload_n (pc' := 7) rfl d_cdr_6 rfl (by first | rfl | assumption) ?_
    refine own_getF (pc' := 10) rfl d_cdr_7 (tw_30 hw) Via.refl (by assumption) ?_
    refine own_goto (pc' := 14) d_cdr_10 (by decide) (by decide) ?_
    refine own_ireturnN (t := .byte) rfl (by simp) (z' := own_cod cs) (by unfold own_cod; split <;> rfl) d_cdr_14 rfl rfl ?_
    exact ⟨rfl, rfl⟩
theorem d_sl_0 : decode jdk_42_method_54_code 0 = .ok (.aload_n 0, 1) := by decide +kernel
theorem d_sl_1 : decode jdk_42_method_54_code 1 = .ok (.getfield 9, 3) := by decide +kernel
theorem d_sl_4 : decode jdk_42_method_54_code 4 = .ok (.arraylength, 1) := by decide +kernel
theorem d_sl_5 : decode jdk_42_method_54_code 5 = .ok (.aload_n 0, 1) := by decide +kernel
theorem d_sl_6 : decode jdk_42_method_54_code 6 = .ok (.invokevirtual 335, 3) := by decide +kernel
theorem d_sl_9 : decode jdk_42_method_54_code 9 = .ok (.ishr, 1) := by decide +kernel
theorem d_sl_10 : decode jdk_42_method_54_code 10 = .ok (.ireturn, 1) := by decide +kernel
abbrev M_sl : own_Mi := ((⟨"java/lang/String", "length", "()I"⟩ : MethodName), jdk_42_method_54_code, 1, (Option.some FieldType.int), ({ frames := 1, cells := 0, slots := 0, locals := 14 } : Room))
theorem pn_sl : plainFor (own_Mi.y M_sl) = true := plainFor_of_name (by first | (simp [plainName, overriddenIn]; done) | decide +kernel)
set_option maxRecDepth 65536 in
set_option maxHeartbeats 40000000 in
theorem c_sl (K : own_Cx) (a0 : Array Value) (hw : ∀ d ∈ tables_1, d.before a0 K.Z = true) (g : Int32) (SC : Sta K.Z K.Z.heap own_sC "COMPACT_STRINGS" "Z" (.int g)) (hg : ¬ g = 0) (x : Addr) (cs : List Int32) (h : Heap) (S : own_Str K.Z h x cs) :
    own_Met K M_sl #[.ref x] [] h (own_ret fun w h' _ => w = .int cs.length.toInt32 ∧ h' = h) := by
  have S' := S
  obtain ⟨E, hcs, hl, b, FV, FC, B⟩ := S'
  have hn : (cs.length.toInt32).toInt = cs.length := own_lit _ (by omega)
  cases ql : own_lat cs
  · have hz : ((2 * cs.length).toInt32).toInt = ((2 * cs.length : Nat) : Int) := own_lit _ (by omega)
    refine own_met_1_0 (M := M_sl) pn_sl rfl (by first | rfl | exact own_cat (by assumption)) ?_
    refine own_aload_n (pc' := 1) rfl d_sl_0 rfl (by first | rfl | assumption) ?_
    refine own_getF (pc' := 4) rfl d_sl_1 (tw_29 hw) Via.refl (by assumption) ?_
    refine own_arrlen (z := (2 * cs.length).toInt32) (pc' := 5) rfl d_sl_4 B (by rw [hz, own_len_enc.2 ql]) ?_
    refine own_aload_n (pc' := 6) rfl d_sl_5 rfl (by first | rfl | assumption) ?_
    refine own_virtual0v (M' := M_cdr) d_sl_6 (pc' := 9) rfl (tw_51 hw) (tw_52 hw) (tw_54 hw) (tw_53 hw) (tw_11 hw) (tw_55 hw) (by decide) rfl (own_lenOf pd_8 rfl) rfl rfl rfl rfl E (c_cdr K a0 hw g SC hg x cs h S) (by simp) ?_
    rintro w h1 xs ⟨rfl, rfl⟩
    refine own_ishr (pc' := 10) rfl d_sl_9 ?_
    refine own_ireturn rfl d_sl_10 rfl rfl ?_
    refine ⟨?_, rfl⟩
    rw [(own_enc_utf ql).2]
    congr 1
    apply Int32.toInt_inj.mp
    have := c_ishr (2 * cs.length).toInt32 1 1 (by decide)
    rw [this, hn, hz]
    omega
  · skip
    refine own_met_1_0 (M := M_sl) pn_sl rfl (by first | rfl | exact own_cat (by assumption)) ?_
    refine own_aload_n (pc' := 1) rfl d_sl_0 rfl (by first | rfl | assumption) ?_
    refine own_getF (pc' := 4) rfl d_sl_1 (tw_29 hw) Via.refl (by assumption) ?_
    refine own_arrlen (z := cs.length.toInt32) (pc' := 5) rfl d_sl_4 B (by rw [hn, own_len_enc.1 ql]) ?_
    refine own_aload_n (pc' := 6) rfl d_sl_5 rfl (by first | rfl | assumption) ?_
    refine own_virtual0v (M' := M_cdr) d_sl_6 (pc' := 9) rfl (tw_51 hw) (tw_52 hw) (tw_54 hw) (tw_53 hw) (tw_11 hw) (tw_55 hw) (by decide) rfl (own_lenOf pd_8 rfl) rfl rfl rfl rfl E (c_cdr K a0 hw g SC hg x cs h S) (by simp) ?_
    rintro w h1 xs ⟨rfl, rfl⟩
    refine own_ishr (pc' := 10) rfl d_sl_9 ?_
    refine own_ireturn rfl d_sl_10 rfl rfl ?_
    exact ⟨by rw [(own_enc_lat ql).2, own_shr0], rfl⟩
theorem d_isl_0 : decode jdk_42_method_154_code 0 = .ok (.getstatic 38, 3) := by decide +kernel
theorem d_isl_3 : decode jdk_42_method_154_code 3 = .ok (.ifCond .eq 14, 3) := by decide +kernel
theorem d_isl_6 : decode jdk_42_method_154_code 6 = .ok (.aload_n 0, 1) := by decide +kernel
theorem d_isl_7 : decode jdk_42_method_154_code 7 = .ok (.getfield 15, 3) := by decide +kernel
theorem d_isl_10 : decode jdk_42_method_154_code 10 = .ok (.ifCond .ne 7, 3) := by decide +kernel
theorem d_isl_13 : decode jdk_42_method_154_code 13 = .ok (.iconst 1, 1) := by decide +kernel
theorem d_isl_14 : decode jdk_42_method_154_code 14 = .ok (.goto 4, 3) := by decide +kernel
theorem d_isl_17 : decode jdk_42_method_154_code 17 = .ok (.iconst 0, 1) := by decide +kernel
theorem d_isl_18 : decode jdk_42_method_154_code 18 = .ok (.ireturn, 1) := by decide +kernel
abbrev M_isl : own_Mi := ((⟨"java/lang/String", "isLatin1", "()Z"⟩ : MethodName), jdk_42_method_154_code, 1, (Option.some FieldType.boolean), ({ frames := 0, cells := 0, slots := 0, locals := 0 } : Room))
theorem pn_isl : plainFor (own_Mi.y M_isl) = true := plainFor_of_name (by first | (simp [plainName, overriddenIn]; done) | decide +kernel)
set_option maxRecDepth 65536 in
set_option maxHeartbeats 40000000 in
theorem c_isl (K : own_Cx) (a0 : Array Value) (hw : ∀ d ∈ tables_1, d.before a0 K.Z = true) (g : Int32) (SC : Sta K.Z K.Z.heap own_sC "COMPACT_STRINGS" "Z" (.int g)) (hg : ¬ g = 0) (x : Addr) (cs : List Int32) (h : Heap) (S : own_Str K.Z h x cs) :
    own_Met K M_isl #[.ref x] [] h (own_ret fun w h' _ => w = .int (if own_lat cs then 1 else 0) ∧ h' = h) := by
  obtain ⟨E, hcs, hl, b, FV, FC, B⟩ := S
  refine own_met_1_0 (M := M_isl) pn_isl rfl (by first | rfl | exact own_cat (by assumption)) ?_
  refine own_getS (pc' := 3) rfl d_isl_0 (tw_56 hw) Via.refl (by assumption) ?_
  refine own_ifeq (pcT := 17) (pcF := 6) d_isl_3 (by decide) (by decide) rfl (fun q => ?_) (fun q => ?_)
  · exact absurd q hg
  · skip
    refine own_aload_n (pc' := 7) rfl d_isl_6 rfl (by first | rfl | assumption) ?_
    refine own_getF (pc' := 10) rfl d_isl_7 (tw_30 hw) Via.refl (by assumption) ?_
    refine own_ifne (pcT := 17) (pcF := 13) d_isl_10 (by decide) (by decide) rfl (fun q2 => ?_) (fun q2 => ?_)
    · skip
      refine own_iconst (v := (0 : Int32)) (pc' := 18) rfl d_isl_17 rfl ?_
      refine own_ireturnN (t := .boolean) rfl (by simp) (by first | exact own_nb0 | exact own_nb1 | rfl) d_isl_18 rfl rfl ?_
      refine ⟨?_, rfl⟩
      cases ql : own_lat cs
      · rfl
      · exact absurd (own_enc_lat ql).2 q2
    · skip
      refine own_iconst (v := (1 : Int32)) (pc' := 14) rfl d_isl_13 rfl ?_
      refine own_goto (pc' := 18) d_isl_14 (by decide) (by decide) ?_
      refine own_ireturnN (t := .boolean) rfl (by simp) (by first | exact own_nb0 | exact own_nb1 | rfl) d_isl_18 rfl rfl ?_
      refine ⟨?_, rfl⟩
      cases ql : own_lat cs
      · rw [(own_enc_utf ql).2] at q2; cases q2
      · rfl
theorem d_pci_0 : decode jdk_41_method_11_code 0 = .ok (.iload_n 0, 1) := by decide +kernel
theorem d_pci_1 : decode jdk_41_method_11_code 1 = .ok (.ifCond .lt 8, 3) := by decide +kernel
theorem d_pci_4 : decode jdk_41_method_11_code 4 = .ok (.iload_n 0, 1) := by decide +kernel
theorem d_pci_5 : decode jdk_41_method_11_code 5 = .ok (.iload_n 1, 1) := by decide +kernel
theorem d_pci_6 : decode jdk_41_method_11_code 6 = .ok (.if_icmp .lt 10, 3) := by decide +kernel
theorem d_pci_16 : decode jdk_41_method_11_code 16 = .ok (.iload_n 0, 1) := by decide +kernel
theorem d_pci_17 : decode jdk_41_method_11_code 17 = .ok (.ireturn, 1) := by decide +kernel
abbrev M_pci : own_Mi := ((⟨"jdk/internal/util/Preconditions", "checkIndex", "(IILjava/util/function/BiFunction;)I"⟩ : MethodName), jdk_41_method_11_code, 3, (Option.some FieldType.int), ({ frames := 0, cells := 0, slots := 0, locals := 0 } : Room))
theorem pn_pci : plainFor (own_Mi.y M_pci) = true := plainFor_of_name (by first | (simp [plainName, overriddenIn]; done) | decide +kernel)
set_option maxRecDepth 65536 in
set_option maxHeartbeats 40000000 in
theorem c_pci (K : own_Cx) (a0 : Array Value) (hw : ∀ d ∈ tables_1, d.before a0 K.Z = true) (rf : Value) (hrf : rf.isRef = true) (i n : Int32) (h : Heap) (h0 : 0 ≤ i.toInt) (h1 : i.toInt < n.toInt) :
    own_Met K M_pci #[.int i, .int n, rf] [] h (own_ret fun w h' _ => w = .int i ∧ h' = h) := by
  have z0 : (0 : Int32).toInt = 0 := rfl
  rcases ref_cases hrf with rfl | ⟨r, rfl⟩
  all_goals
    refine own_met_3_0 (M := M_pci) pn_pci rfl (by first | rfl | exact own_cat (by assumption)) (by first | rfl | exact own_cat (by assumption)) (by first | rfl | exact own_cat (by assumption)) ?_
    refine own_iload_n (pc' := 1) rfl d_pci_0 rfl ?_
    refine own_iflt (pcT := 9) (pcF := 4) d_pci_1 (by decide) (by decide) rfl (fun q => ?_) (fun q => ?_)
    · rw [Int32.lt_iff_toInt_lt] at q; omega
    · skip
      refine own_iload_n (pc' := 5) rfl d_pci_4 rfl ?_
      refine own_iload_n (pc' := 6) rfl d_pci_5 rfl ?_
      refine own_icmplt (pcT := 16) (pcF := 9) d_pci_6 (by decide) (by decide) rfl (fun q2 => ?_) (fun q2 => ?_)
      · skip
        refine own_iload_n (pc' := 17) rfl d_pci_16 rfl ?_
        refine own_ireturn rfl d_pci_17 rfl rfl ?_
        exact ⟨rfl, rfl⟩
      · rw [Int32.lt_iff_toInt_lt] at q2; omega
theorem d_ski_0 : decode jdk_42_method_155_code 0 = .ok (.iload_n 0, 1) := by decide +kernel
theorem d_ski_1 : decode jdk_42_method_155_code 1 = .ok (.iload_n 1, 1) := by decide +kernel
theorem d_ski_2 : decode jdk_42_method_155_code 2 = .ok (.getstatic 1053, 3) := by decide +kernel
theorem d_ski_5 : decode jdk_42_method_155_code 5 = .ok (.invokestatic 1059, 3) := by decide +kernel
theorem d_ski_8 : decode jdk_42_method_155_code 8 = .ok (.pop, 1) := by decide +kernel
theorem d_ski_9 : decode jdk_42_method_155_code 9 = .ok (.return_, 1) := by decide +kernel
abbrev M_ski : own_Mi := ((⟨"java/lang/String", "checkIndex", "(II)V"⟩ : MethodName), jdk_42_method_155_code, 2, (Option.none : Option FieldType), ({ frames := 1, cells := 0, slots := 0, locals := 14 } : Room))
theorem pn_ski : plainFor (own_Mi.y M_ski) = true := plainFor_of_name (by first | (simp [plainName, overriddenIn]; done) | decide +kernel)
set_option maxRecDepth 65536 in
set_option maxHeartbeats 40000000 in
theorem c_ski (K : own_Cx) (a0 : Array Value) (hw : ∀ d ∈ tables_1, d.before a0 K.Z = true) (rf : Value) (hrf : rf.isRef = true) (SF : Sta K.Z K.Z.heap "jdk/internal/util/Preconditions" "SIOOBE_FORMATTER" "Ljava/util/function/BiFunction;" rf) (i n : Int32) (h : Heap) (h0 : 0 ≤ i.toInt) (h1 : i.toInt < n.toInt) :
    own_Met K M_ski #[.int i, .int n] [] h (own_void fun h' _ => h' = h) := by
  refine own_met_2_0 (M := M_ski) pn_ski rfl (by first | rfl | exact own_cat (by assumption)) (by first | rfl | exact own_cat (by assumption)) ?_
  refine own_iload_n (pc' := 1) rfl d_ski_0 rfl ?_
  refine own_iload_n (pc' := 2) rfl d_ski_1 rfl ?_
  refine own_getS (pc' := 5) rfl d_ski_2 (tw_111 hw) Via.refl (by assumption) ?_
  refine own_static3v (M' := M_pci) d_ski_5 (pc' := 8) rfl (tw_113 hw) (tw_114 hw) (tw_112 hw) (tw_115 hw) (by decide) rfl (own_lenOf pd_9 rfl) rfl rfl rfl rfl (c_pci K a0 hw rf hrf i n h h0 h1) (by simp) ?_
  rintro w h2 xs ⟨rfl, rfl⟩
  refine own_pop (pc' := 9) rfl d_ski_8 (by first | rfl | assumption) ?_
  refine own_return rfl d_ski_9 rfl rfl ?_
  rfl
theorem d_mmn_0 : decode jdk_29_method_69_code 0 = .ok (.iload_n 0, 1) := by decide +kernel
theorem d_mmn_1 : decode jdk_29_method_69_code 1 = .ok (.iload_n 1, 1) := by decide +kernel
theorem d_mmn_2 : decode jdk_29_method_69_code 2 = .ok (.if_icmp .gt 7, 3) := by decide +kernel
theorem d_mmn_5 : decode jdk_29_method_69_code 5 = .ok (.iload_n 0, 1) := by decide +kernel
theorem d_mmn_6 : decode jdk_29_method_69_code 6 = .ok (.goto 4, 3) := by decide +kernel
theorem d_mmn_9 : decode jdk_29_method_69_code 9 = .ok (.iload_n 1, 1) := by decide +kernel
theorem d_mmn_10 : decode jdk_29_method_69_code 10 = .ok (.ireturn, 1) := by decide +kernel
abbrev M_mmn : own_Mi := ((⟨"java/lang/Math", "min", "(II)I"⟩ : MethodName), jdk_29_method_69_code, 2, (Option.some FieldType.int), ({ frames := 0, cells := 0, slots := 0, locals := 0 } : Room))
theorem pn_mmn : plainFor (own_Mi.y M_mmn) = true := Jvm.Free.JP.mathPlain rfl (by decide +kernel)
set_option maxRecDepth 65536 in
set_option maxHeartbeats 40000000 in
theorem c_mmn (K : own_Cx) (a0 : Array Value) (hw : ∀ d ∈ tables_1, d.before a0 K.Z = true) (x y : Int32) (h : Heap) :
    own_Met K M_mmn #[.int x, .int y] [] h (own_ret fun w h' _ => ∃ r : Int32, w = .int r ∧ ((y.toInt < x.toInt ∧ r = y) ∨ (x.toInt ≤ y.toInt ∧ r = x)) ∧ h' = h) := by
  refine own_met_2_0 (M := M_mmn) pn_mmn rfl (by first | rfl | exact own_cat (by assumption)) (by first | rfl | exact own_cat (by assumption)) ?_
  refine own_iload_n (pc' := 1) rfl d_mmn_0 rfl ?_
  refine own_iload_n (pc' := 2) rfl d_mmn_1 rfl ?_
  refine own_icmpgt (pcT := 9) (pcF := 5) d_mmn_2 (by decide) (by decide) rfl (fun q => ?_) (fun q => ?_)
  · rw [Int32.lt_iff_toInt_lt] at q
    refine own_iload_n (pc' := 10) rfl d_mmn_9 rfl ?_
    refine own_ireturn rfl d_mmn_10 rfl rfl ?_
    exact ⟨y, rfl, Or.inl ⟨q, rfl⟩, rfl⟩
  · rw [Int32.lt_iff_toInt_lt] at q
    refine own_iload_n (pc' := 6) rfl d_mmn_5 rfl ?_
    refine own_goto (pc' := 10) d_mmn_6 (by decide) (by decide) ?_
    refine own_ireturn rfl d_mmn_10 rfl rfl ?_
    exact ⟨x, rfl, Or.inr ⟨by omega, rfl⟩, rfl⟩
/-! surrogates -/
def own_hi (c : Int32) : Bool := decide (55296 ≤ c.toInt) && decide (c.toInt < 56320)
def own_lo (c : Int32) : Bool := decide (56320 ≤ c.toInt) && decide (c.toInt < 57344)
theorem d_chs_0 : decode jdk_89_method_14_code 0 = .ok (.iload_n 0, 1) := by decide +kernel
theorem d_chs_1 : decode jdk_89_method_14_code 1 = .ok (.ldc 75, 2) := by decide +kernel
theorem d_chs_3 : decode jdk_89_method_14_code 3 = .ok (.if_icmp .lt 13, 3) := by decide +kernel
theorem d_chs_6 : decode jdk_89_method_14_code 6 = .ok (.iload_n 0, 1) := by decide +kernel
theorem d_chs_7 : decode jdk_89_method_14_code 7 = .ok (.ldc 76, 2) := by decide +kernel
theorem d_chs_9 : decode jdk_89_method_14_code 9 = .ok (.if_icmp .ge 7, 3) := by decide +kernel
theorem d_chs_12 : decode jdk_89_method_14_code 12 = .ok (.iconst 1, 1) := by decide +kernel
theorem d_chs_13 : decode jdk_89_method_14_code 13 = .ok (.goto 4, 3) := by decide +kernel
theorem d_chs_16 : decode jdk_89_method_14_code 16 = .ok (.iconst 0, 1) := by decide +kernel
theorem d_chs_17 : decode jdk_89_method_14_code 17 = .ok (.ireturn, 1) := by decide +kernel
abbrev M_chs : own_Mi := ((⟨"java/lang/Character", "isHighSurrogate", "(C)Z"⟩ : MethodName), jdk_89_method_14_code, 1, (Option.some FieldType.boolean), ({ frames := 0, cells := 0, slots := 0, locals := 0 } : Room))
theorem pn_chs : plainFor (own_Mi.y M_chs) = true := plainFor_of_name (by first | (simp [plainName, overriddenIn]; done) | decide +kernel)
set_option maxRecDepth 65536 in
set_option maxHeartbeats 40000000 in
theorem c_chs (K : own_Cx) (a0 : Array Value) (hw : ∀ d ∈ tables_1, d.before a0 K.Z = true) (c : Int32) (h : Heap) :
    own_Met K M_chs #[.int c] [] h (own_ret fun w h' _ => w = .int (if own_hi c then 1 else 0) ∧ h' = h) := by
  have v1 : (55296 : Int32).toInt = 55296 := rfl
  have v2 : (56320 : Int32).toInt = 56320 := rfl
  refine own_met_1_0 (M := M_chs) pn_chs rfl (by first | rfl | exact own_cat (by assumption)) ?_
  refine own_iload_n (pc' := 1) rfl d_chs_0 rfl ?_
  refine own_ldcI (pc' := 3) rfl d_chs_1 (tw_126 hw) ?_
  refine own_icmplt (pcT := 16) (pcF := 6) d_chs_3 (by decide) (by decide) rfl (fun q => ?_) (fun q => ?_)
  · rw [Int32.lt_iff_toInt_lt] at q
    refine own_iconst (v := (0 : Int32)) (pc' := 17) rfl d_chs_16 rfl ?_
    refine own_ireturnN (t := .boolean) rfl (by simp) (by first | exact own_nb0 | exact own_nb1 | rfl) d_chs_17 rfl rfl ?_
    exact ⟨by rw [show own_hi c = false by simp [own_hi]; omega]; rfl, rfl⟩
  · rw [Int32.lt_iff_toInt_lt] at q
    refine own_iload_n (pc' := 7) rfl d_chs_6 rfl ?_
    refine own_ldcI (pc' := 9) rfl d_chs_7 (tw_127 hw) ?_
    refine own_icmpge (pcT := 16) (pcF := 12) d_chs_9 (by decide) (by decide) rfl (fun q2 => ?_) (fun q2 => ?_)
    · rw [Int32.lt_iff_toInt_lt] at q2
      refine own_iconst (v := (0 : Int32)) (pc' := 17) rfl d_chs_16 rfl ?_
      refine own_ireturnN (t := .boolean) rfl (by simp) (by first | exact own_nb0 | exact own_nb1 | rfl) d_chs_17 rfl rfl ?_
      exact ⟨by rw [show own_hi c = false by simp [own_hi]; omega]; rfl, rfl⟩
    · rw [Int32.lt_iff_toInt_lt] at q2
      refine own_iconst (v := (1 : Int32)) (pc' := 13) rfl d_chs_12 rfl ?_
      refine own_goto (pc' := 17) d_chs_13 (by decide) (by decide) ?_
      refine own_ireturnN (t := .boolean) rfl (by simp) (by first | exact own_nb0 | exact own_nb1 | rfl) d_chs_17 rfl rfl ?_
      exact ⟨by rw [show own_hi c = true by simp [own_hi]; omega]; rfl, rfl⟩
theorem d_cls_0 : decode jdk_89_method_15_code 0 = .ok (.iload_n 0, 1) := by decide +kernel
theorem d_cls_1 : decode jdk_89_method_15_code 1 = .ok (.ldc 76, 2) := by decide +kernel
theorem d_cls_3 : decode jdk_89_method_15_code 3 = .ok (.if_icmp .lt 13, 3) := by decide +kernel
theorem d_cls_6 : decode jdk_89_method_15_code 6 = .ok (.iload_n 0, 1) := by decide +kernel
theorem d_cls_7 : decode jdk_89_method_15_code 7 = .ok (.ldc 77, 2) := by decide +kernel
theorem d_cls_9 : decode jdk_89_method_15_code 9 = .ok (.if_icmp .ge 7, 3) := by decide +kernel
theorem d_cls_12 : decode jdk_89_method_15_code 12 = .ok (.iconst 1, 1) := by decide +kernel
theorem d_cls_13 : decode jdk_89_method_15_code 13 = .ok (.goto 4, 3) := by decide +kernel
theorem d_cls_16 : decode jdk_89_method_15_code 16 = .ok (.iconst 0, 1) := by decide +kernel
theorem d_cls_17 : decode jdk_89_method_15_code 17 = .ok (.ireturn, 1) := by decide +kernel
abbrev M_cls : own_Mi := ((⟨"java/lang/Character", "isLowSurrogate", "(C)Z"⟩ : MethodName), jdk_89_method_15_code, 1, (Option.some FieldType.boolean), ({ frames := 0, cells := 0, slots := 0, locals := 0 } : Room))
theorem pn_cls : plainFor (own_Mi.y M_cls) = true := plainFor_of_name (by first | (simp [plainName, overriddenIn]; done) | decide +kernel)
set_option maxRecDepth 65536 in
set_option maxHeartbeats 40000000 in
theorem c_cls (K : own_Cx) (a0 : Array Value) (hw : ∀ d ∈ tables_1, d.before a0 K.Z = true) (c : Int32) (h : Heap) :
    own_Met K M_cls #[.int c] [] h (own_ret fun w h' _ => w = .int (if own_lo c then 1 else 0) ∧ h' = h) := by
  have v1 : (57344 : Int32).toInt = 57344 := rfl
  have v2 : (56320 : Int32).toInt = 56320 := rfl
  refine own_met_1_0 (M := M_cls) pn_cls rfl (by first | rfl | exact own_cat (by assumption)) ?_
  refine own_iload_n (pc' := 1) rfl d_cls_0 rfl ?_
  refine own_ldcI (pc' := 3) rfl d_cls_1 (tw_127 hw) ?_
  refine own_icmplt (pcT := 16) (pcF := 6) d_cls_3 (by decide) (by decide) rfl (fun q => ?_) (fun q => ?_)
  · rw [Int32.lt_iff_toInt_lt] at q
    refine own_iconst (v := (0 : Int32)) (pc' := 17) rfl d_cls_16 rfl ?_
    refine own_ireturnN (t := .boolean) rfl (by simp) (by first | exact own_nb0 | exact own_nb1 | rfl) d_cls_17 rfl rfl ?_
    exact ⟨by rw [show own_lo c = false by simp [own_lo]; omega]; rfl, rfl⟩
  · rw [Int32.lt_iff_toInt_lt] at q
    refine own_iload_n (pc' := 7) rfl d_cls_6 rfl ?_
    refine own_ldcI (pc' := 9) rfl d_cls_7 (tw_131 hw) ?_
    refine own_icmpge (pcT := 16) (pcF := 12) d_cls_9 (by decide) (by decide) rfl (fun q2 => ?_) (fun q2 => ?_)
    · rw [Int32.lt_iff_toInt_lt] at q2
      refine own_iconst (v := (0 : Int32)) (pc' := 17) rfl d_cls_16 rfl ?_
      refine own_ireturnN (t := .boolean) rfl (by simp) (by first | exact own_nb0 | exact own_nb1 | rfl) d_cls_17 rfl rfl ?_
      exact ⟨by rw [show own_lo c = false by simp [own_lo]; omega]; rfl, rfl⟩
    · rw [Int32.lt_iff_toInt_lt] at q2
      refine own_iconst (v := (1 : Int32)) (pc' := 13) rfl d_cls_12 rfl ?_
      refine own_goto (pc' := 17) d_cls_13 (by decide) (by decide) ?_
      refine own_ireturnN (t := .boolean) rfl (by simp) (by first | exact own_nb0 | exact own_nb1 | rfl) d_cls_17 rfl rfl ?_
      exact ⟨by rw [show own_lo c = true by simp [own_lo]; omega]; rfl, rfl⟩
theorem own_drop_cons {cs : List Int32} {i : Nat} {c : Int32} (hc : cs[i]? = some c) : cs.drop i = c :: cs.drop (i + 1) := by
  obtain ⟨h1, rfl⟩ := List.getElem?_eq_some_iff.mp hc
  exact List.drop_eq_getElem_cons h1
/-! code points -/
def own_cpi (h l : Int32) : Int32 := ((h - 55296) <<< ((10 : Int32) &&& 31)) + (l - 56320) + 65536
theorem own_cpi_v {h l : Int32} (hh : own_hi h = true) (hl : own_lo l = true) : (own_cpi h l).toInt = (h.toInt - 55296) * 1024 + (l.toInt - 56320) + 65536 := by
  simp only [own_hi, own_lo, Bool.and_eq_true, decide_eq_true_eq] at hh hl
  have v1 : (55296 : Int32).toInt = 55296 := rfl
  have v2 : (56320 : Int32).toInt = 56320 := rfl
  have v3 : (65536 : Int32).toInt = 65536 := rfl
  have e1 := own_sub (x := h) rfl v1 (by omega) (by omega)
  have e2 := own_sub (x := l) rfl v2 (by omega) (by omega)
  have s := c_ishl (h - 55296) 10 10 (by decide)
  have r := rng32 ((h - 55296) <<< ((10 : Int32) &&& 31))
  have e3 : ((h - 55296) <<< ((10 : Int32) &&& 31)).toInt = (h.toInt - 55296) * 1024 := by omega
  have e4 := own_add e3 e2 (by omega) (by omega)
  have e5 := own_add e4 v3 (by omega) (by omega)
  show (((h - 55296) <<< ((10 : Int32) &&& 31)) + (l - 56320) + 65536).toInt = _
  rw [e5]
theorem own_tcp {h l : Int32} (hh : own_hi h = true) (hl : own_lo l = true) : (h <<< ((10 : Int32) &&& 31)) + l + (-56613888) = own_cpi h l := by
  apply Int32.toInt_inj.mp
  rw [own_cpi_v hh hl]
  simp only [own_hi, own_lo, Bool.and_eq_true, decide_eq_true_eq] at hh hl
  have s := c_ishl h 10 10 (by decide)
  have r := rng32 (h <<< ((10 : Int32) &&& 31))
  have e3 : (h <<< ((10 : Int32) &&& 31)).toInt = h.toInt * 1024 := by omega
  have v3 : (-56613888 : Int32).toInt = -56613888 := rfl
  have e4 := own_add e3 (rfl : l.toInt = l.toInt) (by omega) (by omega)
  rw [own_add e4 v3 (by omega) (by omega)]
  omega
def own_c1 : List Int32 → Int32 × Nat
  | [] => (0, 0)
  | [c] => (c, 1)
  | c :: d :: _ => if own_hi c && own_lo d then (own_cpi c d, 2) else (c, 1)
def own_cpl : List Int32 → List Int32
  | c :: d :: r => if own_hi c && own_lo d then own_cpi c d :: own_cpl r else c :: own_cpl (d :: r)
  | [c] => [c]
  | [] => []
theorem own_cpl_step : ∀ {L : List Int32}, L ≠ [] → own_cpl L = (own_c1 L).1 :: own_cpl (L.drop (own_c1 L).2) := by
  intro L hL
  match L with
  | [] => exact absurd rfl hL
  | [c] => rfl
  | c :: d :: r =>
    simp only [own_cpl, own_c1]
    split <;> rfl
theorem own_c1_n {L : List Int32} (hL : L ≠ []) (hc : own_Chs L) : (own_c1 L).2 ≤ L.length ∧ ((65536 ≤ (own_c1 L).1.toInt ∧ (own_c1 L).2 = 2) ∨ ((own_c1 L).1.toInt < 65536 ∧ (own_c1 L).2 = 1)) := by
  match L, hL, hc with
  | [c], _, hc => exact ⟨Nat.le_refl _, Or.inr ⟨(hc c (by simp)).2, rfl⟩⟩
  | c :: d :: r, _, hc =>
    have h1 := hc c (by simp)
    simp only [own_c1]
    split
    · rename_i q
      simp only [Bool.and_eq_true] at q
      have e := own_cpi_v q.1 q.2
      have q1 := q.1
      have q2 := q.2
      simp only [own_hi, own_lo, Bool.and_eq_true, decide_eq_true_eq] at q1 q2
      refine ⟨by simp, Or.inl ⟨?_, rfl⟩⟩
      show 65536 ≤ (own_cpi c d).toInt
      omega
    · exact ⟨by simp, Or.inr ⟨h1.2, rfl⟩⟩
def own_cmp : List Int32 → List Int32 → Int32
  | [], [] => 0
  | [], _ :: _ => -1
  | _ :: _, [] => 1
  | x :: xs, y :: ys => if x = y then own_cmp xs ys else if x.toInt < y.toInt then -1 else 1
theorem own_chs_drop {cs : List Int32} (h : own_Chs cs) (i : Nat) : own_Chs (cs.drop i) := fun c hc => h c (List.mem_of_mem_drop hc)
theorem own_nar16 {c : Int32} (h0 : 0 ≤ c.toInt) (h1 : c.toInt < 65536) : nar .char c = c := own_i2c_id h0 h1
theorem d_ch_0 : decode method_3_code 0 = .ok (.iload_n 0, 1) := by decide +kernel
theorem d_ch_1 : decode method_3_code 1 = .ok (.ldc 31, 2) := by decide +kernel
theorem d_ch_3 : decode method_3_code 3 = .ok (.iand, 1) := by decide +kernel
theorem d_ch_4 : decode method_3_code 4 = .ok (.ifCond .ne 9, 3) := by decide +kernel
theorem d_ch_7 : decode method_3_code 7 = .ok (.iload_n 0, 1) := by decide +kernel
theorem d_ch_8 : decode method_3_code 8 = .ok (.ldc 32, 2) := by decide +kernel
theorem d_ch_10 : decode method_3_code 10 = .ok (.iand, 1) := by decide +kernel
theorem d_ch_11 : decode method_3_code 11 = .ok (.i2c, 1) := by decide +kernel
theorem d_ch_12 : decode method_3_code 12 = .ok (.ireturn, 1) := by decide +kernel
theorem d_ch_13 : decode method_3_code 13 = .ok (.iload_n 0, 1) := by decide +kernel
theorem d_ch_14 : decode method_3_code 14 = .ok (.bipush 7, 2) := by decide +kernel
theorem d_ch_16 : decode method_3_code 16 = .ok (.iand, 1) := by decide +kernel
theorem d_ch_17 : decode method_3_code 17 = .ok (.istore_n 1, 1) := by decide +kernel
theorem d_ch_18 : decode method_3_code 18 = .ok (.iload_n 1, 1) := by decide +kernel
theorem d_ch_19 : decode method_3_code 19 = .ok (.ifCond .ne 6, 3) := by decide +kernel
theorem d_ch_22 : decode method_3_code 22 = .ok (.bipush 97, 2) := by decide +kernel
theorem d_ch_24 : decode method_3_code 24 = .ok (.ireturn, 1) := by decide +kernel
theorem d_ch_25 : decode method_3_code 25 = .ok (.iload_n 1, 1) := by decide +kernel
theorem d_ch_26 : decode method_3_code 26 = .ok (.iconst 1, 1) := by decide +kernel
theorem d_ch_27 : decode method_3_code 27 = .ok (.if_icmp .ne 6, 3) := by decide +kernel
theorem d_ch_30 : decode method_3_code 30 = .ok (.bipush 98, 2) := by decide +kernel
theorem d_ch_32 : decode method_3_code 32 = .ok (.ireturn, 1) := by decide +kernel
theorem d_ch_33 : decode method_3_code 33 = .ok (.iload_n 1, 1) := by decide +kernel
theorem d_ch_34 : decode method_3_code 34 = .ok (.iconst 2, 1) := by decide +kernel
theorem d_ch_35 : decode method_3_code 35 = .ok (.if_icmp .ne 6, 3) := by decide +kernel
theorem d_ch_38 : decode method_3_code 38 = .ok (.ldc 33, 2) := by decide +kernel
theorem d_ch_40 : decode method_3_code 40 = .ok (.ireturn, 1) := by decide +kernel
theorem d_ch_41 : decode method_3_code 41 = .ok (.iload_n 1, 1) := by decide +kernel
theorem d_ch_42 : decode method_3_code 42 = .ok (.iconst 3, 1) := by decide +kernel
theorem d_ch_43 : decode method_3_code 43 = .ok (.if_icmp .ne 6, 3) := by decide +kernel
theorem d_ch_46 : decode method_3_code 46 = .ok (.ldc 34, 2) := by decide +kernel
theorem d_ch_48 : decode method_3_code 48 = .ok (.ireturn, 1) := by decide +kernel
theorem d_ch_49 : decode method_3_code 49 = .ok (.iload_n 1, 1) := by decide +kernel
theorem d_ch_50 : decode method_3_code 50 = .ok (.iconst 4, 1) := by decide +kernel
theorem d_ch_51 : decode method_3_code 51 = .ok (.if_icmp .ne 6, 3) := by decide +kernel
theorem d_ch_54 : decode method_3_code 54 = .ok (.ldc 35, 2) := by decide +kernel
theorem d_ch_56 : decode method_3_code 56 = .ok (.ireturn, 1) := by decide +kernel
theorem d_ch_57 : decode method_3_code 57 = .ok (.iload_n 1, 1) := by decide +kernel
theorem d_ch_58 : decode method_3_code 58 = .ok (.iconst 5, 1) := by decide +kernel
theorem d_ch_59 : decode method_3_code 59 = .ok (.if_icmp .ne 6, 3) := by decide +kernel
theorem d_ch_62 : decode method_3_code 62 = .ok (.ldc 36, 2) := by decide +kernel
theorem d_ch_64 : decode method_3_code 64 = .ok (.ireturn, 1) := by decide +kernel
theorem d_ch_65 : decode method_3_code 65 = .ok (.iload_n 1, 1) := by decide +kernel
theorem d_ch_66 : decode method_3_code 66 = .ok (.bipush 6, 2) := by decide +kernel
theorem d_ch_68 : decode method_3_code 68 = .ok (.if_icmp .ne 6, 3) := by decide +kernel
theorem d_ch_71 : decode method_3_code 71 = .ok (.ldc 37, 2) := by decide +kernel
theorem d_ch_73 : decode method_3_code 73 = .ok (.ireturn, 1) := by decide +kernel
theorem d_ch_74 : decode method_3_code 74 = .ok (.ldc 32, 2) := by decide +kernel
theorem d_ch_76 : decode method_3_code 76 = .ok (.ireturn, 1) := by decide +kernel
abbrev M_ch : own_Mi := ((⟨"com/example/sunder/sunder/CodePointOrderComparePinLaw", "ch", "(I)C"⟩ : MethodName), method_3_code, 2, (Option.some FieldType.char), ({ frames := 0, cells := 0, slots := 0, locals := 0 } : Room))
theorem pn_ch : plainFor (own_Mi.y M_ch) = true := plainFor_of_name (by first | (simp [plainName, overriddenIn]; done) | decide +kernel)
set_option maxRecDepth 65536 in
set_option maxHeartbeats 40000000 in
theorem c_ch (K : own_Cx) (a0 : Array Value) (hw : ∀ d ∈ tables_1, d.before a0 K.Z = true) (x : Int32) (h : Heap) :
    own_Met K M_ch #[.int x] [] h (own_ret fun w h' _ => ∃ c : Int32, w = .int c ∧ (0 ≤ c.toInt ∧ c.toInt < 65536) ∧ h' = h) := by
  refine own_met_1_1 (M := M_ch) pn_ch rfl (by first | rfl | exact own_cat (by assumption)) ?_
  refine own_iload_n (pc' := 1) rfl d_ch_0 rfl ?_
  refine own_ldcI (pc' := 3) rfl d_ch_1 (tw_4 hw) ?_
  refine own_iand (pc' := 4) rfl d_ch_3 ?_
  refine own_ifne (pcT := 13) (pcF := 7) d_ch_4 (by decide) (by decide) rfl (fun q => ?_) (fun q => ?_)
  rotate_left 1
  · skip
    refine own_iload_n (pc' := 8) rfl d_ch_7 rfl ?_
    refine own_ldcI (pc' := 10) rfl d_ch_8 (tw_5 hw) ?_
    refine own_iand (pc' := 11) rfl d_ch_10 ?_
    refine own_i2c (pc' := 12) rfl d_ch_11 ?_
    refine own_ireturnN (t := .char) rfl (by simp) (own_ch_nar _) d_ch_12 rfl rfl ?_
    exact ⟨_, rfl, own_ch_r _, rfl⟩
  refine own_iload_n (pc' := 14) rfl d_ch_13 rfl ?_
  refine own_bipush (v := (7 : Int32)) (pc' := 16) rfl d_ch_14 rfl ?_
  refine own_iand (pc' := 17) rfl d_ch_16 ?_
  refine own_istore_n1 (pc' := 18) rfl d_ch_17 (by first | exact One.u | exact One.val rfl | assumption | exact One.val (by assumption)) ?_
  refine own_iload_n (pc' := 19) rfl d_ch_18 rfl ?_
  refine own_ifne (pcT := 25) (pcF := 22) d_ch_19 (by decide) (by decide) rfl (fun q0 => ?_) (fun q0 => ?_)
  rotate_left 1
  · skip
    refine own_bipush (v := (97 : Int32)) (pc' := 24) rfl d_ch_22 rfl ?_
    refine own_ireturnN (t := .char) rfl (by simp) (own_nar16 (c := 97) (by decide) (by decide)) d_ch_24 rfl rfl ?_
    exact ⟨_, rfl, ⟨by decide, by decide⟩, rfl⟩
  refine own_iload_n (pc' := 26) rfl d_ch_25 rfl ?_
  refine own_iconst (v := (1 : Int32)) (pc' := 27) rfl d_ch_26 rfl ?_
  refine own_icmpne (pcT := 33) (pcF := 30) d_ch_27 (by decide) (by decide) rfl (fun q1 => ?_) (fun q1 => ?_)
  rotate_left 1
  · skip
    refine own_bipush (v := (98 : Int32)) (pc' := 32) rfl d_ch_30 rfl ?_
    refine own_ireturnN (t := .char) rfl (by simp) (own_nar16 (c := 98) (by decide) (by decide)) d_ch_32 rfl rfl ?_
    exact ⟨_, rfl, ⟨by decide, by decide⟩, rfl⟩
  refine own_iload_n (pc' := 34) rfl d_ch_33 rfl ?_
  refine own_iconst (v := (2 : Int32)) (pc' := 35) rfl d_ch_34 rfl ?_
  refine own_icmpne (pcT := 41) (pcF := 38) d_ch_35 (by decide) (by decide) rfl (fun q2 => ?_) (fun q2 => ?_)
  rotate_left 1
  · skip
    refine own_ldcI (pc' := 40) rfl d_ch_38 (tw_94 hw) ?_
    refine own_ireturnN (t := .char) rfl (by simp) (own_nar16 (c := 55296) (by decide) (by decide)) d_ch_40 rfl rfl ?_
    exact ⟨_, rfl, ⟨by decide, by decide⟩, rfl⟩
  refine own_iload_n (pc' := 42) rfl d_ch_41 rfl ?_
  refine own_iconst (v := (3 : Int32)) (pc' := 43) rfl d_ch_42 rfl ?_
  refine own_icmpne (pcT := 49) (pcF := 46) d_ch_43 (by decide) (by decide) rfl (fun q3 => ?_) (fun q3 => ?_)
  rotate_left 1
  · skip
    refine own_ldcI (pc' := 48) rfl d_ch_46 (tw_61 hw) ?_
    refine own_ireturnN (t := .char) rfl (by simp) (own_nar16 (c := 56319) (by decide) (by decide)) d_ch_48 rfl rfl ?_
    exact ⟨_, rfl, ⟨by decide, by decide⟩, rfl⟩
  refine own_iload_n (pc' := 50) rfl d_ch_49 rfl ?_
  refine own_iconst (v := (4 : Int32)) (pc' := 51) rfl d_ch_50 rfl ?_
  refine own_icmpne (pcT := 57) (pcF := 54) d_ch_51 (by decide) (by decide) rfl (fun q4 => ?_) (fun q4 => ?_)
  rotate_left 1
  · skip
    refine own_ldcI (pc' := 56) rfl d_ch_54 (tw_95 hw) ?_
    refine own_ireturnN (t := .char) rfl (by simp) (own_nar16 (c := 56320) (by decide) (by decide)) d_ch_56 rfl rfl ?_
    exact ⟨_, rfl, ⟨by decide, by decide⟩, rfl⟩
  refine own_iload_n (pc' := 58) rfl d_ch_57 rfl ?_
  refine own_iconst (v := (5 : Int32)) (pc' := 59) rfl d_ch_58 rfl ?_
  refine own_icmpne (pcT := 65) (pcF := 62) d_ch_59 (by decide) (by decide) rfl (fun q5 => ?_) (fun q5 => ?_)
  rotate_left 1
  · skip
    refine own_ldcI (pc' := 64) rfl d_ch_62 (tw_97 hw) ?_
    refine own_ireturnN (t := .char) rfl (by simp) (own_nar16 (c := 57343) (by decide) (by decide)) d_ch_64 rfl rfl ?_
    exact ⟨_, rfl, ⟨by decide, by decide⟩, rfl⟩
  refine own_iload_n (pc' := 66) rfl d_ch_65 rfl ?_
  refine own_bipush (v := (6 : Int32)) (pc' := 68) rfl d_ch_66 rfl ?_
  refine own_icmpne (pcT := 74) (pcF := 71) d_ch_68 (by decide) (by decide) rfl (fun q6 => ?_) (fun q6 => ?_)
  rotate_left 1
  · skip
    refine own_ldcI (pc' := 73) rfl d_ch_71 (tw_96 hw) ?_
    refine own_ireturnN (t := .char) rfl (by simp) (own_nar16 (c := 57344) (by decide) (by decide)) d_ch_73 rfl rfl ?_
    exact ⟨_, rfl, ⟨by decide, by decide⟩, rfl⟩
  refine own_ldcI (pc' := 76) rfl d_ch_74 (tw_5 hw) ?_
  refine own_ireturnN (t := .char) rfl (by simp) (own_nar16 (c := 65535) (by decide) (by decide)) d_ch_76 rfl rfl ?_
  exact ⟨_, rfl, ⟨by decide, by decide⟩, rfl⟩
theorem d_str_0 : decode method_4_code 0 = .ok (.iload_n 3, 1) := by decide +kernel
theorem d_str_1 : decode method_4_code 1 = .ok (.ifCond .ne 14, 3) := by decide +kernel
theorem d_str_4 : decode method_4_code 4 = .ok (.new 38, 3) := by decide +kernel
theorem d_str_7 : decode method_4_code 7 = .ok (.dup, 1) := by decide +kernel
theorem d_str_8 : decode method_4_code 8 = .ok (.iconst 0, 1) := by decide +kernel
theorem d_str_9 : decode method_4_code 9 = .ok (.newarray .char, 2) := by decide +kernel
theorem d_str_11 : decode method_4_code 11 = .ok (.invokespecial 40, 3) := by decide +kernel
theorem d_str_14 : decode method_4_code 14 = .ok (.areturn, 1) := by decide +kernel
theorem d_str_15 : decode method_4_code 15 = .ok (.iload_n 3, 1) := by decide +kernel
theorem d_str_16 : decode method_4_code 16 = .ok (.iconst 1, 1) := by decide +kernel
theorem d_str_17 : decode method_4_code 17 = .ok (.if_icmp .ne 18, 3) := by decide +kernel
theorem d_str_20 : decode method_4_code 20 = .ok (.new 38, 3) := by decide +kernel
theorem d_str_23 : decode method_4_code 23 = .ok (.dup, 1) := by decide +kernel
theorem d_str_24 : decode method_4_code 24 = .ok (.iconst 1, 1) := by decide +kernel
theorem d_str_25 : decode method_4_code 25 = .ok (.newarray .char, 2) := by decide +kernel
theorem d_str_27 : decode method_4_code 27 = .ok (.dup, 1) := by decide +kernel
theorem d_str_28 : decode method_4_code 28 = .ok (.iconst 0, 1) := by decide +kernel
theorem d_str_29 : decode method_4_code 29 = .ok (.iload_n 0, 1) := by decide +kernel
theorem d_str_30 : decode method_4_code 30 = .ok (.castore, 1) := by decide +kernel
theorem d_str_31 : decode method_4_code 31 = .ok (.invokespecial 40, 3) := by decide +kernel
theorem d_str_34 : decode method_4_code 34 = .ok (.areturn, 1) := by decide +kernel
theorem d_str_35 : decode method_4_code 35 = .ok (.iload_n 3, 1) := by decide +kernel
theorem d_str_36 : decode method_4_code 36 = .ok (.iconst 2, 1) := by decide +kernel
theorem d_str_37 : decode method_4_code 37 = .ok (.if_icmp .ne 22, 3) := by decide +kernel
theorem d_str_40 : decode method_4_code 40 = .ok (.new 38, 3) := by decide +kernel
theorem d_str_43 : decode method_4_code 43 = .ok (.dup, 1) := by decide +kernel
theorem d_str_44 : decode method_4_code 44 = .ok (.iconst 2, 1) := by decide +kernel
theorem d_str_45 : decode method_4_code 45 = .ok (.newarray .char, 2) := by decide +kernel
theorem d_str_47 : decode method_4_code 47 = .ok (.dup, 1) := by decide +kernel
theorem d_str_48 : decode method_4_code 48 = .ok (.iconst 0, 1) := by decide +kernel
theorem d_str_49 : decode method_4_code 49 = .ok (.iload_n 0, 1) := by decide +kernel
theorem d_str_50 : decode method_4_code 50 = .ok (.castore, 1) := by decide +kernel
theorem d_str_51 : decode method_4_code 51 = .ok (.dup, 1) := by decide +kernel
theorem d_str_52 : decode method_4_code 52 = .ok (.iconst 1, 1) := by decide +kernel
theorem d_str_53 : decode method_4_code 53 = .ok (.iload_n 1, 1) := by decide +kernel
theorem d_str_54 : decode method_4_code 54 = .ok (.castore, 1) := by decide +kernel
theorem d_str_55 : decode method_4_code 55 = .ok (.invokespecial 40, 3) := by decide +kernel
theorem d_str_58 : decode method_4_code 58 = .ok (.areturn, 1) := by decide +kernel
theorem d_str_59 : decode method_4_code 59 = .ok (.new 38, 3) := by decide +kernel
theorem d_str_62 : decode method_4_code 62 = .ok (.dup, 1) := by decide +kernel
theorem d_str_63 : decode method_4_code 63 = .ok (.iconst 3, 1) := by decide +kernel
theorem d_str_64 : decode method_4_code 64 = .ok (.newarray .char, 2) := by decide +kernel
theorem d_str_66 : decode method_4_code 66 = .ok (.dup, 1) := by decide +kernel
theorem d_str_67 : decode method_4_code 67 = .ok (.iconst 0, 1) := by decide +kernel
theorem d_str_68 : decode method_4_code 68 = .ok (.iload_n 0, 1) := by decide +kernel
theorem d_str_69 : decode method_4_code 69 = .ok (.castore, 1) := by decide +kernel
theorem d_str_70 : decode method_4_code 70 = .ok (.dup, 1) := by decide +kernel
theorem d_str_71 : decode method_4_code 71 = .ok (.iconst 1, 1) := by decide +kernel
theorem d_str_72 : decode method_4_code 72 = .ok (.iload_n 1, 1) := by decide +kernel
theorem d_str_73 : decode method_4_code 73 = .ok (.castore, 1) := by decide +kernel
theorem d_str_74 : decode method_4_code 74 = .ok (.dup, 1) := by decide +kernel
theorem d_str_75 : decode method_4_code 75 = .ok (.iconst 2, 1) := by decide +kernel
theorem d_str_76 : decode method_4_code 76 = .ok (.iload_n 2, 1) := by decide +kernel
theorem d_str_77 : decode method_4_code 77 = .ok (.castore, 1) := by decide +kernel
theorem d_str_78 : decode method_4_code 78 = .ok (.invokespecial 40, 3) := by decide +kernel
theorem d_str_81 : decode method_4_code 81 = .ok (.areturn, 1) := by decide +kernel
abbrev M_str : own_Mi := ((⟨"com/example/sunder/sunder/CodePointOrderComparePinLaw", "str", "(CCCI)Ljava/lang/String;"⟩ : MethodName), method_4_code, 4, (Option.some (FieldType.object "java/lang/String")), ({ frames := 6, cells := 6, slots := 16, locals := 88 } : Room))
theorem pn_str : plainFor (own_Mi.y M_str) = true := plainFor_of_name (by first | (simp [plainName, overriddenIn]; done) | decide +kernel)
set_option maxRecDepth 65536 in
set_option maxHeartbeats 40000000 in
theorem c_str (K : own_Cx) (a0 : Array Value) (hw : ∀ d ∈ tables_1, d.before a0 K.Z = true) (hU : own_U16 K) (hnw : K.nw = false) (hEL : EW K.Z a0 K.E) (hme : ("java/lang/String", 7) ∈ K.E) (g : Int32) (SC : Sta K.Z K.Z.heap own_sC "COMPACT_STRINGS" "Z" (.int g)) (hg : ¬ g = 0) (n c0 c1 c2 : Int32) (N : Nat) (h : Heap) (hn : n.toInt = N) (hN : N < 4) (hc : ∀ c ∈ [c0, c1, c2], 0 ≤ c.toInt ∧ c.toInt < 65536) :
    own_Met K M_str #[.int c0, .int c1, .int c2, .int n] [] h (own_ret fun w h' _ => ∃ x : Addr, w = .ref x ∧ Ext h h' ∧ own_Str K.Z h' x ([c0, c1, c2].take N)) := by
  have r0 := hc c0 (by simp)
  have r1 := hc c1 (by simp)
  have r2 := hc c2 (by simp)
  have hcc : ∀ k, own_Chs ([c0, c1, c2].take k) := fun k c h => hc c (List.mem_of_mem_take h)
  have z0 : (N = 0 ∧ n = 0) ∨ (N = 1 ∧ n = 1) ∨ (N = 2 ∧ n = 2) ∨ (N = 3 ∧ n = 3) := by
    have e0 : (0 : Int32).toInt = 0 := rfl
    have e1 : (1 : Int32).toInt = 1 := rfl
    have e2 : (2 : Int32).toInt = 2 := rfl
    have e3 : (3 : Int32).toInt = 3 := rfl
    rcases (show N = 0 ∨ N = 1 ∨ N = 2 ∨ N = 3 by omega) with q | q | q | q
    · exact Or.inl ⟨q, Int32.toInt_inj.mp (by rw [hn, q, e0]; rfl)⟩
    · exact Or.inr (Or.inl ⟨q, Int32.toInt_inj.mp (by rw [hn, q, e1]; rfl)⟩)
    · exact Or.inr (Or.inr (Or.inl ⟨q, Int32.toInt_inj.mp (by rw [hn, q, e2]; rfl)⟩))
    · exact Or.inr (Or.inr (Or.inr ⟨q, Int32.toInt_inj.mp (by rw [hn, q, e3]; rfl)⟩))
  rcases z0 with ⟨rfl, rfl⟩ | ⟨rfl, rfl⟩ | ⟨rfl, rfl⟩ | ⟨rfl, rfl⟩
  · skip
    refine own_met_4_0 (M := M_str) pn_str rfl (by first | rfl | exact own_cat (by assumption)) (by first | rfl | exact own_cat (by assumption)) (by first | rfl | exact own_cat (by assumption)) (by first | rfl | exact own_cat (by assumption)) ?_
    refine own_iload_n (pc' := 1) rfl d_str_0 rfl ?_
    refine own_ifne (pcT := 15) (pcF := 4) d_str_1 (by decide) (by decide) rfl (fun q0 => ?_) (fun q0 => ?_)
    · exact absurd rfl q0
    refine own_new (pc' := 7) rfl d_str_4 (tw_9 hw) (tw_10 hw) (tw_11 hw) rfl rfl ?_
    intro x hx ex Ex X D
    have FVx := D (Or.inr (tw_25 hw)) (ty := .array .byte) (by decide)
    have FCx := D (Or.inr (tw_26 hw)) (ty := .byte) (by decide)
    have lx : @LT.lt Nat _ _ _ := X.lt
    refine own_dup (pc' := 8) rfl d_str_7 (by first | rfl | assumption) ?_
    refine own_iconst (v := (0 : Int32)) (pc' := 9) rfl d_str_8 rfl ?_
    refine own_newarray (pc' := 11) rfl d_str_9 (tw_12 hw) (N := 0) (cap := 0) (by decide) (by decide) rfl rfl rfl ?_
    intro b hb0 eb Eb B0
    have nxb : x ≠ b := by show @Ne Nat x b; omega
    have k0 : Keep hb0 hb0 [b] := Keep.refl _ _
    have EB := own_ext_keep (own_ext_trans Ex Eb) k0 (by intro z hz; cases List.mem_singleton.mp hz; have := Ex.1; omega)
    refine own_special1n (M' := M_si1) d_str_11 (pc' := 14) rfl rfl rfl (tw_13 hw) (tw_14 hw) (tw_11 hw) (tw_15 hw) (by decide) rfl (own_lenOf pd_10 rfl) rfl rfl rfl rfl (c_si1 K a0 hw hU hnw hEL hme x b g [] hb0 (by simp) (hcc 0) B0 ((X.ext Eb).keep k0) ((FVx.ext Eb).keep k0 (ninS nxb nin0)) ((FCx.ext Eb).keep k0 (ninS nxb nin0)) SC hg) (by simp) ?_
    rintro hs xs ⟨ks, S⟩
    refine own_areturn rfl rfl (by first | rfl | assumption) d_str_14 rfl rfl ?_
    exact ⟨x, rfl, own_ext_keep EB ks (by intro z hz; cases List.mem_singleton.mp hz; omega), S⟩
  · skip
    refine own_met_4_0 (M := M_str) pn_str rfl (by first | rfl | exact own_cat (by assumption)) (by first | rfl | exact own_cat (by assumption)) (by first | rfl | exact own_cat (by assumption)) (by first | rfl | exact own_cat (by assumption)) ?_
    refine own_iload_n (pc' := 1) rfl d_str_0 rfl ?_
    refine own_ifne (pcT := 15) (pcF := 4) d_str_1 (by decide) (by decide) rfl (fun q0 => ?_) (fun q0 => ?_)
    rotate_left 1
    · exact absurd q0 (by decide)
    refine own_iload_n (pc' := 16) rfl d_str_15 rfl ?_
    refine own_iconst (v := (1 : Int32)) (pc' := 17) rfl d_str_16 rfl ?_
    refine own_icmpne (pcT := 35) (pcF := 20) d_str_17 (by decide) (by decide) rfl (fun q1 => ?_) (fun q1 => ?_)
    · exact absurd rfl q1
    refine own_new (pc' := 23) rfl d_str_20 (tw_9 hw) (tw_10 hw) (tw_11 hw) rfl rfl ?_
    intro x hx ex Ex X D
    have FVx := D (Or.inr (tw_25 hw)) (ty := .array .byte) (by decide)
    have FCx := D (Or.inr (tw_26 hw)) (ty := .byte) (by decide)
    have lx : @LT.lt Nat _ _ _ := X.lt
    refine own_dup (pc' := 24) rfl d_str_23 (by first | rfl | assumption) ?_
    refine own_iconst (v := (1 : Int32)) (pc' := 25) rfl d_str_24 rfl ?_
    refine own_newarray (pc' := 27) rfl d_str_25 (tw_12 hw) (N := 1) (cap := 1) (by decide) (by decide) rfl rfl rfl ?_
    intro b hb0 eb Eb B0
    have nxb : x ≠ b := by show @Ne Nat x b; omega
    have k0 : Keep hb0 hb0 [b] := Keep.refl _ _
    refine own_dup (pc' := 28) rfl d_str_27 (by first | rfl | assumption) ?_
    refine own_iconst (v := (0 : Int32)) (pc' := 29) rfl d_str_28 rfl ?_
    refine own_iload_n (pc' := 30) rfl d_str_29 rfl ?_
    refine own_castore (pc' := 31) rfl d_str_30 B0 (i := 0) (by decide) (by simp) (own_i2c_id r0.1 r0.2) (by simp) ?_
    intro h1 k1' B1
    have k1 := k0.trans k1' (fun z hz => Or.inl hz)
    have EB := own_ext_keep (own_ext_trans Ex Eb) k1 (by intro z hz; cases List.mem_singleton.mp hz; have := Ex.1; omega)
    refine own_special1n (M' := M_si1) d_str_31 (pc' := 34) rfl rfl rfl (tw_13 hw) (tw_14 hw) (tw_11 hw) (tw_15 hw) (by decide) rfl (own_lenOf pd_10 rfl) rfl rfl rfl rfl (c_si1 K a0 hw hU hnw hEL hme x b g [c0] h1 (by simp) (hcc 1) B1 ((X.ext Eb).keep k1) ((FVx.ext Eb).keep k1 (ninS nxb nin0)) ((FCx.ext Eb).keep k1 (ninS nxb nin0)) SC hg) (by simp) ?_
    rintro hs xs ⟨ks, S⟩
    refine own_areturn rfl rfl (by first | rfl | assumption) d_str_34 rfl rfl ?_
    exact ⟨x, rfl, own_ext_keep EB ks (by intro z hz; cases List.mem_singleton.mp hz; omega), S⟩
  · skip
    refine own_met_4_0 (M := M_str) pn_str rfl (by first | rfl | exact own_cat (by assumption)) (by first | rfl | exact own_cat (by assumption)) (by first | rfl | exact own_cat (by assumption)) (by first | rfl | exact own_cat (by assumption)) ?_
    refine own_iload_n (pc' := 1) rfl d_str_0 rfl ?_
    refine own_ifne (pcT := 15) (pcF := 4) d_str_1 (by decide) (by decide) rfl (fun q0 => ?_) (fun q0 => ?_)
    rotate_left 1
    · exact absurd q0 (by decide)
    refine own_iload_n (pc' := 16) rfl d_str_15 rfl ?_
    refine own_iconst (v := (1 : Int32)) (pc' := 17) rfl d_str_16 rfl ?_
    refine own_icmpne (pcT := 35) (pcF := 20) d_str_17 (by decide) (by decide) rfl (fun q1 => ?_) (fun q1 => ?_)
    rotate_left 1
    · exact absurd q1 (by decide)
    refine own_iload_n (pc' := 36) rfl d_str_35 rfl ?_
    refine own_iconst (v := (2 : Int32)) (pc' := 37) rfl d_str_36 rfl ?_
    refine own_icmpne (pcT := 59) (pcF := 40) d_str_37 (by decide) (by decide) rfl (fun q2 => ?_) (fun q2 => ?_)
    · exact absurd rfl q2
    refine own_new (pc' := 43) rfl d_str_40 (tw_9 hw) (tw_10 hw) (tw_11 hw) rfl rfl ?_
    intro x hx ex Ex X D
    have FVx := D (Or.inr (tw_25 hw)) (ty := .array .byte) (by decide)
    have FCx := D (Or.inr (tw_26 hw)) (ty := .byte) (by decide)
    have lx : @LT.lt Nat _ _ _ := X.lt
    refine own_dup (pc' := 44) rfl d_str_43 (by first | rfl | assumption) ?_
    refine own_iconst (v := (2 : Int32)) (pc' := 45) rfl d_str_44 rfl ?_
    refine own_newarray (pc' := 47) rfl d_str_45 (tw_12 hw) (N := 2) (cap := 2) (by decide) (by decide) rfl rfl rfl ?_
    intro b hb0 eb Eb B0
    have nxb : x ≠ b := by show @Ne Nat x b; omega
    have k0 : Keep hb0 hb0 [b] := Keep.refl _ _
    refine own_dup (pc' := 48) rfl d_str_47 (by first | rfl | assumption) ?_
    refine own_iconst (v := (0 : Int32)) (pc' := 49) rfl d_str_48 rfl ?_
    refine own_iload_n (pc' := 50) rfl d_str_49 rfl ?_
    refine own_castore (pc' := 51) rfl d_str_50 B0 (i := 0) (by decide) (by simp) (own_i2c_id r0.1 r0.2) (by simp) ?_
    intro h1 k1' B1
    have k1 := k0.trans k1' (fun z hz => Or.inl hz)
    refine own_dup (pc' := 52) rfl d_str_51 (by first | rfl | assumption) ?_
    refine own_iconst (v := (1 : Int32)) (pc' := 53) rfl d_str_52 rfl ?_
    refine own_iload_n (pc' := 54) rfl d_str_53 rfl ?_
    refine own_castore (pc' := 55) rfl d_str_54 B1 (i := 1) (by decide) (by simp) (own_i2c_id r1.1 r1.2) (by simp) ?_
    intro h2 k2' B2
    have k2 := k1.trans k2' (fun z hz => Or.inl hz)
    have EB := own_ext_keep (own_ext_trans Ex Eb) k2 (by intro z hz; cases List.mem_singleton.mp hz; have := Ex.1; omega)
    refine own_special1n (M' := M_si1) d_str_55 (pc' := 58) rfl rfl rfl (tw_13 hw) (tw_14 hw) (tw_11 hw) (tw_15 hw) (by decide) rfl (own_lenOf pd_10 rfl) rfl rfl rfl rfl (c_si1 K a0 hw hU hnw hEL hme x b g [c0, c1] h2 (by simp) (hcc 2) B2 ((X.ext Eb).keep k2) ((FVx.ext Eb).keep k2 (ninS nxb nin0)) ((FCx.ext Eb).keep k2 (ninS nxb nin0)) SC hg) (by simp) ?_
    rintro hs xs ⟨ks, S⟩
    refine own_areturn rfl rfl (by first | rfl | assumption) d_str_58 rfl rfl ?_
    exact ⟨x, rfl, own_ext_keep EB ks (by intro z hz; cases List.mem_singleton.mp hz; omega), S⟩
  · skip
    refine own_met_4_0 (M := M_str) pn_str rfl (by first | rfl | exact own_cat (by assumption)) (by first | rfl | exact own_cat (by assumption)) (by first | rfl | exact own_cat (by assumption)) (by first | rfl | exact own_cat (by assumption)) ?_
    refine own_iload_n (pc' := 1) rfl d_str_0 rfl ?_
    refine own_ifne (pcT := 15) (pcF := 4) d_str_1 (by decide) (by decide) rfl (fun q0 => ?_) (fun q0 => ?_)
    rotate_left 1
    · exact absurd q0 (by decide)
    refine own_iload_n (pc' := 16) rfl d_str_15 rfl ?_
    refine own_iconst (v := (1 : Int32)) (pc' := 17) rfl d_str_16 rfl ?_
    refine own_icmpne (pcT := 35) (pcF := 20) d_str_17 (by decide) (by decide) rfl (fun q1 => ?_) (fun q1 => ?_)
    rotate_left 1
    · exact absurd q1 (by decide)
    refine own_iload_n (pc' := 36) rfl d_str_35 rfl ?_
    refine own_iconst (v := (2 : Int32)) (pc' := 37) rfl d_str_36 rfl ?_
    refine own_icmpne (pcT := 59) (pcF := 40) d_str_37 (by decide) (by decide) rfl (fun q2 => ?_) (fun q2 => ?_)
    rotate_left 1
    · exact absurd q2 (by decide)
    refine own_new (pc' := 62) rfl d_str_59 (tw_9 hw) (tw_10 hw) (tw_11 hw) rfl rfl ?_
    intro x hx ex Ex X D
    have FVx := D (Or.inr (tw_25 hw)) (ty := .array .byte) (by decide)
    have FCx := D (Or.inr (tw_26 hw)) (ty := .byte) (by decide)
    have lx : @LT.lt Nat _ _ _ := X.lt
    refine own_dup (pc' := 63) rfl d_str_62 (by first | rfl | assumption) ?_
    refine own_iconst (v := (3 : Int32)) (pc' := 64) rfl d_str_63 rfl ?_
    refine own_newarray (pc' := 66) rfl d_str_64 (tw_12 hw) (N := 3) (cap := 3) (by decide) (by decide) rfl rfl rfl ?_
    intro b hb0 eb Eb B0
    have nxb : x ≠ b := by show @Ne Nat x b; omega
    have k0 : Keep hb0 hb0 [b] := Keep.refl _ _
    refine own_dup (pc' := 67) rfl d_str_66 (by first | rfl | assumption) ?_
    refine own_iconst (v := (0 : Int32)) (pc' := 68) rfl d_str_67 rfl ?_
    refine own_iload_n (pc' := 69) rfl d_str_68 rfl ?_
    refine own_castore (pc' := 70) rfl d_str_69 B0 (i := 0) (by decide) (by simp) (own_i2c_id r0.1 r0.2) (by simp) ?_
    intro h1 k1' B1
    have k1 := k0.trans k1' (fun z hz => Or.inl hz)
    refine own_dup (pc' := 71) rfl d_str_70 (by first | rfl | assumption) ?_
    refine own_iconst (v := (1 : Int32)) (pc' := 72) rfl d_str_71 rfl ?_
    refine own_iload_n (pc' := 73) rfl d_str_72 rfl ?_
    refine own_castore (pc' := 74) rfl d_str_73 B1 (i := 1) (by decide) (by simp) (own_i2c_id r1.1 r1.2) (by simp) ?_
    intro h2 k2' B2
    have k2 := k1.trans k2' (fun z hz => Or.inl hz)
    refine own_dup (pc' := 75) rfl d_str_74 (by first | rfl | assumption) ?_
    refine own_iconst (v := (2 : Int32)) (pc' := 76) rfl d_str_75 rfl ?_
    refine own_iload_n (pc' := 77) rfl d_str_76 rfl ?_
    refine own_castore (pc' := 78) rfl d_str_77 B2 (i := 2) (by decide) (by simp) (own_i2c_id r2.1 r2.2) (by simp) ?_
    intro h3 k3' B3
    have k3 := k2.trans k3' (fun z hz => Or.inl hz)
    have EB := own_ext_keep (own_ext_trans Ex Eb) k3 (by intro z hz; cases List.mem_singleton.mp hz; have := Ex.1; omega)
    refine own_special1n (M' := M_si1) d_str_78 (pc' := 81) rfl rfl rfl (tw_13 hw) (tw_14 hw) (tw_11 hw) (tw_15 hw) (by decide) rfl (own_lenOf pd_10 rfl) rfl rfl rfl rfl (c_si1 K a0 hw hU hnw hEL hme x b g [c0, c1, c2] h3 (by simp) (hcc 3) B3 ((X.ext Eb).keep k3) ((FVx.ext Eb).keep k3 (ninS nxb nin0)) ((FCx.ext Eb).keep k3 (ninS nxb nin0)) SC hg) (by simp) ?_
    rintro hs xs ⟨ks, S⟩
    refine own_areturn rfl rfl (by first | rfl | assumption) d_str_81 rfl rfl ?_
    exact ⟨x, rfl, own_ext_keep EB ks (by intro z hz; cases List.mem_singleton.mp hz; omega), S⟩
theorem d_cp_0 : decode method_5_code 0 = .ok (.aload_n 0, 1) := by decide +kernel
theorem d_cp_1 : decode method_5_code 1 = .ok (.iload_n 1, 1) := by decide +kernel
theorem d_cp_2 : decode method_5_code 2 = .ok (.caload, 1) := by decide +kernel
theorem d_cp_3 : decode method_5_code 3 = .ok (.istore_n 3, 1) := by decide +kernel
theorem d_cp_4 : decode method_5_code 4 = .ok (.iload_n 3, 1) := by decide +kernel
theorem d_cp_5 : decode method_5_code 5 = .ok (.ldc 33, 2) := by decide +kernel
theorem d_cp_7 : decode method_5_code 7 = .ok (.if_icmp .lt 54, 3) := by decide +kernel
theorem d_cp_10 : decode method_5_code 10 = .ok (.iload_n 3, 1) := by decide +kernel
theorem d_cp_11 : decode method_5_code 11 = .ok (.ldc 34, 2) := by decide +kernel
theorem d_cp_13 : decode method_5_code 13 = .ok (.if_icmp .gt 48, 3) := by decide +kernel
theorem d_cp_16 : decode method_5_code 16 = .ok (.iload_n 1, 1) := by decide +kernel
theorem d_cp_17 : decode method_5_code 17 = .ok (.iconst 1, 1) := by decide +kernel
theorem d_cp_18 : decode method_5_code 18 = .ok (.iadd, 1) := by decide +kernel
theorem d_cp_19 : decode method_5_code 19 = .ok (.iload_n 2, 1) := by decide +kernel
theorem d_cp_20 : decode method_5_code 20 = .ok (.if_icmp .ge 41, 3) := by decide +kernel
theorem d_cp_23 : decode method_5_code 23 = .ok (.aload_n 0, 1) := by decide +kernel
theorem d_cp_24 : decode method_5_code 24 = .ok (.iload_n 1, 1) := by decide +kernel
theorem d_cp_25 : decode method_5_code 25 = .ok (.iconst 1, 1) := by decide +kernel
theorem d_cp_26 : decode method_5_code 26 = .ok (.iadd, 1) := by decide +kernel
theorem d_cp_27 : decode method_5_code 27 = .ok (.caload, 1) := by decide +kernel
theorem d_cp_28 : decode method_5_code 28 = .ok (.istore 4, 2) := by decide +kernel
theorem d_cp_30 : decode method_5_code 30 = .ok (.iload 4, 2) := by decide +kernel
theorem d_cp_32 : decode method_5_code 32 = .ok (.ldc 35, 2) := by decide +kernel
theorem d_cp_34 : decode method_5_code 34 = .ok (.if_icmp .lt 27, 3) := by decide +kernel
theorem d_cp_37 : decode method_5_code 37 = .ok (.iload 4, 2) := by decide +kernel
theorem d_cp_39 : decode method_5_code 39 = .ok (.ldc 36, 2) := by decide +kernel
theorem d_cp_41 : decode method_5_code 41 = .ok (.if_icmp .gt 20, 3) := by decide +kernel
theorem d_cp_44 : decode method_5_code 44 = .ok (.iload_n 3, 1) := by decide +kernel
theorem d_cp_45 : decode method_5_code 45 = .ok (.ldc 33, 2) := by decide +kernel
theorem d_cp_47 : decode method_5_code 47 = .ok (.isub, 1) := by decide +kernel
theorem d_cp_48 : decode method_5_code 48 = .ok (.bipush 10, 2) := by decide +kernel
theorem d_cp_50 : decode method_5_code 50 = .ok (.ishl, 1) := by decide +kernel
theorem d_cp_51 : decode method_5_code 51 = .ok (.iload 4, 2) := by decide +kernel
theorem d_cp_53 : decode method_5_code 53 = .ok (.ldc 35, 2) := by decide +kernel
theorem d_cp_55 : decode method_5_code 55 = .ok (.isub, 1) := by decide +kernel
theorem d_cp_56 : decode method_5_code 56 = .ok (.iadd, 1) := by decide +kernel
theorem d_cp_57 : decode method_5_code 57 = .ok (.ldc 31, 2) := by decide +kernel
theorem d_cp_59 : decode method_5_code 59 = .ok (.iadd, 1) := by decide +kernel
theorem d_cp_60 : decode method_5_code 60 = .ok (.ireturn, 1) := by decide +kernel
theorem d_cp_61 : decode method_5_code 61 = .ok (.iload_n 3, 1) := by decide +kernel
theorem d_cp_62 : decode method_5_code 62 = .ok (.ireturn, 1) := by decide +kernel
abbrev M_cp : own_Mi := ((⟨"com/example/sunder/sunder/CodePointOrderComparePinLaw", "cp", "([CII)I"⟩ : MethodName), method_5_code, 5, (Option.some FieldType.int), ({ frames := 0, cells := 0, slots := 0, locals := 0 } : Room))
theorem pn_cp : plainFor (own_Mi.y M_cp) = true := plainFor_of_name (by first | (simp [plainName, overriddenIn]; done) | decide +kernel)
theorem own_c1_one {L : List Int32} {c : Int32} {r : List Int32} (e : L = c :: r) (q : own_hi c = false ∨ ∀ d r', r = d :: r' → own_lo d = false) : (own_c1 L).1 = c := by
  subst e
  match r, q with
  | [], _ => rfl
  | d :: r', q =>
    have : (own_hi c && own_lo d) = false := by
      rcases q with q | q
      · rw [q]; rfl
      · rw [q d r' rfl, Bool.and_false]
    simp only [own_c1, this]
    rfl
theorem own_c1_two {L : List Int32} {c d : Int32} {r : List Int32} (e : L = c :: d :: r) (h1 : own_hi c = true) (h2 : own_lo d = true) : (own_c1 L).1 = own_cpi c d := by
  subst e
  simp only [own_c1, h1, h2, Bool.and_self, if_true]
theorem own_hi_f {c : Int32} (q : c.toInt < 55296 ∨ 56320 ≤ c.toInt) : own_hi c = false := by
  simp only [own_hi, Bool.and_eq_false_iff, decide_eq_false_iff_not]
  omega
theorem own_lo_f {c : Int32} (q : c.toInt < 56320 ∨ 57344 ≤ c.toInt) : own_lo c = false := by
  simp only [own_lo, Bool.and_eq_false_iff, decide_eq_false_iff_not]
  omega
theorem own_hi_t {c : Int32} (q : 55296 ≤ c.toInt ∧ c.toInt < 56320) : own_hi c = true := by
  simp only [own_hi, Bool.and_eq_true, decide_eq_true_eq]
  omega
theorem own_lo_t {c : Int32} (q : 56320 ≤ c.toInt ∧ c.toInt < 57344) : own_lo c = true := by
  simp only [own_lo, Bool.and_eq_true, decide_eq_true_eq]
  omega
set_option maxRecDepth 65536 in
set_option maxHeartbeats 40000000 in
theorem c_cp (K : own_Cx) (a0 : Array Value) (hw : ∀ d ∈ tables_1, d.before a0 K.Z = true) (a : Addr) (vs cs : List Int32) (i n : Int32) (I N : Nat) (h : Heap) (A : own_Ary K.Z h a .char (own_ints vs)) (hcs : cs = vs.take N) (hN : N ≤ vs.length) (hi : i.toInt = I) (hn : n.toInt = N) (hI : I < N) (hb : N < 100) :
    own_Met K M_cp #[.ref a, .int i, .int n] [] h (own_ret fun w h' _ => w = .int (own_c1 (cs.drop I)).1 ∧ h' = h) := by
  have w1 : (55296 : Int32).toInt = 55296 := rfl
  have w2 : (56319 : Int32).toInt = 56319 := rfl
  have w3 : (56320 : Int32).toInt = 56320 := rfl
  have w4 : (57343 : Int32).toInt = 57343 := rfl
  have v1 : (1 : Int32).toInt = 1 := rfl
  have hi1 : (i + 1).toInt = ((I + 1 : Nat) : Int) := by rw [own_add hi v1] <;> omega
  obtain ⟨c, hc⟩ : ∃ c, vs[I]? = some c := ⟨vs[I], by simp [show I < vs.length by omega]⟩
  have hc' : cs[I]? = some c := by rw [hcs, List.getElem?_take, if_pos hI]; exact hc
  have e1 := own_drop_cons hc'
  have one : own_hi c = false → (own_c1 (cs.drop I)).1 = c := fun q => own_c1_one e1 (Or.inl q)
  refine own_met_3_2 (M := M_cp) pn_cp rfl (by first | rfl | exact own_cat (by assumption)) (by first | rfl | exact own_cat (by assumption)) (by first | rfl | exact own_cat (by assumption)) ?_
  refine own_aload_n (pc' := 1) rfl d_cp_0 rfl (by first | rfl | assumption) ?_
  refine own_iload_n (pc' := 2) rfl d_cp_1 rfl ?_
  refine own_caload (pc' := 3) rfl d_cp_2 A (i := I) hi (own_ints_get hc) ?_
  refine own_istore_n3 (pc' := 4) rfl d_cp_3 (by first | exact One.u | exact One.val rfl | assumption | exact One.val (by assumption)) ?_
  refine own_iload_n (pc' := 5) rfl d_cp_4 rfl ?_
  refine own_ldcI (pc' := 7) rfl d_cp_5 (tw_94 hw) ?_
  have ret : ∀ o : Slot, (own_c1 (cs.drop I)).1 = c → own_WP K M_cp (own_ret fun w h' _ => w = .int (own_c1 (cs.drop I)).1 ∧ h' = h) 61 [.val (.ref a), .val (.int i), .val (.int n), .val (.int c), o] [] [] h 0 0 := by
    intro o q
    refine own_iload_n (pc' := 62) rfl d_cp_61 rfl ?_
    refine own_ireturn rfl d_cp_62 rfl rfl ?_
    exact ⟨by rw [q], rfl⟩
  refine own_icmplt (pcT := 61) (pcF := 10) d_cp_7 (by decide) (by decide) rfl (fun q => ?_) (fun q => ?_)
  · rw [Int32.lt_iff_toInt_lt] at q
    exact ret _ (one (own_hi_f (by omega)))
  rw [Int32.lt_iff_toInt_lt] at q
  refine own_iload_n (pc' := 11) rfl d_cp_10 rfl ?_
  refine own_ldcI (pc' := 13) rfl d_cp_11 (tw_61 hw) ?_
  refine own_icmpgt (pcT := 61) (pcF := 16) d_cp_13 (by decide) (by decide) rfl (fun q2 => ?_) (fun q2 => ?_)
  · rw [Int32.lt_iff_toInt_lt] at q2
    exact ret _ (one (own_hi_f (by omega)))
  rw [Int32.lt_iff_toInt_lt] at q2
  have hh := own_hi_t (c := c) (by omega)
  refine own_iload_n (pc' := 17) rfl d_cp_16 rfl ?_
  refine own_iconst (v := (1 : Int32)) (pc' := 18) rfl d_cp_17 rfl ?_
  refine own_iadd (pc' := 19) rfl d_cp_18 ?_
  refine own_iload_n (pc' := 20) rfl d_cp_19 rfl ?_
  refine own_icmpge (pcT := 61) (pcF := 23) d_cp_20 (by decide) (by decide) rfl (fun q3 => ?_) (fun q3 => ?_)
  · rw [Int32.lt_iff_toInt_lt] at q3
    refine ret _ (own_c1_one e1 (Or.inr fun d r' e => ?_))
    have : cs.drop (I + 1) = [] := List.drop_eq_nil_of_le (by rw [hcs, List.length_take]; omega)
    rw [this] at e
    cases e
  rw [Int32.lt_iff_toInt_lt] at q3
  obtain ⟨d, hd⟩ : ∃ d, vs[I + 1]? = some d := ⟨vs[I + 1], by simp [show I + 1 < vs.length by omega]⟩
  have hd' : cs[I + 1]? = some d := by rw [hcs, List.getElem?_take, if_pos (by omega)]; exact hd
  have e2 := own_drop_cons hd'
  refine own_aload_n (pc' := 24) rfl d_cp_23 rfl (by first | rfl | assumption) ?_
  refine own_iload_n (pc' := 25) rfl d_cp_24 rfl ?_
  refine own_iconst (v := (1 : Int32)) (pc' := 26) rfl d_cp_25 rfl ?_
  refine own_iadd (pc' := 27) rfl d_cp_26 ?_
  refine own_caload (pc' := 28) rfl d_cp_27 A (i := (I + 1)) hi1 (own_ints_get hd) ?_
  refine own_istore_4 (pc' := 30) rfl d_cp_28 (by first | exact One.u | exact One.val rfl | assumption | exact One.val (by assumption)) ?_
  refine own_iload (pc' := 32) rfl d_cp_30 rfl ?_
  refine own_ldcI (pc' := 34) rfl d_cp_32 (tw_95 hw) ?_
  refine own_icmplt (pcT := 61) (pcF := 37) d_cp_34 (by decide) (by decide) rfl (fun q4 => ?_) (fun q4 => ?_)
  · rw [Int32.lt_iff_toInt_lt] at q4
    refine ret _ (own_c1_one e1 (Or.inr fun d' r' e => ?_))
    rw [e2] at e
    cases e
    exact own_lo_f (by omega)
  rw [Int32.lt_iff_toInt_lt] at q4
  refine own_iload (pc' := 39) rfl d_cp_37 rfl ?_
  refine own_ldcI (pc' := 41) rfl d_cp_39 (tw_97 hw) ?_
  refine own_icmpgt (pcT := 61) (pcF := 44) d_cp_41 (by decide) (by decide) rfl (fun q5 => ?_) (fun q5 => ?_)
  · rw [Int32.lt_iff_toInt_lt] at q5
    refine ret _ (own_c1_one e1 (Or.inr fun d' r' e => ?_))
    rw [e2] at e
    cases e
    exact own_lo_f (by omega)
  rw [Int32.lt_iff_toInt_lt] at q5
  refine own_iload_n (pc' := 45) rfl d_cp_44 rfl ?_
  refine own_ldcI (pc' := 47) rfl d_cp_45 (tw_94 hw) ?_
  refine own_isub (pc' := 48) rfl d_cp_47 ?_
  refine own_bipush (v := (10 : Int32)) (pc' := 50) rfl d_cp_48 rfl ?_
  refine own_ishl (pc' := 51) rfl d_cp_50 ?_
  refine own_iload (pc' := 53) rfl d_cp_51 rfl ?_
  refine own_ldcI (pc' := 55) rfl d_cp_53 (tw_95 hw) ?_
  refine own_isub (pc' := 56) rfl d_cp_55 ?_
  refine own_iadd (pc' := 57) rfl d_cp_56 ?_
  refine own_ldcI (pc' := 59) rfl d_cp_57 (tw_4 hw) ?_
  refine own_iadd (pc' := 60) rfl d_cp_59 ?_
  refine own_ireturn rfl d_cp_60 rfl rfl ?_
  exact ⟨by rw [own_c1_two (e1.trans (by rw [e2])) hh (own_lo_t (by omega))]; rfl, rfl⟩
theorem own_len4 {α : Type} {xs : List α} (h : xs.length ≤ 3) : xs = [] ∨ (∃ a, xs = [a]) ∨ (∃ a b, xs = [a, b]) ∨ ∃ a b c, xs = [a, b, c] := by
  rcases xs with _ | ⟨a, _ | ⟨b, _ | ⟨c, _ | ⟨d, r⟩⟩⟩⟩
  · exact Or.inl rfl
  · exact Or.inr (Or.inl ⟨a, rfl⟩)
  · exact Or.inr (Or.inr (Or.inl ⟨a, b, rfl⟩))
  · exact Or.inr (Or.inr (Or.inr ⟨a, b, c, rfl⟩))
  · simp only [List.length_cons] at h
    omega
theorem own_fin4 (xs : List Int32) (m : Int32) (hx : xs.length ≤ 3) : (own_ints (xs ++ List.replicate (4 - xs.length) 0)).set 3 (.int m) = own_ints (xs ++ List.replicate (3 - xs.length) 0 ++ [m]) := by
  rcases own_len4 hx with rfl | ⟨a, rfl⟩ | ⟨a, b, rfl⟩ | ⟨a, b, c, rfl⟩ <;> rfl
theorem own_fin3 (zs : List Int32) (hz : zs.length ≤ 3) : (zs ++ List.replicate (3 - zs.length) 0 ++ [zs.length.toInt32])[3]? = some zs.length.toInt32 := by
  rcases own_len4 hz with rfl | ⟨a, rfl⟩ | ⟨a, b, rfl⟩ | ⟨a, b, c, rfl⟩ <;> rfl
theorem d_dec_0 : decode method_6_code 0 = .ok (.iconst 4, 1) := by decide +kernel
theorem d_dec_1 : decode method_6_code 1 = .ok (.newarray .int, 2) := by decide +kernel
theorem d_dec_3 : decode method_6_code 3 = .ok (.astore_n 2, 1) := by decide +kernel
theorem d_dec_4 : decode method_6_code 4 = .ok (.iconst 0, 1) := by decide +kernel
theorem d_dec_5 : decode method_6_code 5 = .ok (.istore_n 3, 1) := by decide +kernel
theorem d_dec_6 : decode method_6_code 6 = .ok (.iconst 0, 1) := by decide +kernel
theorem d_dec_7 : decode method_6_code 7 = .ok (.istore 4, 2) := by decide +kernel
theorem d_dec_9 : decode method_6_code 9 = .ok (.iload_n 3, 1) := by decide +kernel
theorem d_dec_10 : decode method_6_code 10 = .ok (.iload_n 1, 1) := by decide +kernel
theorem d_dec_11 : decode method_6_code 11 = .ok (.if_icmp .ge 35, 3) := by decide +kernel
theorem d_dec_14 : decode method_6_code 14 = .ok (.aload_n 0, 1) := by decide +kernel
theorem d_dec_15 : decode method_6_code 15 = .ok (.iload_n 3, 1) := by decide +kernel
theorem d_dec_16 : decode method_6_code 16 = .ok (.iload_n 1, 1) := by decide +kernel
theorem d_dec_17 : decode method_6_code 17 = .ok (.invokestatic 43, 3) := by decide +kernel
theorem d_dec_20 : decode method_6_code 20 = .ok (.istore 5, 2) := by decide +kernel
theorem d_dec_22 : decode method_6_code 22 = .ok (.aload_n 2, 1) := by decide +kernel
theorem d_dec_23 : decode method_6_code 23 = .ok (.iload 4, 2) := by decide +kernel
theorem d_dec_25 : decode method_6_code 25 = .ok (.iload 5, 2) := by decide +kernel
theorem d_dec_27 : decode method_6_code 27 = .ok (.iastore, 1) := by decide +kernel
theorem d_dec_28 : decode method_6_code 28 = .ok (.iinc 4 1, 3) := by decide +kernel
theorem d_dec_31 : decode method_6_code 31 = .ok (.iload_n 3, 1) := by decide +kernel
theorem d_dec_32 : decode method_6_code 32 = .ok (.iload 5, 2) := by decide +kernel
theorem d_dec_34 : decode method_6_code 34 = .ok (.ldc 31, 2) := by decide +kernel
theorem d_dec_36 : decode method_6_code 36 = .ok (.if_icmp .lt 7, 3) := by decide +kernel
theorem d_dec_39 : decode method_6_code 39 = .ok (.iconst 2, 1) := by decide +kernel
theorem d_dec_40 : decode method_6_code 40 = .ok (.goto 4, 3) := by decide +kernel
theorem d_dec_43 : decode method_6_code 43 = .ok (.iconst 1, 1) := by decide +kernel
theorem d_dec_44 : decode method_6_code 44 = .ok (.iadd, 1) := by decide +kernel
theorem d_dec_45 : decode method_6_code 45 = .ok (.istore_n 3, 1) := by decide +kernel
theorem d_dec_46 : decode method_6_code 46 = .ok (.iload_n 3, 1) := by decide +kernel
theorem d_dec_47 : decode method_6_code 47 = .ok (.iload_n 1, 1) := by decide +kernel
theorem d_dec_48 : decode method_6_code 48 = .ok (.if_icmp .ge 35, 3) := by decide +kernel
theorem d_dec_51 : decode method_6_code 51 = .ok (.aload_n 0, 1) := by decide +kernel
theorem d_dec_52 : decode method_6_code 52 = .ok (.iload_n 3, 1) := by decide +kernel
theorem d_dec_53 : decode method_6_code 53 = .ok (.iload_n 1, 1) := by decide +kernel
theorem d_dec_54 : decode method_6_code 54 = .ok (.invokestatic 43, 3) := by decide +kernel
theorem d_dec_57 : decode method_6_code 57 = .ok (.istore 5, 2) := by decide +kernel
theorem d_dec_59 : decode method_6_code 59 = .ok (.aload_n 2, 1) := by decide +kernel
theorem d_dec_60 : decode method_6_code 60 = .ok (.iload 4, 2) := by decide +kernel
theorem d_dec_62 : decode method_6_code 62 = .ok (.iload 5, 2) := by decide +kernel
theorem d_dec_64 : decode method_6_code 64 = .ok (.iastore, 1) := by decide +kernel
theorem d_dec_65 : decode method_6_code 65 = .ok (.iinc 4 1, 3) := by decide +kernel
theorem d_dec_68 : decode method_6_code 68 = .ok (.iload_n 3, 1) := by decide +kernel
theorem d_dec_69 : decode method_6_code 69 = .ok (.iload 5, 2) := by decide +kernel
theorem d_dec_71 : decode method_6_code 71 = .ok (.ldc 31, 2) := by decide +kernel
theorem d_dec_73 : decode method_6_code 73 = .ok (.if_icmp .lt 7, 3) := by decide +kernel
theorem d_dec_76 : decode method_6_code 76 = .ok (.iconst 2, 1) := by decide +kernel
theorem d_dec_77 : decode method_6_code 77 = .ok (.goto 4, 3) := by decide +kernel
theorem d_dec_80 : decode method_6_code 80 = .ok (.iconst 1, 1) := by decide +kernel
theorem d_dec_81 : decode method_6_code 81 = .ok (.iadd, 1) := by decide +kernel
theorem d_dec_82 : decode method_6_code 82 = .ok (.istore_n 3, 1) := by decide +kernel
theorem d_dec_83 : decode method_6_code 83 = .ok (.iload_n 3, 1) := by decide +kernel
theorem d_dec_84 : decode method_6_code 84 = .ok (.iload_n 1, 1) := by decide +kernel
theorem d_dec_85 : decode method_6_code 85 = .ok (.if_icmp .ge 35, 3) := by decide +kernel
theorem d_dec_88 : decode method_6_code 88 = .ok (.aload_n 0, 1) := by decide +kernel
theorem d_dec_89 : decode method_6_code 89 = .ok (.iload_n 3, 1) := by decide +kernel
theorem d_dec_90 : decode method_6_code 90 = .ok (.iload_n 1, 1) := by decide +kernel
theorem d_dec_91 : decode method_6_code 91 = .ok (.invokestatic 43, 3) := by decide +kernel
theorem d_dec_94 : decode method_6_code 94 = .ok (.istore 5, 2) := by decide +kernel
theorem d_dec_96 : decode method_6_code 96 = .ok (.aload_n 2, 1) := by decide +kernel
theorem d_dec_97 : decode method_6_code 97 = .ok (.iload 4, 2) := by decide +kernel
theorem d_dec_99 : decode method_6_code 99 = .ok (.iload 5, 2) := by decide +kernel
theorem d_dec_101 : decode method_6_code 101 = .ok (.iastore, 1) := by decide +kernel
theorem d_dec_102 : decode method_6_code 102 = .ok (.iinc 4 1, 3) := by decide +kernel
theorem d_dec_105 : decode method_6_code 105 = .ok (.iload_n 3, 1) := by decide +kernel
theorem d_dec_106 : decode method_6_code 106 = .ok (.iload 5, 2) := by decide +kernel
theorem d_dec_108 : decode method_6_code 108 = .ok (.ldc 31, 2) := by decide +kernel
theorem d_dec_110 : decode method_6_code 110 = .ok (.if_icmp .lt 7, 3) := by decide +kernel
theorem d_dec_113 : decode method_6_code 113 = .ok (.iconst 2, 1) := by decide +kernel
theorem d_dec_114 : decode method_6_code 114 = .ok (.goto 4, 3) := by decide +kernel
theorem d_dec_117 : decode method_6_code 117 = .ok (.iconst 1, 1) := by decide +kernel
theorem d_dec_118 : decode method_6_code 118 = .ok (.iadd, 1) := by decide +kernel
theorem d_dec_119 : decode method_6_code 119 = .ok (.istore_n 3, 1) := by decide +kernel
theorem d_dec_120 : decode method_6_code 120 = .ok (.aload_n 2, 1) := by decide +kernel
theorem d_dec_121 : decode method_6_code 121 = .ok (.iconst 3, 1) := by decide +kernel
theorem d_dec_122 : decode method_6_code 122 = .ok (.iload 4, 2) := by decide +kernel
theorem d_dec_124 : decode method_6_code 124 = .ok (.iastore, 1) := by decide +kernel
theorem d_dec_125 : decode method_6_code 125 = .ok (.aload_n 2, 1) := by decide +kernel
theorem d_dec_126 : decode method_6_code 126 = .ok (.areturn, 1) := by decide +kernel
abbrev M_dec : own_Mi := ((⟨"com/example/sunder/sunder/CodePointOrderComparePinLaw", "decode", "([CI)[I"⟩ : MethodName), method_6_code, 6, (Option.some (FieldType.array FieldType.int)), ({ frames := 1, cells := 1, slots := 4, locals := 16 } : Room))
theorem pn_dec : plainFor (own_Mi.y M_dec) = true := plainFor_of_name (by first | (simp [plainName, overriddenIn]; done) | decide +kernel)
def Q_dec (K : own_Cx) (cs : List Int32) (h : Heap) : Value → Heap → List Addr → Prop := fun w h' _ => ∃ r : Addr, w = .ref r ∧ Ext h h' ∧ own_Ary K.Z h' r .int (own_ints (own_cpl cs ++ List.replicate (3 - (own_cpl cs).length) 0 ++ [(own_cpl cs).length.toInt32])) ∧ (own_cpl cs).length ≤ 3
set_option maxRecDepth 65536 in
set_option maxHeartbeats 40000000 in
theorem c_dec (K : own_Cx) (a0 : Array Value) (hw : ∀ d ∈ tables_1, d.before a0 K.Z = true) (a : Addr) (vs cs : List Int32) (n : Int32) (N : Nat) (h : Heap) (A : own_Ary K.Z h a .char (own_ints vs)) (hcs : cs = vs.take N) (hN : N ≤ vs.length) (hv : own_Chs vs) (hn : n.toInt = N) (hN3 : N ≤ 3) :
    own_Met K M_dec #[.ref a, .int n] [] h (own_ret (Q_dec K cs h)) := by
  have v1 : (1 : Int32).toInt = 1 := rfl
  have v2 : (2 : Int32).toInt = 2 := rfl
  have w6 : (65536 : Int32).toInt = 65536 := rfl
  have hlc : cs.length = N := by rw [hcs, List.length_take]; omega
  have hcc : own_Chs cs := fun c hc => hv c (by rw [hcs] at hc; exact List.mem_of_mem_take hc)
  refine own_met_2_4 (M := M_dec) pn_dec rfl (by first | rfl | exact own_cat (by assumption)) (by first | rfl | exact own_cat (by assumption)) ?_
  refine own_iconst (v := (4 : Int32)) (pc' := 1) rfl d_dec_0 rfl ?_
  refine own_newarray (pc' := 3) rfl d_dec_1 (tw_34 hw) (N := 4) (cap := 4) (by decide) (by decide) rfl rfl rfl ?_
  intro r h1 er E1 R1
  have nar' : a ≠ r := by show @Ne Nat a r; have : @LT.lt Nat _ _ _ := A.lt; omega
  refine own_astore_n2 (pc' := 4) rfl d_dec_3 (by first | exact One.u | exact One.val rfl | assumption | exact One.val (by assumption)) (by first | rfl | assumption) ?_
  refine own_iconst (v := (0 : Int32)) (pc' := 5) rfl d_dec_4 rfl ?_
  refine own_istore_n3 (pc' := 6) rfl d_dec_5 (by first | exact One.u | exact One.val rfl | assumption | exact One.val (by assumption)) ?_
  refine own_iconst (v := (0 : Int32)) (pc' := 7) rfl d_dec_6 rfl ?_
  refine own_istore_4 (pc' := 9) rfl d_dec_7 (by first | exact One.u | exact One.val rfl | assumption | exact One.val (by assumption)) ?_
  suffices k120 : ∀ (I : Nat) (i m : Int32) (xs : List Int32) (h2 : Heap) (sf : List Addr) (o : Slot), N ≤ I → m.toInt = xs.length → xs.length ≤ 3 → own_cpl cs = xs ++ own_cpl (cs.drop I) → r ∈ sf → Ext h h2 → own_Ary K.Z h2 r .int (own_ints (xs ++ List.replicate (4 - xs.length) 0)) → own_WP K M_dec (own_ret (Q_dec K cs h)) 120 [.val (.ref a), .val (.int n), .val (.ref r), .val (.int i), .val (.int m), o] [] sf h2 1 4 by
    suffices k83 : ∀ (I : Nat) (i m : Int32) (xs : List Int32) (h2 : Heap) (sf : List Addr) (o : Slot), (N ≤ I ∨ 2 ≤ I) → I ≤ N → i.toInt = I → One o → m.toInt = xs.length → xs.length ≤ 2 → own_cpl cs = xs ++ own_cpl (cs.drop I) → r ∈ sf → Ext h h2 → own_Ary K.Z h2 r .int (own_ints (xs ++ List.replicate (4 - xs.length) 0)) → own_WP K M_dec (own_ret (Q_dec K cs h)) 83 [.val (.ref a), .val (.int n), .val (.ref r), .val (.int i), .val (.int m), o] [] sf h2 1 4 by
      suffices k46 : ∀ (I : Nat) (i m : Int32) (xs : List Int32) (h2 : Heap) (sf : List Addr) (o : Slot), (N ≤ I ∨ 1 ≤ I) → I ≤ N → i.toInt = I → One o → m.toInt = xs.length → xs.length ≤ 1 → own_cpl cs = xs ++ own_cpl (cs.drop I) → r ∈ sf → Ext h h2 → own_Ary K.Z h2 r .int (own_ints (xs ++ List.replicate (4 - xs.length) 0)) → own_WP K M_dec (own_ret (Q_dec K cs h)) 46 [.val (.ref a), .val (.int n), .val (.ref r), .val (.int i), .val (.int m), o] [] sf h2 1 4 by
        have k9 : ∀ (I : Nat) (i m : Int32) (xs : List Int32) (h2 : Heap) (sf : List Addr) (o : Slot), (N ≤ I ∨ 0 ≤ I) → I ≤ N → i.toInt = I → One o → m.toInt = xs.length → xs.length ≤ 0 → own_cpl cs = xs ++ own_cpl (cs.drop I) → r ∈ sf → Ext h h2 → own_Ary K.Z h2 r .int (own_ints (xs ++ List.replicate (4 - xs.length) 0)) → own_WP K M_dec (own_ret (Q_dec K cs h)) 9 [.val (.ref a), .val (.int n), .val (.ref r), .val (.int i), .val (.int m), o] [] sf h2 1 4 := by
          intro I i m xs h2 sf o hI hIN hi ho hm hx hc hr E2 R2
          refine own_iload_n (pc' := 10) rfl d_dec_9 rfl ?_
          refine own_iload_n (pc' := 11) rfl d_dec_10 rfl ?_
          refine own_icmpge (pcT := 46) (pcF := 14) d_dec_11 (by decide) (by decide) rfl (fun q => ?_) (fun q => ?_)
          · rw [Int32.lt_iff_toInt_lt] at q
            exact k46 I i m xs h2 sf o (Or.inl (by omega)) hIN hi ho hm (by omega) hc hr E2 R2
          rw [Int32.lt_iff_toInt_lt] at q
          have hIl : I < N := by omega
          have hne : cs.drop I ≠ [] := fun z => by have := congrArg List.length z; simp at this; omega
          have hst := own_cpl_step hne
          have hc1 := own_c1_n hne (own_chs_drop hcc I)
          rw [List.length_drop] at hc1
          refine own_aload_n (pc' := 15) rfl d_dec_14 rfl (by first | rfl | assumption) ?_
          refine own_iload_n (pc' := 16) rfl d_dec_15 rfl ?_
          refine own_iload_n (pc' := 17) rfl d_dec_16 rfl ?_
          refine own_static3v (M' := M_cp) d_dec_17 (pc' := 20) rfl (tw_91 hw) (tw_92 hw) (tw_2 hw) (tw_93 hw) (by decide) rfl (own_lenOf pd_11 rfl) rfl rfl rfl rfl (c_cp K a0 hw a vs cs i n I N h2 (A.ext E2) hcs hN hi hn hIl (by omega)) (by simp) ?_
          rintro w h3 xs3 ⟨rfl, rfl⟩
          generalize hp : own_c1 (cs.drop I) = p at hst hc1 ⊢
          obtain ⟨pc, pn⟩ := p
          dsimp only at hst hc1 ⊢
          rw [List.drop_drop] at hst
          refine own_istore_5 (pc' := 22) rfl d_dec_20 (by first | exact One.u | exact One.val rfl | assumption | exact One.val (by assumption)) ?_
          refine own_aload_n (pc' := 23) rfl d_dec_22 rfl (by first | rfl | assumption) ?_
          refine own_iload (pc' := 25) rfl d_dec_23 rfl ?_
          refine own_iload (pc' := 27) rfl d_dec_25 rfl ?_
          refine own_iastore (pc' := 28) rfl d_dec_27 R2 (i := xs.length) hm (by simp; omega) rfl (List.mem_append_right _ hr) ?_
          intro h4 k4 R4
          have R4' : own_Ary K.Z h4 r .int (own_ints ((xs ++ [pc]) ++ List.replicate (4 - (xs ++ [pc]).length) 0)) := by
            have e := own_setmid (own_ints xs) (Value.int 0) (.int pc) (3 - xs.length)
            have e1 : own_ints (xs ++ List.replicate (4 - xs.length) 0) = own_ints xs ++ List.replicate (3 - xs.length + 1) (Value.int 0) := by rw [show 4 - xs.length = 3 - xs.length + 1 by omega]; simp [own_ints]
            have e2 : own_ints ((xs ++ [pc]) ++ List.replicate (4 - (xs ++ [pc]).length) 0) = (own_ints xs ++ [.int pc]) ++ List.replicate (3 - xs.length) (Value.int 0) := by rw [show 4 - (xs ++ [pc]).length = 3 - xs.length by rw [List.length_append, List.length_singleton]; omega]; simp [own_ints]
            rw [show (own_ints xs).length = xs.length by simp] at e; rw [e1, e] at R4
            rw [e2]
            exact R4
          have hm1 : (m + 1).toInt = ((xs ++ [pc]).length : Int) := by rw [own_add hm v1 (by omega) (by omega)]; simp
          have E4 := own_ext_keep E2 k4 (by intro z hz; cases List.mem_singleton.mp hz; omega)
          have hcc2 : own_cpl cs = (xs ++ [pc]) ++ own_cpl (cs.drop (I + pn)) := by rw [hc, hst]; simp
          refine own_iinc_4 (z := (1 : Int32)) (pc' := 31) rfl d_dec_28 rfl ?_
          refine own_iload_n (pc' := 32) rfl d_dec_31 rfl ?_
          refine own_iload (pc' := 34) rfl d_dec_32 rfl ?_
          refine own_ldcI (pc' := 36) rfl d_dec_34 (tw_4 hw) ?_
          refine own_icmplt (pcT := 43) (pcF := 39) d_dec_36 (by decide) (by decide) rfl (fun q2 => ?_) (fun q2 => ?_)
          · rw [Int32.lt_iff_toInt_lt] at q2
            have hpn : pn = 1 := by omega
            subst hpn
            refine own_iconst (v := (1 : Int32)) (pc' := 44) rfl d_dec_43 rfl ?_
            refine own_iadd (pc' := 45) rfl d_dec_44 ?_
            refine own_istore_n3 (pc' := 46) rfl d_dec_45 (by first | exact One.u | exact One.val rfl | assumption | exact One.val (by assumption)) ?_
            exact own_weak (k46 (I + 1) (i + 1) (m + 1) (xs ++ [pc]) h4 _ _ (Or.inr (by omega)) (by omega) (by rw [own_add hi v1] <;> omega) (One.val rfl) hm1 (by rw [List.length_append, List.length_singleton]; omega) hcc2 (List.mem_append_right _ hr) E4 R4') (fun x hx => hx) (by exact Nat.le_of_ble_eq_true rfl) (by exact Nat.le_of_ble_eq_true rfl)
          · rw [Int32.lt_iff_toInt_lt] at q2
            have hpn : pn = 2 := by omega
            subst hpn
            refine own_iconst (v := (2 : Int32)) (pc' := 40) rfl d_dec_39 rfl ?_
            refine own_goto (pc' := 44) d_dec_40 (by decide) (by decide) ?_
            refine own_iadd (pc' := 45) rfl d_dec_44 ?_
            refine own_istore_n3 (pc' := 46) rfl d_dec_45 (by first | exact One.u | exact One.val rfl | assumption | exact One.val (by assumption)) ?_
            exact own_weak (k46 (I + 2) (i + 2) (m + 1) (xs ++ [pc]) h4 _ _ (Or.inr (by omega)) (by omega) (by rw [own_add hi v2] <;> omega) (One.val rfl) hm1 (by rw [List.length_append, List.length_singleton]; omega) hcc2 (List.mem_append_right _ hr) E4 R4') (fun x hx => hx) (by exact Nat.le_of_ble_eq_true rfl) (by exact Nat.le_of_ble_eq_true rfl)
        exact own_weak (k9 0 0 0 [] h1 _ .unset (Or.inr (Nat.le_refl _)) (by omega) rfl One.u rfl (by simp) (by simp) (by simp) E1 R1) (fun x hx => hx) (by exact Nat.le_of_ble_eq_true rfl) (by exact Nat.le_of_ble_eq_true rfl)
      intro I i m xs h2 sf o hI hIN hi ho hm hx hc hr E2 R2
      refine own_iload_n (pc' := 47) rfl d_dec_46 rfl ?_
      refine own_iload_n (pc' := 48) rfl d_dec_47 rfl ?_
      refine own_icmpge (pcT := 83) (pcF := 51) d_dec_48 (by decide) (by decide) rfl (fun q => ?_) (fun q => ?_)
      · rw [Int32.lt_iff_toInt_lt] at q
        exact k83 I i m xs h2 sf o (Or.inl (by omega)) hIN hi ho hm (by omega) hc hr E2 R2
      rw [Int32.lt_iff_toInt_lt] at q
      have hIl : I < N := by omega
      have hne : cs.drop I ≠ [] := fun z => by have := congrArg List.length z; simp at this; omega
      have hst := own_cpl_step hne
      have hc1 := own_c1_n hne (own_chs_drop hcc I)
      rw [List.length_drop] at hc1
      refine own_aload_n (pc' := 52) rfl d_dec_51 rfl (by first | rfl | assumption) ?_
      refine own_iload_n (pc' := 53) rfl d_dec_52 rfl ?_
      refine own_iload_n (pc' := 54) rfl d_dec_53 rfl ?_
      refine own_static3v (M' := M_cp) d_dec_54 (pc' := 57) rfl (tw_91 hw) (tw_92 hw) (tw_2 hw) (tw_93 hw) (by decide) rfl (own_lenOf pd_11 rfl) rfl rfl rfl rfl (c_cp K a0 hw a vs cs i n I N h2 (A.ext E2) hcs hN hi hn hIl (by omega)) (by simp) ?_
      rintro w h3 xs3 ⟨rfl, rfl⟩
      generalize hp : own_c1 (cs.drop I) = p at hst hc1 ⊢
      obtain ⟨pc, pn⟩ := p
      dsimp only at hst hc1 ⊢
      rw [List.drop_drop] at hst
      refine own_istore_5 (pc' := 59) rfl d_dec_57 (by first | exact One.u | exact One.val rfl | assumption | exact One.val (by assumption)) ?_
      refine own_aload_n (pc' := 60) rfl d_dec_59 rfl (by first | rfl | assumption) ?_
      refine own_iload (pc' := 62) rfl d_dec_60 rfl ?_
      refine own_iload (pc' := 64) rfl d_dec_62 rfl ?_
      refine own_iastore (pc' := 65) rfl d_dec_64 R2 (i := xs.length) hm (by simp; omega) rfl (List.mem_append_right _ hr) ?_
      intro h4 k4 R4
      have R4' : own_Ary K.Z h4 r .int (own_ints ((xs ++ [pc]) ++ List.replicate (4 - (xs ++ [pc]).length) 0)) := by
        have e := own_setmid (own_ints xs) (Value.int 0) (.int pc) (3 - xs.length)
        have e1 : own_ints (xs ++ List.replicate (4 - xs.length) 0) = own_ints xs ++ List.replicate (3 - xs.length + 1) (Value.int 0) := by rw [show 4 - xs.length = 3 - xs.length + 1 by omega]; simp [own_ints]
        have e2 : own_ints ((xs ++ [pc]) ++ List.replicate (4 - (xs ++ [pc]).length) 0) = (own_ints xs ++ [.int pc]) ++ List.replicate (3 - xs.length) (Value.int 0) := by rw [show 4 - (xs ++ [pc]).length = 3 - xs.length by rw [List.length_append, List.length_singleton]; omega]; simp [own_ints]
        rw [show (own_ints xs).length = xs.length by simp] at e; rw [e1, e] at R4
        rw [e2]
        exact R4
      have hm1 : (m + 1).toInt = ((xs ++ [pc]).length : Int) := by rw [own_add hm v1 (by omega) (by omega)]; simp
      have E4 := own_ext_keep E2 k4 (by intro z hz; cases List.mem_singleton.mp hz; omega)
      have hcc2 : own_cpl cs = (xs ++ [pc]) ++ own_cpl (cs.drop (I + pn)) := by rw [hc, hst]; simp
      refine own_iinc_4 (z := (1 : Int32)) (pc' := 68) rfl d_dec_65 rfl ?_
      refine own_iload_n (pc' := 69) rfl d_dec_68 rfl ?_
      refine own_iload (pc' := 71) rfl d_dec_69 rfl ?_
      refine own_ldcI (pc' := 73) rfl d_dec_71 (tw_4 hw) ?_
      refine own_icmplt (pcT := 80) (pcF := 76) d_dec_73 (by decide) (by decide) rfl (fun q2 => ?_) (fun q2 => ?_)
      · rw [Int32.lt_iff_toInt_lt] at q2
        have hpn : pn = 1 := by omega
        subst hpn
        refine own_iconst (v := (1 : Int32)) (pc' := 81) rfl d_dec_80 rfl ?_
        refine own_iadd (pc' := 82) rfl d_dec_81 ?_
        refine own_istore_n3 (pc' := 83) rfl d_dec_82 (by first | exact One.u | exact One.val rfl | assumption | exact One.val (by assumption)) ?_
        exact own_weak (k83 (I + 1) (i + 1) (m + 1) (xs ++ [pc]) h4 _ _ (Or.inr (by omega)) (by omega) (by rw [own_add hi v1] <;> omega) (One.val rfl) hm1 (by rw [List.length_append, List.length_singleton]; omega) hcc2 (List.mem_append_right _ hr) E4 R4') (fun x hx => hx) (by exact Nat.le_of_ble_eq_true rfl) (by exact Nat.le_of_ble_eq_true rfl)
      · rw [Int32.lt_iff_toInt_lt] at q2
        have hpn : pn = 2 := by omega
        subst hpn
        refine own_iconst (v := (2 : Int32)) (pc' := 77) rfl d_dec_76 rfl ?_
        refine own_goto (pc' := 81) d_dec_77 (by decide) (by decide) ?_
        refine own_iadd (pc' := 82) rfl d_dec_81 ?_
        refine own_istore_n3 (pc' := 83) rfl d_dec_82 (by first | exact One.u | exact One.val rfl | assumption | exact One.val (by assumption)) ?_
        exact own_weak (k83 (I + 2) (i + 2) (m + 1) (xs ++ [pc]) h4 _ _ (Or.inr (by omega)) (by omega) (by rw [own_add hi v2] <;> omega) (One.val rfl) hm1 (by rw [List.length_append, List.length_singleton]; omega) hcc2 (List.mem_append_right _ hr) E4 R4') (fun x hx => hx) (by exact Nat.le_of_ble_eq_true rfl) (by exact Nat.le_of_ble_eq_true rfl)
    intro I i m xs h2 sf o hI hIN hi ho hm hx hc hr E2 R2
    refine own_iload_n (pc' := 84) rfl d_dec_83 rfl ?_
    refine own_iload_n (pc' := 85) rfl d_dec_84 rfl ?_
    refine own_icmpge (pcT := 120) (pcF := 88) d_dec_85 (by decide) (by decide) rfl (fun q => ?_) (fun q => ?_)
    · rw [Int32.lt_iff_toInt_lt] at q
      exact k120 I i m xs h2 sf o (by omega) hm (by omega) hc hr E2 R2
    rw [Int32.lt_iff_toInt_lt] at q
    have hIl : I < N := by omega
    have hne : cs.drop I ≠ [] := fun z => by have := congrArg List.length z; simp at this; omega
    have hst := own_cpl_step hne
    have hc1 := own_c1_n hne (own_chs_drop hcc I)
    rw [List.length_drop] at hc1
    refine own_aload_n (pc' := 89) rfl d_dec_88 rfl (by first | rfl | assumption) ?_
    refine own_iload_n (pc' := 90) rfl d_dec_89 rfl ?_
    refine own_iload_n (pc' := 91) rfl d_dec_90 rfl ?_
    refine own_static3v (M' := M_cp) d_dec_91 (pc' := 94) rfl (tw_91 hw) (tw_92 hw) (tw_2 hw) (tw_93 hw) (by decide) rfl (own_lenOf pd_11 rfl) rfl rfl rfl rfl (c_cp K a0 hw a vs cs i n I N h2 (A.ext E2) hcs hN hi hn hIl (by omega)) (by simp) ?_
    rintro w h3 xs3 ⟨rfl, rfl⟩
    generalize hp : own_c1 (cs.drop I) = p at hst hc1 ⊢
    obtain ⟨pc, pn⟩ := p
    dsimp only at hst hc1 ⊢
    rw [List.drop_drop] at hst
    refine own_istore_5 (pc' := 96) rfl d_dec_94 (by first | exact One.u | exact One.val rfl | assumption | exact One.val (by assumption)) ?_
    refine own_aload_n (pc' := 97) rfl d_dec_96 rfl (by first | rfl | assumption) ?_
    refine own_iload (pc' := 99) rfl d_dec_97 rfl ?_
    refine own_iload (pc' := 101) rfl d_dec_99 rfl ?_
    refine own_iastore (pc' := 102) rfl d_dec_101 R2 (i := xs.length) hm (by simp; omega) rfl (List.mem_append_right _ hr) ?_
    intro h4 k4 R4
    have R4' : own_Ary K.Z h4 r .int (own_ints ((xs ++ [pc]) ++ List.replicate (4 - (xs ++ [pc]).length) 0)) := by
      have e := own_setmid (own_ints xs) (Value.int 0) (.int pc) (3 - xs.length)
      have e1 : own_ints (xs ++ List.replicate (4 - xs.length) 0) = own_ints xs ++ List.replicate (3 - xs.length + 1) (Value.int 0) := by rw [show 4 - xs.length = 3 - xs.length + 1 by omega]; simp [own_ints]
      have e2 : own_ints ((xs ++ [pc]) ++ List.replicate (4 - (xs ++ [pc]).length) 0) = (own_ints xs ++ [.int pc]) ++ List.replicate (3 - xs.length) (Value.int 0) := by rw [show 4 - (xs ++ [pc]).length = 3 - xs.length by rw [List.length_append, List.length_singleton]; omega]; simp [own_ints]
      rw [show (own_ints xs).length = xs.length by simp] at e; rw [e1, e] at R4
      rw [e2]
      exact R4
    have hm1 : (m + 1).toInt = ((xs ++ [pc]).length : Int) := by rw [own_add hm v1 (by omega) (by omega)]; simp
    have E4 := own_ext_keep E2 k4 (by intro z hz; cases List.mem_singleton.mp hz; omega)
    have hcc2 : own_cpl cs = (xs ++ [pc]) ++ own_cpl (cs.drop (I + pn)) := by rw [hc, hst]; simp
    refine own_iinc_4 (z := (1 : Int32)) (pc' := 105) rfl d_dec_102 rfl ?_
    refine own_iload_n (pc' := 106) rfl d_dec_105 rfl ?_
    refine own_iload (pc' := 108) rfl d_dec_106 rfl ?_
    refine own_ldcI (pc' := 110) rfl d_dec_108 (tw_4 hw) ?_
    refine own_icmplt (pcT := 117) (pcF := 113) d_dec_110 (by decide) (by decide) rfl (fun q2 => ?_) (fun q2 => ?_)
    · rw [Int32.lt_iff_toInt_lt] at q2
      have hpn : pn = 1 := by omega
      subst hpn
      refine own_iconst (v := (1 : Int32)) (pc' := 118) rfl d_dec_117 rfl ?_
      refine own_iadd (pc' := 119) rfl d_dec_118 ?_
      refine own_istore_n3 (pc' := 120) rfl d_dec_119 (by first | exact One.u | exact One.val rfl | assumption | exact One.val (by assumption)) ?_
      exact own_weak (k120 (I + 1) (i + 1) (m + 1) (xs ++ [pc]) h4 _ _ (by omega) hm1 (by rw [List.length_append, List.length_singleton]; omega) hcc2 (List.mem_append_right _ hr) E4 R4') (fun x hx => hx) (by exact Nat.le_of_ble_eq_true rfl) (by exact Nat.le_of_ble_eq_true rfl)
    · rw [Int32.lt_iff_toInt_lt] at q2
      have hpn : pn = 2 := by omega
      subst hpn
      refine own_iconst (v := (2 : Int32)) (pc' := 114) rfl d_dec_113 rfl ?_
      refine own_goto (pc' := 118) d_dec_114 (by decide) (by decide) ?_
      refine own_iadd (pc' := 119) rfl d_dec_118 ?_
      refine own_istore_n3 (pc' := 120) rfl d_dec_119 (by first | exact One.u | exact One.val rfl | assumption | exact One.val (by assumption)) ?_
      exact own_weak (k120 (I + 2) (i + 2) (m + 1) (xs ++ [pc]) h4 _ _ (by omega) hm1 (by rw [List.length_append, List.length_singleton]; omega) hcc2 (List.mem_append_right _ hr) E4 R4') (fun x hx => hx) (by exact Nat.le_of_ble_eq_true rfl) (by exact Nat.le_of_ble_eq_true rfl)
  intro I i m xs h2 sf o hI hm hx hc hr E2 R2
  have hd0 : cs.drop I = [] := List.drop_eq_nil_of_le (by omega)
  have hcx : own_cpl cs = xs := by rw [hc, hd0]; simp [own_cpl]
  refine own_aload_n (pc' := 121) rfl d_dec_120 rfl (by first | rfl | assumption) ?_
  refine own_iconst (v := (3 : Int32)) (pc' := 122) rfl d_dec_121 rfl ?_
  refine own_iload (pc' := 124) rfl d_dec_122 rfl ?_
  refine own_iastore (pc' := 125) rfl d_dec_124 R2 (i := 3) rfl (by simp; omega) rfl hr ?_
  intro h3 k3 R3
  refine own_aload_n (pc' := 126) rfl d_dec_125 rfl (by first | rfl | assumption) ?_
  refine own_areturn rfl rfl (by first | rfl | assumption) d_dec_126 rfl rfl ?_
  refine ⟨r, rfl, own_ext_keep E2 k3 (by intro z hz; cases List.mem_singleton.mp hz; omega), ?_, by rw [hcx]; exact hx⟩
  have em : m = xs.length.toInt32 := Int32.toInt_inj.mp (by rw [hm, own_lit _ (by omega)])
  have e3 := own_fin4 xs m hx
  rw [hcx, ← em, ← e3]
  exact R3
theorem d_icm_0 : decode jdk_33_method_40_code 0 = .ok (.iload_n 0, 1) := by decide +kernel
theorem d_icm_1 : decode jdk_33_method_40_code 1 = .ok (.iload_n 1, 1) := by decide +kernel
theorem d_icm_2 : decode jdk_33_method_40_code 2 = .ok (.if_icmp .ge 7, 3) := by decide +kernel
theorem d_icm_5 : decode jdk_33_method_40_code 5 = .ok (.iconst (-1), 1) := by decide +kernel
theorem d_icm_6 : decode jdk_33_method_40_code 6 = .ok (.goto 13, 3) := by decide +kernel
theorem d_icm_9 : decode jdk_33_method_40_code 9 = .ok (.iload_n 0, 1) := by decide +kernel
theorem d_icm_10 : decode jdk_33_method_40_code 10 = .ok (.iload_n 1, 1) := by decide +kernel
theorem d_icm_11 : decode jdk_33_method_40_code 11 = .ok (.if_icmp .ne 7, 3) := by decide +kernel
theorem d_icm_14 : decode jdk_33_method_40_code 14 = .ok (.iconst 0, 1) := by decide +kernel
theorem d_icm_15 : decode jdk_33_method_40_code 15 = .ok (.goto 4, 3) := by decide +kernel
theorem d_icm_18 : decode jdk_33_method_40_code 18 = .ok (.iconst 1, 1) := by decide +kernel
theorem d_icm_19 : decode jdk_33_method_40_code 19 = .ok (.ireturn, 1) := by decide +kernel
abbrev M_icm : own_Mi := ((⟨"java/lang/Integer", "compare", "(II)I"⟩ : MethodName), jdk_33_method_40_code, 2, (Option.some FieldType.int), ({ frames := 0, cells := 0, slots := 0, locals := 0 } : Room))
theorem pn_icm : plainFor (own_Mi.y M_icm) = true := plainFor_of_name (by first | (simp [plainName, overriddenIn]; done) | decide +kernel)
def own_ic (x y : Int32) : Int32 := if x = y then 0 else if x.toInt < y.toInt then -1 else 1
set_option maxRecDepth 65536 in
set_option maxHeartbeats 40000000 in
theorem c_icm (K : own_Cx) (a0 : Array Value) (hw : ∀ d ∈ tables_1, d.before a0 K.Z = true) (x y : Int32) (h : Heap) :
    own_Met K M_icm #[.int x, .int y] [] h (own_ret fun w h' _ => w = .int (own_ic x y) ∧ h' = h) := by
  refine own_met_2_0 (M := M_icm) pn_icm rfl (by first | rfl | exact own_cat (by assumption)) (by first | rfl | exact own_cat (by assumption)) ?_
  refine own_iload_n (pc' := 1) rfl d_icm_0 rfl ?_
  refine own_iload_n (pc' := 2) rfl d_icm_1 rfl ?_
  refine own_icmpge (pcT := 9) (pcF := 5) d_icm_2 (by decide) (by decide) rfl (fun q => ?_) (fun q => ?_)
  · rw [Int32.lt_iff_toInt_lt] at q
    refine own_iload_n (pc' := 10) rfl d_icm_9 rfl ?_
    refine own_iload_n (pc' := 11) rfl d_icm_10 rfl ?_
    refine own_icmpne (pcT := 18) (pcF := 14) d_icm_11 (by decide) (by decide) rfl (fun q2 => ?_) (fun q2 => ?_)
    · skip
      refine own_iconst (v := (1 : Int32)) (pc' := 19) rfl d_icm_18 rfl ?_
      refine own_ireturn rfl d_icm_19 rfl rfl ?_
      exact ⟨by rw [own_ic, if_neg q2, if_neg q], rfl⟩
    · skip
      refine own_iconst (v := (0 : Int32)) (pc' := 15) rfl d_icm_14 rfl ?_
      refine own_goto (pc' := 19) d_icm_15 (by decide) (by decide) ?_
      refine own_ireturn rfl d_icm_19 rfl rfl ?_
      exact ⟨by rw [own_ic, if_pos q2], rfl⟩
  · rw [Int32.lt_iff_toInt_lt] at q
    have q2 : ¬ x = y := fun z => by rw [z] at q; omega
    refine own_iconst (v := (-1 : Int32)) (pc' := 6) rfl d_icm_5 rfl ?_
    refine own_goto (pc' := 19) d_icm_6 (by decide) (by decide) ?_
    refine own_ireturn rfl d_icm_19 rfl rfl ?_
    exact ⟨by rw [own_ic, if_neg q2, if_pos q], rfl⟩
theorem own_cmp2 {x y : Int32} {xs ys : List Int32} (q : ¬ x = y) : own_cmp (x :: xs) (y :: ys) = own_ic x y := by
  simp only [own_cmp, own_ic, q, if_false]
theorem own_ecmp (us vs : List Int32) (h1 : us.length ≤ 3) (h2 : vs.length ≤ 3) (h : us = [] ∨ vs = []) : own_cmp us vs = own_ic us.length.toInt32 vs.length.toInt32 := by
  rcases h with rfl | rfl
  · rcases own_len4 h2 with rfl | ⟨a, rfl⟩ | ⟨a, b, rfl⟩ | ⟨a, b, c, rfl⟩
    · show (0 : Int32) = own_ic (Nat.toInt32 0) (Nat.toInt32 0); decide
    · show (-1 : Int32) = own_ic (Nat.toInt32 0) (Nat.toInt32 1); decide
    · show (-1 : Int32) = own_ic (Nat.toInt32 0) (Nat.toInt32 2); decide
    · show (-1 : Int32) = own_ic (Nat.toInt32 0) (Nat.toInt32 3); decide
  · rcases own_len4 h1 with rfl | ⟨a, rfl⟩ | ⟨a, b, rfl⟩ | ⟨a, b, c, rfl⟩
    · show (0 : Int32) = own_ic (Nat.toInt32 0) (Nat.toInt32 0); decide
    · show (1 : Int32) = own_ic (Nat.toInt32 1) (Nat.toInt32 0); decide
    · show (1 : Int32) = own_ic (Nat.toInt32 2) (Nat.toInt32 0); decide
    · show (1 : Int32) = own_ic (Nat.toInt32 3) (Nat.toInt32 0); decide
theorem d_ref_0 : decode method_7_code 0 = .ok (.aload_n 0, 1) := by decide +kernel
theorem d_ref_1 : decode method_7_code 1 = .ok (.iconst 3, 1) := by decide +kernel
theorem d_ref_2 : decode method_7_code 2 = .ok (.iaload, 1) := by decide +kernel
theorem d_ref_3 : decode method_7_code 3 = .ok (.istore_n 2, 1) := by decide +kernel
theorem d_ref_4 : decode method_7_code 4 = .ok (.aload_n 1, 1) := by decide +kernel
theorem d_ref_5 : decode method_7_code 5 = .ok (.iconst 3, 1) := by decide +kernel
theorem d_ref_6 : decode method_7_code 6 = .ok (.iaload, 1) := by decide +kernel
theorem d_ref_7 : decode method_7_code 7 = .ok (.istore_n 3, 1) := by decide +kernel
theorem d_ref_8 : decode method_7_code 8 = .ok (.iload_n 2, 1) := by decide +kernel
theorem d_ref_9 : decode method_7_code 9 = .ok (.iload_n 3, 1) := by decide +kernel
theorem d_ref_10 : decode method_7_code 10 = .ok (.invokestatic 47, 3) := by decide +kernel
theorem d_ref_13 : decode method_7_code 13 = .ok (.istore 4, 2) := by decide +kernel
theorem d_ref_15 : decode method_7_code 15 = .ok (.iload 4, 2) := by decide +kernel
theorem d_ref_17 : decode method_7_code 17 = .ok (.ifCond .le 27, 3) := by decide +kernel
theorem d_ref_20 : decode method_7_code 20 = .ok (.aload_n 0, 1) := by decide +kernel
theorem d_ref_21 : decode method_7_code 21 = .ok (.iconst 0, 1) := by decide +kernel
theorem d_ref_22 : decode method_7_code 22 = .ok (.iaload, 1) := by decide +kernel
theorem d_ref_23 : decode method_7_code 23 = .ok (.aload_n 1, 1) := by decide +kernel
theorem d_ref_24 : decode method_7_code 24 = .ok (.iconst 0, 1) := by decide +kernel
theorem d_ref_25 : decode method_7_code 25 = .ok (.iaload, 1) := by decide +kernel
theorem d_ref_26 : decode method_7_code 26 = .ok (.if_icmp .eq 18, 3) := by decide +kernel
theorem d_ref_29 : decode method_7_code 29 = .ok (.aload_n 0, 1) := by decide +kernel
theorem d_ref_30 : decode method_7_code 30 = .ok (.iconst 0, 1) := by decide +kernel
theorem d_ref_31 : decode method_7_code 31 = .ok (.iaload, 1) := by decide +kernel
theorem d_ref_32 : decode method_7_code 32 = .ok (.aload_n 1, 1) := by decide +kernel
theorem d_ref_33 : decode method_7_code 33 = .ok (.iconst 0, 1) := by decide +kernel
theorem d_ref_34 : decode method_7_code 34 = .ok (.iaload, 1) := by decide +kernel
theorem d_ref_35 : decode method_7_code 35 = .ok (.if_icmp .ge 7, 3) := by decide +kernel
theorem d_ref_38 : decode method_7_code 38 = .ok (.iconst (-1), 1) := by decide +kernel
theorem d_ref_39 : decode method_7_code 39 = .ok (.goto 4, 3) := by decide +kernel
theorem d_ref_42 : decode method_7_code 42 = .ok (.iconst 1, 1) := by decide +kernel
theorem d_ref_43 : decode method_7_code 43 = .ok (.ireturn, 1) := by decide +kernel
theorem d_ref_44 : decode method_7_code 44 = .ok (.iload 4, 2) := by decide +kernel
theorem d_ref_46 : decode method_7_code 46 = .ok (.iconst 1, 1) := by decide +kernel
theorem d_ref_47 : decode method_7_code 47 = .ok (.if_icmp .le 27, 3) := by decide +kernel
theorem d_ref_50 : decode method_7_code 50 = .ok (.aload_n 0, 1) := by decide +kernel
theorem d_ref_51 : decode method_7_code 51 = .ok (.iconst 1, 1) := by decide +kernel
theorem d_ref_52 : decode method_7_code 52 = .ok (.iaload, 1) := by decide +kernel
theorem d_ref_53 : decode method_7_code 53 = .ok (.aload_n 1, 1) := by decide +kernel
theorem d_ref_54 : decode method_7_code 54 = .ok (.iconst 1, 1) := by decide +kernel
theorem d_ref_55 : decode method_7_code 55 = .ok (.iaload, 1) := by decide +kernel
theorem d_ref_56 : decode method_7_code 56 = .ok (.if_icmp .eq 18, 3) := by decide +kernel
theorem d_ref_59 : decode method_7_code 59 = .ok (.aload_n 0, 1) := by decide +kernel
theorem d_ref_60 : decode method_7_code 60 = .ok (.iconst 1, 1) := by decide +kernel
theorem d_ref_61 : decode method_7_code 61 = .ok (.iaload, 1) := by decide +kernel
theorem d_ref_62 : decode method_7_code 62 = .ok (.aload_n 1, 1) := by decide +kernel
theorem d_ref_63 : decode method_7_code 63 = .ok (.iconst 1, 1) := by decide +kernel
theorem d_ref_64 : decode method_7_code 64 = .ok (.iaload, 1) := by decide +kernel
theorem d_ref_65 : decode method_7_code 65 = .ok (.if_icmp .ge 7, 3) := by decide +kernel
theorem d_ref_68 : decode method_7_code 68 = .ok (.iconst (-1), 1) := by decide +kernel
theorem d_ref_69 : decode method_7_code 69 = .ok (.goto 4, 3) := by decide +kernel
theorem d_ref_72 : decode method_7_code 72 = .ok (.iconst 1, 1) := by decide +kernel
theorem d_ref_73 : decode method_7_code 73 = .ok (.ireturn, 1) := by decide +kernel
theorem d_ref_74 : decode method_7_code 74 = .ok (.iload 4, 2) := by decide +kernel
theorem d_ref_76 : decode method_7_code 76 = .ok (.iconst 2, 1) := by decide +kernel
theorem d_ref_77 : decode method_7_code 77 = .ok (.if_icmp .le 27, 3) := by decide +kernel
theorem d_ref_80 : decode method_7_code 80 = .ok (.aload_n 0, 1) := by decide +kernel
theorem d_ref_81 : decode method_7_code 81 = .ok (.iconst 2, 1) := by decide +kernel
theorem d_ref_82 : decode method_7_code 82 = .ok (.iaload, 1) := by decide +kernel
theorem d_ref_83 : decode method_7_code 83 = .ok (.aload_n 1, 1) := by decide +kernel
theorem d_ref_84 : decode method_7_code 84 = .ok (.iconst 2, 1) := by decide +kernel
theorem d_ref_85 : decode method_7_code 85 = .ok (.iaload, 1) := by decide +kernel
theorem d_ref_86 : decode method_7_code 86 = .ok (.if_icmp .eq 18, 3) := by decide +kernel
theorem d_ref_89 : decode method_7_code 89 = .ok (.aload_n 0, 1) := by decide +kernel
theorem d_ref_90 : decode method_7_code 90 = .ok (.iconst 2, 1) := by decide +kernel
theorem d_ref_91 : decode method_7_code 91 = .ok (.iaload, 1) := by decide +kernel
theorem d_ref_92 : decode method_7_code 92 = .ok (.aload_n 1, 1) := by decide +kernel
theorem d_ref_93 : decode method_7_code 93 = .ok (.iconst 2, 1) := by decide +kernel
theorem d_ref_94 : decode method_7_code 94 = .ok (.iaload, 1) := by decide +kernel
theorem d_ref_95 : decode method_7_code 95 = .ok (.if_icmp .ge 7, 3) := by decide +kernel
theorem d_ref_98 : decode method_7_code 98 = .ok (.iconst (-1), 1) := by decide +kernel
theorem d_ref_99 : decode method_7_code 99 = .ok (.goto 4, 3) := by decide +kernel
theorem d_ref_102 : decode method_7_code 102 = .ok (.iconst 1, 1) := by decide +kernel
theorem d_ref_103 : decode method_7_code 103 = .ok (.ireturn, 1) := by decide +kernel
theorem d_ref_104 : decode method_7_code 104 = .ok (.iload_n 2, 1) := by decide +kernel
theorem d_ref_105 : decode method_7_code 105 = .ok (.iload_n 3, 1) := by decide +kernel
theorem d_ref_106 : decode method_7_code 106 = .ok (.if_icmp .ge 5, 3) := by decide +kernel
theorem d_ref_109 : decode method_7_code 109 = .ok (.iconst (-1), 1) := by decide +kernel
theorem d_ref_110 : decode method_7_code 110 = .ok (.ireturn, 1) := by decide +kernel
theorem d_ref_111 : decode method_7_code 111 = .ok (.iload_n 2, 1) := by decide +kernel
theorem d_ref_112 : decode method_7_code 112 = .ok (.iload_n 3, 1) := by decide +kernel
theorem d_ref_113 : decode method_7_code 113 = .ok (.if_icmp .le 5, 3) := by decide +kernel
theorem d_ref_116 : decode method_7_code 116 = .ok (.iconst 1, 1) := by decide +kernel
theorem d_ref_117 : decode method_7_code 117 = .ok (.ireturn, 1) := by decide +kernel
theorem d_ref_118 : decode method_7_code 118 = .ok (.iconst 0, 1) := by decide +kernel
theorem d_ref_119 : decode method_7_code 119 = .ok (.ireturn, 1) := by decide +kernel
abbrev M_ref : own_Mi := ((⟨"com/example/sunder/sunder/CodePointOrderComparePinLaw", "ref", "([I[I)I"⟩ : MethodName), method_7_code, 5, (Option.some FieldType.int), ({ frames := 1, cells := 0, slots := 0, locals := 13 } : Room))
theorem pn_ref : plainFor (own_Mi.y M_ref) = true := plainFor_of_name (by first | (simp [plainName, overriddenIn]; done) | decide +kernel)
set_option maxRecDepth 65536 in
set_option maxHeartbeats 40000000 in
theorem c_ref (K : own_Cx) (a0 : Array Value) (hw : ∀ d ∈ tables_1, d.before a0 K.Z = true) (a b : Addr) (xs ys : List Int32) (h : Heap) (hx : xs.length ≤ 3) (hy : ys.length ≤ 3) (A : own_Ary K.Z h a .int (own_ints (xs ++ List.replicate (3 - xs.length) 0 ++ [xs.length.toInt32]))) (B : own_Ary K.Z h b .int (own_ints (ys ++ List.replicate (3 - ys.length) 0 ++ [ys.length.toInt32]))) :
    own_Met K M_ref #[.ref a, .ref b] [] h (own_ret fun w h' _ => w = .int (own_cmp xs ys) ∧ h' = h) := by
  have zx := own_lit xs.length (by omega)
  have zy := own_lit ys.length (by omega)
  have w0 : (0 : Int32).toInt = 0 := rfl
  have w1 : (1 : Int32).toInt = 1 := rfl
  have w2 : (2 : Int32).toInt = 2 := rfl
  have g3 := own_fin3
  have gi : ∀ (zs : List Int32) (i : Nat) (z : Int32), zs[i]? = some z → (zs ++ List.replicate (3 - zs.length) 0 ++ [zs.length.toInt32])[i]? = some z := by
    intro zs i z hz
    have hl := (List.getElem?_eq_some_iff.mp hz).1
    rw [List.append_assoc, List.getElem?_append_left hl]
    exact hz
  refine own_met_2_3 (M := M_ref) pn_ref rfl (by first | rfl | exact own_cat (by assumption)) (by first | rfl | exact own_cat (by assumption)) ?_
  refine own_aload_n (pc' := 1) rfl d_ref_0 rfl (by first | rfl | assumption) ?_
  refine own_iconst (v := (3 : Int32)) (pc' := 2) rfl d_ref_1 rfl ?_
  refine own_iaload (pc' := 3) rfl d_ref_2 A (i := 3) rfl (own_ints_get (g3 xs hx)) ?_
  refine own_istore_n2 (pc' := 4) rfl d_ref_3 (by first | exact One.u | exact One.val rfl | assumption | exact One.val (by assumption)) ?_
  refine own_aload_n (pc' := 5) rfl d_ref_4 rfl (by first | rfl | assumption) ?_
  refine own_iconst (v := (3 : Int32)) (pc' := 6) rfl d_ref_5 rfl ?_
  refine own_iaload (pc' := 7) rfl d_ref_6 B (i := 3) rfl (own_ints_get (g3 ys hy)) ?_
  refine own_istore_n3 (pc' := 8) rfl d_ref_7 (by first | exact One.u | exact One.val rfl | assumption | exact One.val (by assumption)) ?_
  refine own_iload_n (pc' := 9) rfl d_ref_8 rfl ?_
  refine own_iload_n (pc' := 10) rfl d_ref_9 rfl ?_
  refine own_static2v (M' := M_mmn) d_ref_10 (pc' := 13) rfl (tw_38 hw) (tw_39 hw) (tw_40 hw) (tw_41 hw) (by decide) rfl (own_lenOf pd_12 rfl) rfl rfl rfl rfl (c_mmn K a0 hw _ _ h) (by simp) ?_
  rintro w h1 xs1 ⟨m, rfl, hm, rfl⟩
  have hm' : m.toInt = min xs.length ys.length := by rcases hm with ⟨z, rfl⟩ | ⟨z, rfl⟩ <;> omega
  refine own_istore_4 (pc' := 15) rfl d_ref_13 (by first | exact One.u | exact One.val rfl | assumption | exact One.val (by assumption)) ?_
  have fin : ∀ sf : List Addr, own_cmp xs ys = own_ic xs.length.toInt32 ys.length.toInt32 → own_WP K M_ref (own_ret fun w h' _ => w = .int (own_cmp xs ys) ∧ h' = h1) 104 [.val (.ref a), .val (.ref b), .val (.int xs.length.toInt32), .val (.int ys.length.toInt32), .val (.int m)] [] sf h1 0 0 := by
    intro sf e
    rw [e]
    refine own_iload_n (pc' := 105) rfl d_ref_104 rfl ?_
    refine own_iload_n (pc' := 106) rfl d_ref_105 rfl ?_
    refine own_icmpge (pcT := 111) (pcF := 109) d_ref_106 (by decide) (by decide) rfl (fun q => ?_) (fun q => ?_)
    · rw [Int32.lt_iff_toInt_lt] at q
      refine own_iload_n (pc' := 112) rfl d_ref_111 rfl ?_
      refine own_iload_n (pc' := 113) rfl d_ref_112 rfl ?_
      refine own_icmple (pcT := 118) (pcF := 116) d_ref_113 (by decide) (by decide) rfl (fun q2 => ?_) (fun q2 => ?_)
      · rw [Int32.lt_iff_toInt_lt] at q2
        refine own_iconst (v := (0 : Int32)) (pc' := 119) rfl d_ref_118 rfl ?_
        refine own_ireturn rfl d_ref_119 rfl rfl ?_
        have e2 : xs.length.toInt32 = ys.length.toInt32 := Int32.toInt_inj.mp (by omega)
        exact ⟨by rw [own_ic, if_pos e2], rfl⟩
      · rw [Int32.lt_iff_toInt_lt] at q2
        refine own_iconst (v := (1 : Int32)) (pc' := 117) rfl d_ref_116 rfl ?_
        refine own_ireturn rfl d_ref_117 rfl rfl ?_
        have e2 : ¬ xs.length.toInt32 = ys.length.toInt32 := fun z => by rw [z] at q2; omega
        exact ⟨by rw [own_ic, if_neg e2, if_neg q], rfl⟩
    · rw [Int32.lt_iff_toInt_lt] at q
      refine own_iconst (v := (-1 : Int32)) (pc' := 110) rfl d_ref_109 rfl ?_
      refine own_ireturn rfl d_ref_110 rfl rfl ?_
      have e2 : ¬ xs.length.toInt32 = ys.length.toInt32 := fun z => by rw [z] at q; omega
      exact ⟨by rw [own_ic, if_neg e2, if_pos q], rfl⟩
  have ecmp := own_ecmp
  have icsh : ∀ us vs : List Int32, us.length < 4 → vs.length < 4 → own_ic us.length.toInt32 vs.length.toInt32 = if us.length = vs.length then 0 else if us.length < vs.length then -1 else 1 := by
    intro us vs h1 h2
    have a1 := own_lit us.length (by omega)
    have a2 := own_lit vs.length (by omega)
    unfold own_ic
    by_cases z : us.length = vs.length
    · rw [if_pos (by rw [z]), if_pos z]
    · rw [if_neg (fun q => z (by have := congrArg Int32.toInt q; omega)), if_neg z]
      by_cases z2 : us.length < vs.length
      · rw [if_pos (by omega), if_pos z2]
      · rw [if_neg (by omega), if_neg z2]
  have stop : ∀ k : Nat, own_cmp xs ys = own_cmp (xs.drop k) (ys.drop k) → min xs.length ys.length ≤ k → k ≤ xs.length → k ≤ ys.length → own_cmp xs ys = own_ic xs.length.toInt32 ys.length.toInt32 := by
    intro k e h1 h2 h3
    rw [e, ecmp _ _ (by rw [List.length_drop]; omega) (by rw [List.length_drop]; omega) (by
      rcases Nat.lt_or_ge k xs.length with z | z
      · exact Or.inr (List.drop_eq_nil_of_le (by omega))
      · exact Or.inl (List.drop_eq_nil_of_le z)), icsh _ _ (by rw [List.length_drop]; omega) (by rw [List.length_drop]; omega), icsh _ _ (by omega) (by omega), List.length_drop, List.length_drop]
    by_cases z : xs.length = ys.length
    · rw [if_pos (by omega), if_pos z]
    · rw [if_neg (by omega), if_neg z]
      by_cases z2 : xs.length < ys.length
      · rw [if_pos (by omega), if_pos z2]
      · rw [if_neg (by omega), if_neg z2]
  have k104 : ∀ sf : List Addr, own_cmp xs ys = own_cmp (xs.drop 3) (ys.drop 3) → 3 ≤ xs.length → 3 ≤ ys.length → own_WP K M_ref (own_ret fun w h' _ => w = .int (own_cmp xs ys) ∧ h' = h1) 104 [.val (.ref a), .val (.ref b), .val (.int xs.length.toInt32), .val (.int ys.length.toInt32), .val (.int m)] [] sf h1 0 0 := fun sf e h2 h3 => fin sf (stop 3 e (by omega) h2 h3)
  have k74 : ∀ sf : List Addr, own_cmp xs ys = own_cmp (xs.drop 2) (ys.drop 2) → 2 ≤ xs.length → 2 ≤ ys.length → own_WP K M_ref (own_ret fun w h' _ => w = .int (own_cmp xs ys) ∧ h' = h1) 74 [.val (.ref a), .val (.ref b), .val (.int xs.length.toInt32), .val (.int ys.length.toInt32), .val (.int m)] [] sf h1 0 0 := by
    intro sf e h2 h3
    refine own_iload (pc' := 76) rfl d_ref_74 rfl ?_
    refine own_iconst (v := (2 : Int32)) (pc' := 77) rfl d_ref_76 rfl ?_
    refine own_icmple (pcT := 104) (pcF := 80) d_ref_77 (by decide) (by decide) rfl (fun q => ?_) (fun q => ?_)
    · rw [Int32.lt_iff_toInt_lt] at q
      have hst := stop 2 e (by omega) h2 h3
      exact fin _ hst
    rw [Int32.lt_iff_toInt_lt] at q
    obtain ⟨x, hxk⟩ : ∃ x, xs[2]? = some x := ⟨xs[2]'(by omega), by simp [show 2 < xs.length by omega]⟩
    obtain ⟨y, hyk⟩ : ∃ y, ys[2]? = some y := ⟨ys[2]'(by omega), by simp [show 2 < ys.length by omega]⟩
    have ex := own_drop_cons hxk
    have ey := own_drop_cons hyk
    refine own_aload_n (pc' := 81) rfl d_ref_80 rfl (by first | rfl | assumption) ?_
    refine own_iconst (v := (2 : Int32)) (pc' := 82) rfl d_ref_81 rfl ?_
    refine own_iaload (pc' := 83) rfl d_ref_82 A (i := 2) rfl (own_ints_get (gi xs 2 x hxk)) ?_
    refine own_aload_n (pc' := 84) rfl d_ref_83 rfl (by first | rfl | assumption) ?_
    refine own_iconst (v := (2 : Int32)) (pc' := 85) rfl d_ref_84 rfl ?_
    refine own_iaload (pc' := 86) rfl d_ref_85 B (i := 2) rfl (own_ints_get (gi ys 2 y hyk)) ?_
    refine own_icmpeq (pcT := 104) (pcF := 89) d_ref_86 (by decide) (by decide) rfl (fun z => ?_) (fun z => ?_)
    · refine k104 _ ?_ (by omega) (by omega)
      rw [e, ex, ey, z]
      simp [own_cmp]
    · have er : own_cmp xs ys = own_ic x y := by rw [e, ex, ey]; exact own_cmp2 z
      refine own_aload_n (pc' := 90) rfl d_ref_89 rfl (by first | rfl | assumption) ?_
      refine own_iconst (v := (2 : Int32)) (pc' := 91) rfl d_ref_90 rfl ?_
      refine own_iaload (pc' := 92) rfl d_ref_91 A (i := 2) rfl (own_ints_get (gi xs 2 x hxk)) ?_
      refine own_aload_n (pc' := 93) rfl d_ref_92 rfl (by first | rfl | assumption) ?_
      refine own_iconst (v := (2 : Int32)) (pc' := 94) rfl d_ref_93 rfl ?_
      refine own_iaload (pc' := 95) rfl d_ref_94 B (i := 2) rfl (own_ints_get (gi ys 2 y hyk)) ?_
      refine own_icmpge (pcT := 102) (pcF := 98) d_ref_95 (by decide) (by decide) rfl (fun z2 => ?_) (fun z2 => ?_)
      · rw [Int32.lt_iff_toInt_lt] at z2
        refine own_iconst (v := (1 : Int32)) (pc' := 103) rfl d_ref_102 rfl ?_
        refine own_ireturn rfl d_ref_103 rfl rfl ?_
        exact ⟨by rw [er, own_ic, if_neg z, if_neg z2], rfl⟩
      · rw [Int32.lt_iff_toInt_lt] at z2
        refine own_iconst (v := (-1 : Int32)) (pc' := 99) rfl d_ref_98 rfl ?_
        refine own_goto (pc' := 103) d_ref_99 (by decide) (by decide) ?_
        refine own_ireturn rfl d_ref_103 rfl rfl ?_
        exact ⟨by rw [er, own_ic, if_neg z, if_pos z2], rfl⟩
  have k44 : ∀ sf : List Addr, own_cmp xs ys = own_cmp (xs.drop 1) (ys.drop 1) → 1 ≤ xs.length → 1 ≤ ys.length → own_WP K M_ref (own_ret fun w h' _ => w = .int (own_cmp xs ys) ∧ h' = h1) 44 [.val (.ref a), .val (.ref b), .val (.int xs.length.toInt32), .val (.int ys.length.toInt32), .val (.int m)] [] sf h1 0 0 := by
    intro sf e h2 h3
    refine own_iload (pc' := 46) rfl d_ref_44 rfl ?_
    refine own_iconst (v := (1 : Int32)) (pc' := 47) rfl d_ref_46 rfl ?_
    refine own_icmple (pcT := 74) (pcF := 50) d_ref_47 (by decide) (by decide) rfl (fun q => ?_) (fun q => ?_)
    · rw [Int32.lt_iff_toInt_lt] at q
      have hst := stop 1 e (by omega) h2 h3
      refine own_iload (pc' := 76) rfl d_ref_74 rfl ?_
      refine own_iconst (v := (2 : Int32)) (pc' := 77) rfl d_ref_76 rfl ?_
      refine own_icmple (pcT := 104) (pcF := 80) d_ref_77 (by decide) (by decide) rfl (fun y2 => ?_) (fun y2 => ?_)
      rotate_left 1
      · rw [Int32.lt_iff_toInt_lt] at y2
        omega
      exact fin _ hst
    rw [Int32.lt_iff_toInt_lt] at q
    obtain ⟨x, hxk⟩ : ∃ x, xs[1]? = some x := ⟨xs[1]'(by omega), by simp [show 1 < xs.length by omega]⟩
    obtain ⟨y, hyk⟩ : ∃ y, ys[1]? = some y := ⟨ys[1]'(by omega), by simp [show 1 < ys.length by omega]⟩
    have ex := own_drop_cons hxk
    have ey := own_drop_cons hyk
    refine own_aload_n (pc' := 51) rfl d_ref_50 rfl (by first | rfl | assumption) ?_
    refine own_iconst (v := (1 : Int32)) (pc' := 52) rfl d_ref_51 rfl ?_
    refine own_iaload (pc' := 53) rfl d_ref_52 A (i := 1) rfl (own_ints_get (gi xs 1 x hxk)) ?_
    refine own_aload_n (pc' := 54) rfl d_ref_53 rfl (by first | rfl | assumption) ?_
    refine own_iconst (v := (1 : Int32)) (pc' := 55) rfl d_ref_54 rfl ?_
    refine own_iaload (pc' := 56) rfl d_ref_55 B (i := 1) rfl (own_ints_get (gi ys 1 y hyk)) ?_
    refine own_icmpeq (pcT := 74) (pcF := 59) d_ref_56 (by decide) (by decide) rfl (fun z => ?_) (fun z => ?_)
    · refine k74 _ ?_ (by omega) (by omega)
      rw [e, ex, ey, z]
      simp [own_cmp]
    · have er : own_cmp xs ys = own_ic x y := by rw [e, ex, ey]; exact own_cmp2 z
      refine own_aload_n (pc' := 60) rfl d_ref_59 rfl (by first | rfl | assumption) ?_
      refine own_iconst (v := (1 : Int32)) (pc' := 61) rfl d_ref_60 rfl ?_
      refine own_iaload (pc' := 62) rfl d_ref_61 A (i := 1) rfl (own_ints_get (gi xs 1 x hxk)) ?_
      refine own_aload_n (pc' := 63) rfl d_ref_62 rfl (by first | rfl | assumption) ?_
      refine own_iconst (v := (1 : Int32)) (pc' := 64) rfl d_ref_63 rfl ?_
      refine own_iaload (pc' := 65) rfl d_ref_64 B (i := 1) rfl (own_ints_get (gi ys 1 y hyk)) ?_
      refine own_icmpge (pcT := 72) (pcF := 68) d_ref_65 (by decide) (by decide) rfl (fun z2 => ?_) (fun z2 => ?_)
      · rw [Int32.lt_iff_toInt_lt] at z2
        refine own_iconst (v := (1 : Int32)) (pc' := 73) rfl d_ref_72 rfl ?_
        refine own_ireturn rfl d_ref_73 rfl rfl ?_
        exact ⟨by rw [er, own_ic, if_neg z, if_neg z2], rfl⟩
      · rw [Int32.lt_iff_toInt_lt] at z2
        refine own_iconst (v := (-1 : Int32)) (pc' := 69) rfl d_ref_68 rfl ?_
        refine own_goto (pc' := 73) d_ref_69 (by decide) (by decide) ?_
        refine own_ireturn rfl d_ref_73 rfl rfl ?_
        exact ⟨by rw [er, own_ic, if_neg z, if_pos z2], rfl⟩
  have k15 : ∀ sf : List Addr, own_cmp xs ys = own_cmp (xs.drop 0) (ys.drop 0) → 0 ≤ xs.length → 0 ≤ ys.length → own_WP K M_ref (own_ret fun w h' _ => w = .int (own_cmp xs ys) ∧ h' = h1) 15 [.val (.ref a), .val (.ref b), .val (.int xs.length.toInt32), .val (.int ys.length.toInt32), .val (.int m)] [] sf h1 0 0 := by
    intro sf e h2 h3
    refine own_iload (pc' := 17) rfl d_ref_15 rfl ?_
    refine own_ifle (pcT := 44) (pcF := 20) d_ref_17 (by decide) (by decide) rfl (fun q => ?_) (fun q => ?_)
    · rw [Int32.lt_iff_toInt_lt] at q
      have hst := stop 0 e (by omega) h2 h3
      refine own_iload (pc' := 46) rfl d_ref_44 rfl ?_
      refine own_iconst (v := (1 : Int32)) (pc' := 47) rfl d_ref_46 rfl ?_
      refine own_icmple (pcT := 74) (pcF := 50) d_ref_47 (by decide) (by decide) rfl (fun y1 => ?_) (fun y1 => ?_)
      rotate_left 1
      · rw [Int32.lt_iff_toInt_lt] at y1
        omega
      refine own_iload (pc' := 76) rfl d_ref_74 rfl ?_
      refine own_iconst (v := (2 : Int32)) (pc' := 77) rfl d_ref_76 rfl ?_
      refine own_icmple (pcT := 104) (pcF := 80) d_ref_77 (by decide) (by decide) rfl (fun y2 => ?_) (fun y2 => ?_)
      rotate_left 1
      · rw [Int32.lt_iff_toInt_lt] at y2
        omega
      exact fin _ hst
    rw [Int32.lt_iff_toInt_lt] at q
    obtain ⟨x, hxk⟩ : ∃ x, xs[0]? = some x := ⟨xs[0]'(by omega), by simp [show 0 < xs.length by omega]⟩
    obtain ⟨y, hyk⟩ : ∃ y, ys[0]? = some y := ⟨ys[0]'(by omega), by simp [show 0 < ys.length by omega]⟩
    have ex := own_drop_cons hxk
    have ey := own_drop_cons hyk
    refine own_aload_n (pc' := 21) rfl d_ref_20 rfl (by first | rfl | assumption) ?_
    refine own_iconst (v := (0 : Int32)) (pc' := 22) rfl d_ref_21 rfl ?_
    refine own_iaload (pc' := 23) rfl d_ref_22 A (i := 0) rfl (own_ints_get (gi xs 0 x hxk)) ?_
    refine own_aload_n (pc' := 24) rfl d_ref_23 rfl (by first | rfl | assumption) ?_
    refine own_iconst (v := (0 : Int32)) (pc' := 25) rfl d_ref_24 rfl ?_
    refine own_iaload (pc' := 26) rfl d_ref_25 B (i := 0) rfl (own_ints_get (gi ys 0 y hyk)) ?_
    refine own_icmpeq (pcT := 44) (pcF := 29) d_ref_26 (by decide) (by decide) rfl (fun z => ?_) (fun z => ?_)
    · refine k44 _ ?_ (by omega) (by omega)
      rw [e, ex, ey, z]
      simp [own_cmp]
    · have er : own_cmp xs ys = own_ic x y := by rw [e, ex, ey]; exact own_cmp2 z
      refine own_aload_n (pc' := 30) rfl d_ref_29 rfl (by first | rfl | assumption) ?_
      refine own_iconst (v := (0 : Int32)) (pc' := 31) rfl d_ref_30 rfl ?_
      refine own_iaload (pc' := 32) rfl d_ref_31 A (i := 0) rfl (own_ints_get (gi xs 0 x hxk)) ?_
      refine own_aload_n (pc' := 33) rfl d_ref_32 rfl (by first | rfl | assumption) ?_
      refine own_iconst (v := (0 : Int32)) (pc' := 34) rfl d_ref_33 rfl ?_
      refine own_iaload (pc' := 35) rfl d_ref_34 B (i := 0) rfl (own_ints_get (gi ys 0 y hyk)) ?_
      refine own_icmpge (pcT := 42) (pcF := 38) d_ref_35 (by decide) (by decide) rfl (fun z2 => ?_) (fun z2 => ?_)
      · rw [Int32.lt_iff_toInt_lt] at z2
        refine own_iconst (v := (1 : Int32)) (pc' := 43) rfl d_ref_42 rfl ?_
        refine own_ireturn rfl d_ref_43 rfl rfl ?_
        exact ⟨by rw [er, own_ic, if_neg z, if_neg z2], rfl⟩
      · rw [Int32.lt_iff_toInt_lt] at z2
        refine own_iconst (v := (-1 : Int32)) (pc' := 39) rfl d_ref_38 rfl ?_
        refine own_goto (pc' := 43) d_ref_39 (by decide) (by decide) ?_
        refine own_ireturn rfl d_ref_43 rfl rfl ?_
        exact ⟨by rw [er, own_ic, if_neg z, if_pos z2], rfl⟩
  exact own_weak (k15 _ rfl (Nat.zero_le _) (Nat.zero_le _)) (fun x hx => hx) (by exact Nat.le_of_ble_eq_true rfl) (by exact Nat.le_of_ble_eq_true rfl)
theorem d_tcp_0 : decode jdk_89_method_19_code 0 = .ok (.iload_n 0, 1) := by decide +kernel
theorem d_tcp_1 : decode jdk_89_method_19_code 1 = .ok (.bipush 10, 2) := by decide +kernel
theorem d_tcp_3 : decode jdk_89_method_19_code 3 = .ok (.ishl, 1) := by decide +kernel
theorem d_tcp_4 : decode jdk_89_method_19_code 4 = .ok (.iload_n 1, 1) := by decide +kernel
theorem d_tcp_5 : decode jdk_89_method_19_code 5 = .ok (.iadd, 1) := by decide +kernel
theorem d_tcp_6 : decode jdk_89_method_19_code 6 = .ok (.ldc 85, 2) := by decide +kernel
theorem d_tcp_8 : decode jdk_89_method_19_code 8 = .ok (.iadd, 1) := by decide +kernel
theorem d_tcp_9 : decode jdk_89_method_19_code 9 = .ok (.ireturn, 1) := by decide +kernel
abbrev M_tcp : own_Mi := ((⟨"java/lang/Character", "toCodePoint", "(CC)I"⟩ : MethodName), jdk_89_method_19_code, 2, (Option.some FieldType.int), ({ frames := 0, cells := 0, slots := 0, locals := 0 } : Room))
theorem pn_tcp : plainFor (own_Mi.y M_tcp) = true := plainFor_of_name (by first | (simp [plainName, overriddenIn]; done) | decide +kernel)
set_option maxRecDepth 65536 in
set_option maxHeartbeats 40000000 in
theorem c_tcp (K : own_Cx) (a0 : Array Value) (hw : ∀ d ∈ tables_1, d.before a0 K.Z = true) (x y : Int32) (h : Heap) (hx : own_hi x = true) (hy : own_lo y = true) :
    own_Met K M_tcp #[.int x, .int y] [] h (own_ret fun w h' _ => w = .int (own_cpi x y) ∧ h' = h) := by
  refine own_met_2_0 (M := M_tcp) pn_tcp rfl (by first | rfl | exact own_cat (by assumption)) (by first | rfl | exact own_cat (by assumption)) ?_
  refine own_iload_n (pc' := 1) rfl d_tcp_0 rfl ?_
  refine own_bipush (v := (10 : Int32)) (pc' := 3) rfl d_tcp_1 rfl ?_
  refine own_ishl (pc' := 4) rfl d_tcp_3 ?_
  refine own_iload_n (pc' := 5) rfl d_tcp_4 rfl ?_
  refine own_iadd (pc' := 6) rfl d_tcp_5 ?_
  refine own_ldcI (pc' := 8) rfl d_tcp_6 (tw_135 hw) ?_
  refine own_iadd (pc' := 9) rfl d_tcp_8 ?_
  rw [own_tcp hx hy]
  refine own_ireturn rfl d_tcp_9 rfl rfl ?_
  exact ⟨rfl, rfl⟩
theorem d_chc_0 : decode jdk_89_method_18_code 0 = .ok (.iload_n 0, 1) := by decide +kernel
theorem d_chc_1 : decode jdk_89_method_18_code 1 = .ok (.ldc 73, 2) := by decide +kernel
theorem d_chc_3 : decode jdk_89_method_18_code 3 = .ok (.if_icmp .lt 7, 3) := by decide +kernel
theorem d_chc_6 : decode jdk_89_method_18_code 6 = .ok (.iconst 2, 1) := by decide +kernel
theorem d_chc_7 : decode jdk_89_method_18_code 7 = .ok (.goto 4, 3) := by decide +kernel
theorem d_chc_10 : decode jdk_89_method_18_code 10 = .ok (.iconst 1, 1) := by decide +kernel
theorem d_chc_11 : decode jdk_89_method_18_code 11 = .ok (.ireturn, 1) := by decide +kernel
abbrev M_chc : own_Mi := ((⟨"java/lang/Character", "charCount", "(I)I"⟩ : MethodName), jdk_89_method_18_code, 1, (Option.some FieldType.int), ({ frames := 0, cells := 0, slots := 0, locals := 0 } : Room))
theorem pn_chc : plainFor (own_Mi.y M_chc) = true := plainFor_of_name (by first | (simp [plainName, overriddenIn]; done) | decide +kernel)
set_option maxRecDepth 65536 in
set_option maxHeartbeats 40000000 in
theorem c_chc (K : own_Cx) (a0 : Array Value) (hw : ∀ d ∈ tables_1, d.before a0 K.Z = true) (x : Int32) (h : Heap) :
    own_Met K M_chc #[.int x] [] h (own_ret fun w h' _ => w = .int (if x.toInt < 65536 then 1 else 2) ∧ h' = h) := by
  have w6 : (65536 : Int32).toInt = 65536 := rfl
  refine own_met_1_0 (M := M_chc) pn_chc rfl (by first | rfl | exact own_cat (by assumption)) ?_
  refine own_iload_n (pc' := 1) rfl d_chc_0 rfl ?_
  refine own_ldcI (pc' := 3) rfl d_chc_1 (tw_139 hw) ?_
  refine own_icmplt (pcT := 10) (pcF := 6) d_chc_3 (by decide) (by decide) rfl (fun q => ?_) (fun q => ?_)
  · rw [Int32.lt_iff_toInt_lt, w6] at q
    refine own_iconst (v := (1 : Int32)) (pc' := 11) rfl d_chc_10 rfl ?_
    refine own_ireturn rfl d_chc_11 rfl rfl ?_
    exact ⟨by rw [if_pos q], rfl⟩
  · rw [Int32.lt_iff_toInt_lt, w6] at q
    refine own_iconst (v := (2 : Int32)) (pc' := 7) rfl d_chc_6 rfl ?_
    refine own_goto (pc' := 11) d_chc_7 (by decide) (by decide) ?_
    refine own_ireturn rfl d_chc_11 rfl rfl ?_
    exact ⟨by rw [if_neg q], rfl⟩
theorem d_ua4_0 : decode jdk_52_method_7_code 0 = .ok (.getstatic 44, 3) := by decide +kernel
theorem d_ua4_3 : decode jdk_52_method_7_code 3 = .ok (.ifCond .ne 16, 3) := by decide +kernel
theorem d_ua4_19 : decode jdk_52_method_7_code 19 = .ok (.iload_n 3, 1) := by decide +kernel
theorem d_ua4_20 : decode jdk_52_method_7_code 20 = .ok (.ifCond .eq 8, 3) := by decide +kernel
theorem d_ua4_28 : decode jdk_52_method_7_code 28 = .ok (.aload_n 0, 1) := by decide +kernel
theorem d_ua4_29 : decode jdk_52_method_7_code 29 = .ok (.iload_n 1, 1) := by decide +kernel
theorem d_ua4_30 : decode jdk_52_method_7_code 30 = .ok (.invokestatic 71, 3) := by decide +kernel
theorem d_ua4_33 : decode jdk_52_method_7_code 33 = .ok (.istore 4, 2) := by decide +kernel
theorem d_ua4_35 : decode jdk_52_method_7_code 35 = .ok (.iload 4, 2) := by decide +kernel
theorem d_ua4_37 : decode jdk_52_method_7_code 37 = .ok (.invokestatic 75, 3) := by decide +kernel
theorem d_ua4_40 : decode jdk_52_method_7_code 40 = .ok (.ifCond .eq 43, 3) := by decide +kernel
theorem d_ua4_43 : decode jdk_52_method_7_code 43 = .ok (.iinc 1 1, 3) := by decide +kernel
theorem d_ua4_46 : decode jdk_52_method_7_code 46 = .ok (.iload_n 1, 1) := by decide +kernel
theorem d_ua4_47 : decode jdk_52_method_7_code 47 = .ok (.iload_n 2, 1) := by decide +kernel
theorem d_ua4_48 : decode jdk_52_method_7_code 48 = .ok (.if_icmp .ge 35, 3) := by decide +kernel
theorem d_ua4_51 : decode jdk_52_method_7_code 51 = .ok (.iload_n 3, 1) := by decide +kernel
theorem d_ua4_52 : decode jdk_52_method_7_code 52 = .ok (.ifCond .eq 8, 3) := by decide +kernel
theorem d_ua4_60 : decode jdk_52_method_7_code 60 = .ok (.aload_n 0, 1) := by decide +kernel
theorem d_ua4_61 : decode jdk_52_method_7_code 61 = .ok (.iload_n 1, 1) := by decide +kernel
theorem d_ua4_62 : decode jdk_52_method_7_code 62 = .ok (.invokestatic 71, 3) := by decide +kernel
theorem d_ua4_65 : decode jdk_52_method_7_code 65 = .ok (.istore 5, 2) := by decide +kernel
theorem d_ua4_67 : decode jdk_52_method_7_code 67 = .ok (.iload 5, 2) := by decide +kernel
theorem d_ua4_69 : decode jdk_52_method_7_code 69 = .ok (.invokestatic 81, 3) := by decide +kernel
theorem d_ua4_72 : decode jdk_52_method_7_code 72 = .ok (.ifCond .eq 11, 3) := by decide +kernel
theorem d_ua4_75 : decode jdk_52_method_7_code 75 = .ok (.iload 4, 2) := by decide +kernel
theorem d_ua4_77 : decode jdk_52_method_7_code 77 = .ok (.iload 5, 2) := by decide +kernel
theorem d_ua4_79 : decode jdk_52_method_7_code 79 = .ok (.invokestatic 84, 3) := by decide +kernel
theorem d_ua4_82 : decode jdk_52_method_7_code 82 = .ok (.ireturn, 1) := by decide +kernel
theorem d_ua4_83 : decode jdk_52_method_7_code 83 = .ok (.iload 4, 2) := by decide +kernel
theorem d_ua4_85 : decode jdk_52_method_7_code 85 = .ok (.ireturn, 1) := by decide +kernel
abbrev M_ua4 : own_Mi := ((⟨"java/lang/StringUTF16", "codePointAt", "([BIIZ)I"⟩ : MethodName), jdk_52_method_7_code, 6, (Option.some FieldType.int), ({ frames := 1, cells := 0, slots := 0, locals := 13 } : Room))
theorem pn_ua4 : plainFor (own_Mi.y M_ua4) = true := plainFor_of_name (by first | (simp [plainName, overriddenIn]; done) | decide +kernel)
set_option maxRecDepth 65536 in
set_option maxHeartbeats 40000000 in
theorem c_ua4 (K : own_Cx) (a0 : Array Value) (hw : ∀ d ∈ tables_1, d.before a0 K.Z = true) (hU : own_U16 K) (b : Addr) (cs : List Int32) (i n : Int32) (I : Nat) (h : Heap) (hcs : own_Chs cs) (hl : cs.length < 2 ^ 29) (hn : n.toInt = cs.length) (hi : i.toInt = I) (hI : I < cs.length) (B : own_Ary K.Z h b .byte (own_ints (own_two cs))) :
    own_Met K M_ua4 #[.ref b, .int i, .int n, .int 0] [] h (own_ret fun w h' _ => w = .int (own_c1 (cs.drop I)).1 ∧ h' = h) := by
  have hU' := hU
  obtain ⟨u1, u2, u3⟩ := hU
  have v1 : (1 : Int32).toInt = 1 := rfl
  obtain ⟨c, hc⟩ : ∃ c, cs[I]? = some c := ⟨cs[I], by simp [hI]⟩
  have e1 := own_drop_cons hc
  have hi1 : (i + 1).toInt = ((I + 1 : Nat) : Int) := by rw [own_add hi v1] <;> omega
  refine own_met_4_2 (M := M_ua4) pn_ua4 rfl (by first | rfl | exact own_cat (by assumption)) (by first | rfl | exact own_cat (by assumption)) (by first | rfl | exact own_cat (by assumption)) (by first | rfl | exact own_cat (by assumption)) ?_
  refine own_getS (pc' := 3) rfl d_ua4_0 (tw_82 hw) Via.refl (by assumption) ?_
  refine own_ifne (pcT := 19) (pcF := 6) d_ua4_3 (by decide) (by decide) rfl (fun q => ?_) (fun q => ?_)
  rotate_left 1
  · exact absurd q (by decide)
  refine own_iload_n (pc' := 20) rfl d_ua4_19 rfl ?_
  refine own_ifeq (pcT := 28) (pcF := 23) d_ua4_20 (by decide) (by decide) rfl (fun q1 => ?_) (fun q1 => ?_)
  rotate_left 1
  · exact absurd rfl q1
  refine own_aload_n (pc' := 29) rfl d_ua4_28 rfl (by first | rfl | assumption) ?_
  refine own_iload_n (pc' := 30) rfl d_ua4_29 rfl ?_
  refine own_static2v (M' := M_gc) d_ua4_30 (pc' := 33) rfl (tw_85 hw) (tw_86 hw) (tw_64 hw) (tw_87 hw) (by decide) rfl (own_lenOf pd_5 rfl) rfl rfl rfl rfl (c_gc K a0 hw hU' b i I c cs h hi hc (by omega) hcs B) (by simp) ?_
  rintro w h1 xs1 ⟨rfl, rfl⟩
  refine own_istore_4 (pc' := 35) rfl d_ua4_33 (by first | exact One.u | exact One.val rfl | assumption | exact One.val (by assumption)) ?_
  refine own_iload (pc' := 37) rfl d_ua4_35 rfl ?_
  have ret : ∀ (j : Int32) (o : Slot) (sf : List Addr), (own_c1 (cs.drop I)).1 = c → own_WP K M_ua4 (own_ret fun w h' _ => w = .int (own_c1 (cs.drop I)).1 ∧ h' = h1) 83 [.val (.ref b), .val (.int j), .val (.int n), .val (.int 0), .val (.int c), o] [] sf h1 0 0 := by
    intro j o sf q
    refine own_iload (pc' := 85) rfl d_ua4_83 rfl ?_
    refine own_ireturn rfl d_ua4_85 rfl rfl ?_
    exact ⟨by rw [q], rfl⟩
  refine own_static1v (M' := M_chs) d_ua4_37 (pc' := 40) rfl (tw_122 hw) (tw_123 hw) (tw_124 hw) (tw_125 hw) (by decide) rfl (own_lenOf pd_13 rfl) rfl rfl rfl rfl (c_chs K a0 hw c _) (by simp) ?_
  rintro w h2 xs2 ⟨rfl, rfl⟩
  cases qh : own_hi c
  · skip
    refine own_ifeq (pcT := 83) (pcF := 43) d_ua4_40 (by decide) (by decide) rfl (fun q3 => ?_) (fun q3 => ?_)
    · exact own_weak (ret _ _ _ (own_c1_one e1 (Or.inl qh))) (fun x hx => hx) (by exact Nat.le_of_ble_eq_true rfl) (by exact Nat.le_of_ble_eq_true rfl)
    · exact absurd (by simp) q3
  · skip
    refine own_ifeq (pcT := 83) (pcF := 43) d_ua4_40 (by decide) (by decide) rfl (fun q3 => ?_) (fun q3 => ?_)
    · exact absurd q3 (by simp)
    refine own_iinc_1 (z := (1 : Int32)) (pc' := 46) rfl d_ua4_43 rfl ?_
    refine own_iload_n (pc' := 47) rfl d_ua4_46 rfl ?_
    refine own_iload_n (pc' := 48) rfl d_ua4_47 rfl ?_
    refine own_icmpge (pcT := 83) (pcF := 51) d_ua4_48 (by decide) (by decide) rfl (fun q4 => ?_) (fun q4 => ?_)
    · rw [Int32.lt_iff_toInt_lt] at q4
      refine own_weak (ret _ _ _ (own_c1_one e1 (Or.inr fun d r' e => ?_))) (fun x hx => hx) (by exact Nat.le_of_ble_eq_true rfl) (by exact Nat.le_of_ble_eq_true rfl)
      have : cs.drop (I + 1) = [] := List.drop_eq_nil_of_le (by omega)
      rw [this] at e
      cases e
    rw [Int32.lt_iff_toInt_lt] at q4
    obtain ⟨d, hd⟩ : ∃ d, cs[I + 1]? = some d := ⟨cs[I + 1]'(by omega), by simp [show I + 1 < cs.length by omega]⟩
    have e2 := own_drop_cons hd
    refine own_iload_n (pc' := 52) rfl d_ua4_51 rfl ?_
    refine own_ifeq (pcT := 60) (pcF := 55) d_ua4_52 (by decide) (by decide) rfl (fun q5 => ?_) (fun q5 => ?_)
    rotate_left 1
    · exact absurd rfl q5
    refine own_aload_n (pc' := 61) rfl d_ua4_60 rfl (by first | rfl | assumption) ?_
    refine own_iload_n (pc' := 62) rfl d_ua4_61 rfl ?_
    refine own_static2v (M' := M_gc) d_ua4_62 (pc' := 65) rfl (tw_85 hw) (tw_86 hw) (tw_64 hw) (tw_87 hw) (by decide) rfl (own_lenOf pd_5 rfl) rfl rfl rfl rfl (c_gc K a0 hw hU' b (i + 1) (I + 1) d cs _ hi1 hd (by omega) hcs B) (by simp) ?_
    rintro w h3 xs3 ⟨rfl, rfl⟩
    refine own_istore_5 (pc' := 67) rfl d_ua4_65 (by first | exact One.u | exact One.val rfl | assumption | exact One.val (by assumption)) ?_
    refine own_iload (pc' := 69) rfl d_ua4_67 rfl ?_
    refine own_static1v (M' := M_cls) d_ua4_69 (pc' := 72) rfl (tw_128 hw) (tw_129 hw) (tw_124 hw) (tw_130 hw) (by decide) rfl (own_lenOf pd_13 rfl) rfl rfl rfl rfl (c_cls K a0 hw d _) (by simp) ?_
    rintro w h4 xs4 ⟨rfl, rfl⟩
    cases qd : own_lo d
    · skip
      refine own_ifeq (pcT := 83) (pcF := 75) d_ua4_72 (by decide) (by decide) rfl (fun q6 => ?_) (fun q6 => ?_)
      · refine own_weak (ret _ _ _ (own_c1_one e1 (Or.inr fun d' r' e => ?_))) (fun x hx => hx) (by exact Nat.le_of_ble_eq_true rfl) (by exact Nat.le_of_ble_eq_true rfl)
        rw [e2] at e
        cases e
        exact qd
      · exact absurd (by simp) q6
    · skip
      refine own_ifeq (pcT := 83) (pcF := 75) d_ua4_72 (by decide) (by decide) rfl (fun q6 => ?_) (fun q6 => ?_)
      · exact absurd q6 (by simp)
      refine own_iload (pc' := 77) rfl d_ua4_75 rfl ?_
      refine own_iload (pc' := 79) rfl d_ua4_77 rfl ?_
      refine own_static2v (M' := M_tcp) d_ua4_79 (pc' := 82) rfl (tw_132 hw) (tw_133 hw) (tw_124 hw) (tw_134 hw) (by decide) rfl (own_lenOf pd_14 rfl) rfl rfl rfl rfl (c_tcp K a0 hw c d _ qh qd) (by simp) ?_
      rintro w h5 xs5 ⟨rfl, rfl⟩
      refine own_ireturn rfl d_ua4_82 rfl rfl ?_
      exact ⟨by rw [own_c1_two (e1.trans (by rw [e2])) qh qd], rfl⟩
theorem d_ua3_0 : decode jdk_52_method_8_code 0 = .ok (.aload_n 0, 1) := by decide +kernel
theorem d_ua3_1 : decode jdk_52_method_8_code 1 = .ok (.iload_n 1, 1) := by decide +kernel
theorem d_ua3_2 : decode jdk_52_method_8_code 2 = .ok (.iload_n 2, 1) := by decide +kernel
theorem d_ua3_3 : decode jdk_52_method_8_code 3 = .ok (.iconst 0, 1) := by decide +kernel
theorem d_ua3_4 : decode jdk_52_method_8_code 4 = .ok (.invokestatic 88, 3) := by decide +kernel
theorem d_ua3_7 : decode jdk_52_method_8_code 7 = .ok (.ireturn, 1) := by decide +kernel
abbrev M_ua3 : own_Mi := ((⟨"java/lang/StringUTF16", "codePointAt", "([BII)I"⟩ : MethodName), jdk_52_method_8_code, 3, (Option.some FieldType.int), ({ frames := 2, cells := 0, slots := 0, locals := 30 } : Room))
theorem pn_ua3 : plainFor (own_Mi.y M_ua3) = true := plainFor_of_name (by first | (simp [plainName, overriddenIn]; done) | decide +kernel)
set_option maxRecDepth 65536 in
set_option maxHeartbeats 40000000 in
theorem c_ua3 (K : own_Cx) (a0 : Array Value) (hw : ∀ d ∈ tables_1, d.before a0 K.Z = true) (hU : own_U16 K) (b : Addr) (cs : List Int32) (i n : Int32) (I : Nat) (h : Heap) (hcs : own_Chs cs) (hl : cs.length < 2 ^ 29) (hn : n.toInt = cs.length) (hi : i.toInt = I) (hI : I < cs.length) (B : own_Ary K.Z h b .byte (own_ints (own_two cs))) :
    own_Met K M_ua3 #[.ref b, .int i, .int n] [] h (own_ret fun w h' _ => w = .int (own_c1 (cs.drop I)).1 ∧ h' = h) := by
  refine own_met_3_0 (M := M_ua3) pn_ua3 rfl (by first | rfl | exact own_cat (by assumption)) (by first | rfl | exact own_cat (by assumption)) (by first | rfl | exact own_cat (by assumption)) ?_
  refine own_aload_n (pc' := 1) rfl d_ua3_0 rfl (by first | rfl | assumption) ?_
  refine own_iload_n (pc' := 2) rfl d_ua3_1 rfl ?_
  refine own_iload_n (pc' := 3) rfl d_ua3_2 rfl ?_
  refine own_iconst (v := (0 : Int32)) (pc' := 4) rfl d_ua3_3 rfl ?_
  refine own_static4v (M' := M_ua4) d_ua3_4 (pc' := 7) rfl (tw_119 hw) (tw_120 hw) (tw_64 hw) (tw_121 hw) (by decide) rfl (own_lenOf pd_15 rfl) rfl rfl rfl rfl (c_ua4 K a0 hw hU b cs i n I h hcs hl hn hi hI B) (by simp) ?_
  rintro w h1 xs1 ⟨rfl, rfl⟩
  refine own_ireturn rfl d_ua3_7 rfl rfl ?_
  exact ⟨rfl, rfl⟩
theorem d_sat_0 : decode jdk_42_method_57_code 0 = .ok (.aload_n 0, 1) := by decide +kernel
theorem d_sat_1 : decode jdk_42_method_57_code 1 = .ok (.invokevirtual 492, 3) := by decide +kernel
theorem d_sat_4 : decode jdk_42_method_57_code 4 = .ok (.ifCond .eq 23, 3) := by decide +kernel
theorem d_sat_7 : decode jdk_42_method_57_code 7 = .ok (.iload_n 1, 1) := by decide +kernel
theorem d_sat_8 : decode jdk_42_method_57_code 8 = .ok (.aload_n 0, 1) := by decide +kernel
theorem d_sat_9 : decode jdk_42_method_57_code 9 = .ok (.getfield 9, 3) := by decide +kernel
theorem d_sat_12 : decode jdk_42_method_57_code 12 = .ok (.arraylength, 1) := by decide +kernel
theorem d_sat_13 : decode jdk_42_method_57_code 13 = .ok (.invokestatic 499, 3) := by decide +kernel
theorem d_sat_16 : decode jdk_42_method_57_code 16 = .ok (.aload_n 0, 1) := by decide +kernel
theorem d_sat_17 : decode jdk_42_method_57_code 17 = .ok (.getfield 9, 3) := by decide +kernel
theorem d_sat_20 : decode jdk_42_method_57_code 20 = .ok (.iload_n 1, 1) := by decide +kernel
theorem d_sat_21 : decode jdk_42_method_57_code 21 = .ok (.baload, 1) := by decide +kernel
theorem d_sat_22 : decode jdk_42_method_57_code 22 = .ok (.sipush 255, 3) := by decide +kernel
theorem d_sat_25 : decode jdk_42_method_57_code 25 = .ok (.iand, 1) := by decide +kernel
theorem d_sat_26 : decode jdk_42_method_57_code 26 = .ok (.ireturn, 1) := by decide +kernel
theorem d_sat_27 : decode jdk_42_method_57_code 27 = .ok (.aload_n 0, 1) := by decide +kernel
theorem d_sat_28 : decode jdk_42_method_57_code 28 = .ok (.getfield 9, 3) := by decide +kernel
theorem d_sat_31 : decode jdk_42_method_57_code 31 = .ok (.arraylength, 1) := by decide +kernel
theorem d_sat_32 : decode jdk_42_method_57_code 32 = .ok (.iconst 1, 1) := by decide +kernel
theorem d_sat_33 : decode jdk_42_method_57_code 33 = .ok (.ishr, 1) := by decide +kernel
theorem d_sat_34 : decode jdk_42_method_57_code 34 = .ok (.istore_n 2, 1) := by decide +kernel
theorem d_sat_35 : decode jdk_42_method_57_code 35 = .ok (.iload_n 1, 1) := by decide +kernel
theorem d_sat_36 : decode jdk_42_method_57_code 36 = .ok (.iload_n 2, 1) := by decide +kernel
theorem d_sat_37 : decode jdk_42_method_57_code 37 = .ok (.invokestatic 499, 3) := by decide +kernel
theorem d_sat_40 : decode jdk_42_method_57_code 40 = .ok (.aload_n 0, 1) := by decide +kernel
theorem d_sat_41 : decode jdk_42_method_57_code 41 = .ok (.getfield 9, 3) := by decide +kernel
theorem d_sat_44 : decode jdk_42_method_57_code 44 = .ok (.iload_n 1, 1) := by decide +kernel
theorem d_sat_45 : decode jdk_42_method_57_code 45 = .ok (.iload_n 2, 1) := by decide +kernel
theorem d_sat_46 : decode jdk_42_method_57_code 46 = .ok (.invokestatic 502, 3) := by decide +kernel
theorem d_sat_49 : decode jdk_42_method_57_code 49 = .ok (.ireturn, 1) := by decide +kernel
abbrev M_sat : own_Mi := ((⟨"java/lang/String", "codePointAt", "(I)I"⟩ : MethodName), jdk_42_method_57_code, 3, (Option.some FieldType.int), ({ frames := 3, cells := 0, slots := 0, locals := 44 } : Room))
theorem pn_sat : plainFor (own_Mi.y M_sat) = true := plainFor_of_name (by first | (simp [plainName, overriddenIn]; done) | decide +kernel)
set_option maxRecDepth 65536 in
set_option maxHeartbeats 40000000 in
theorem c_sat (K : own_Cx) (a0 : Array Value) (hw : ∀ d ∈ tables_1, d.before a0 K.Z = true) (hU : own_U16 K) (rf : Value) (hrf : rf.isRef = true) (SF : Sta K.Z K.Z.heap "jdk/internal/util/Preconditions" "SIOOBE_FORMATTER" "Ljava/util/function/BiFunction;" rf) (g : Int32) (SC : Sta K.Z K.Z.heap own_sC "COMPACT_STRINGS" "Z" (.int g)) (hg : ¬ g = 0) (x : Addr) (cs : List Int32) (i : Int32) (I : Nat) (h : Heap) (S : own_Str K.Z h x cs) (hl : cs.length < 2 ^ 29) (hi : i.toInt = I) (hI : I < cs.length) :
    own_Met K M_sat #[.ref x, .int i] [] h (own_ret fun w h' _ => w = .int (own_c1 (cs.drop I)).1 ∧ h' = h) := by
  have S' := S
  obtain ⟨E, hcs, -, b, FV, FC, B⟩ := S
  have hn : (cs.length.toInt32).toInt = cs.length := own_lit _ (by omega)
  obtain ⟨c, hc⟩ : ∃ c, cs[I]? = some c := ⟨cs[I], by simp [hI]⟩
  have e1 := own_drop_cons hc
  have hcr := hcs c (List.mem_of_getElem? hc)
  refine own_met_2_1 (M := M_sat) pn_sat rfl (by first | rfl | exact own_cat (by assumption)) (by first | rfl | exact own_cat (by assumption)) ?_
  refine own_aload_n (pc' := 1) rfl d_sat_0 rfl (by first | rfl | assumption) ?_
  refine own_virtual0v (M' := M_isl) d_sat_1 (pc' := 4) rfl (tw_103 hw) (tw_104 hw) (tw_106 hw) (tw_105 hw) (tw_11 hw) (tw_107 hw) (by decide) rfl (own_lenOf pd_16 rfl) rfl rfl rfl rfl E (c_isl K a0 hw g SC hg x cs h S') (by simp) ?_
  rintro w h1 xs ⟨rfl, rfl⟩
  cases ql : own_lat cs
  · rw [(own_enc_utf ql).1] at B
    have hz : ((2 * cs.length).toInt32).toInt = ((2 * cs.length : Nat) : Int) := own_lit _ (by omega)
    have e2 : (2 * cs.length).toInt32 >>> ((1 : Int32) &&& 31) = cs.length.toInt32 := by
      apply Int32.toInt_inj.mp
      have := c_ishr (2 * cs.length).toInt32 1 1 (by decide)
      rw [this, hz, hn]
      omega
    refine own_ifeq (pcT := 27) (pcF := 7) d_sat_4 (by decide) (by decide) rfl (fun q => ?_) (fun q => ?_)
    rotate_left 1
    · exact absurd (by simp) q
    refine own_aload_n (pc' := 28) rfl d_sat_27 rfl (by first | rfl | assumption) ?_
    refine own_getF (pc' := 31) rfl d_sat_28 (tw_29 hw) Via.refl FV ?_
    refine own_arrlen (z := (2 * cs.length).toInt32) (pc' := 32) rfl d_sat_31 B (by rw [hz]; simp [own_two_len]) ?_
    refine own_iconst (v := (1 : Int32)) (pc' := 33) rfl d_sat_32 rfl ?_
    refine own_ishr (pc' := 34) rfl d_sat_33 ?_
    rw [e2]
    refine own_istore_n2 (pc' := 35) rfl d_sat_34 (by first | exact One.u | exact One.val rfl | assumption | exact One.val (by assumption)) ?_
    refine own_iload_n (pc' := 36) rfl d_sat_35 rfl ?_
    refine own_iload_n (pc' := 37) rfl d_sat_36 rfl ?_
    refine own_static2n (M' := M_ski) d_sat_37 (pc' := 40) rfl (tw_108 hw) (tw_109 hw) (tw_11 hw) (tw_110 hw) (by decide) rfl (own_lenOf pd_17 rfl) rfl rfl rfl rfl (c_ski K a0 hw rf hrf SF i _ _ (by omega) (by omega)) (by simp) ?_
    rintro h2 xs2 rfl
    refine own_aload_n (pc' := 41) rfl d_sat_40 rfl (by first | rfl | assumption) ?_
    refine own_getF (pc' := 44) rfl d_sat_41 (tw_29 hw) Via.refl FV ?_
    refine own_iload_n (pc' := 45) rfl d_sat_44 rfl ?_
    refine own_iload_n (pc' := 46) rfl d_sat_45 rfl ?_
    refine own_static3v (M' := M_ua3) d_sat_46 (pc' := 49) rfl (tw_116 hw) (tw_117 hw) (tw_64 hw) (tw_118 hw) (by decide) rfl (own_lenOf pd_18 rfl) rfl rfl rfl rfl (c_ua3 K a0 hw hU b cs i _ I _ hcs hl hn hi hI B) (by simp) ?_
    rintro w h3 xs3 ⟨rfl, rfl⟩
    refine own_ireturn rfl d_sat_49 rfl rfl ?_
    exact ⟨rfl, rfl⟩
  · rw [(own_enc_lat ql).1] at B
    have hcl := own_lat_get ql hc
    refine own_ifeq (pcT := 27) (pcF := 7) d_sat_4 (by decide) (by decide) rfl (fun q => ?_) (fun q => ?_)
    · exact absurd q (by simp)
    refine own_iload_n (pc' := 8) rfl d_sat_7 rfl ?_
    refine own_aload_n (pc' := 9) rfl d_sat_8 rfl (by first | rfl | assumption) ?_
    refine own_getF (pc' := 12) rfl d_sat_9 (tw_29 hw) Via.refl FV ?_
    refine own_arrlen (z := cs.length.toInt32) (pc' := 13) rfl d_sat_12 B (by rw [hn]; simp) ?_
    refine own_static2n (M' := M_ski) d_sat_13 (pc' := 16) rfl (tw_108 hw) (tw_109 hw) (tw_11 hw) (tw_110 hw) (by decide) rfl (own_lenOf pd_17 rfl) rfl rfl rfl rfl (c_ski K a0 hw rf hrf SF i _ _ (by omega) (by omega)) (by simp) ?_
    rintro h2 xs2 rfl
    refine own_aload_n (pc' := 17) rfl d_sat_16 rfl (by first | rfl | assumption) ?_
    refine own_getF (pc' := 20) rfl d_sat_17 (tw_29 hw) Via.refl FV ?_
    refine own_iload_n (pc' := 21) rfl d_sat_20 rfl ?_
    refine own_baload (pc' := 22) rfl d_sat_21 B (i := I) hi (own_ints_getM hc) ?_
    refine own_sipush (v := (255 : Int32)) (pc' := 25) rfl d_sat_22 rfl ?_
    refine own_iand (pc' := 26) rfl d_sat_25 ?_
    rw [own_lat_byte hcr.1 hcl]
    refine own_ireturn rfl d_sat_26 rfl rfl ?_
    exact ⟨by rw [own_c1_one e1 (Or.inl (own_hi_f (by omega)))], rfl⟩
theorem d_cmpr_0 : decode prog_3_method_2_code 0 = .ok (.iconst 0, 1) := by decide +kernel
theorem d_cmpr_1 : decode prog_3_method_2_code 1 = .ok (.istore_n 2, 1) := by decide +kernel
theorem d_cmpr_2 : decode prog_3_method_2_code 2 = .ok (.iload_n 2, 1) := by decide +kernel
theorem d_cmpr_3 : decode prog_3_method_2_code 3 = .ok (.aload_n 0, 1) := by decide +kernel
theorem d_cmpr_4 : decode prog_3_method_2_code 4 = .ok (.invokevirtual 7, 3) := by decide +kernel
theorem d_cmpr_7 : decode prog_3_method_2_code 7 = .ok (.if_icmp .ge 47, 3) := by decide +kernel
theorem d_cmpr_10 : decode prog_3_method_2_code 10 = .ok (.iload_n 2, 1) := by decide +kernel
theorem d_cmpr_11 : decode prog_3_method_2_code 11 = .ok (.aload_n 1, 1) := by decide +kernel
theorem d_cmpr_12 : decode prog_3_method_2_code 12 = .ok (.invokevirtual 7, 3) := by decide +kernel
theorem d_cmpr_15 : decode prog_3_method_2_code 15 = .ok (.if_icmp .ge 39, 3) := by decide +kernel
theorem d_cmpr_18 : decode prog_3_method_2_code 18 = .ok (.aload_n 0, 1) := by decide +kernel
theorem d_cmpr_19 : decode prog_3_method_2_code 19 = .ok (.iload_n 2, 1) := by decide +kernel
theorem d_cmpr_20 : decode prog_3_method_2_code 20 = .ok (.invokevirtual 13, 3) := by decide +kernel
theorem d_cmpr_23 : decode prog_3_method_2_code 23 = .ok (.istore_n 3, 1) := by decide +kernel
theorem d_cmpr_24 : decode prog_3_method_2_code 24 = .ok (.aload_n 1, 1) := by decide +kernel
theorem d_cmpr_25 : decode prog_3_method_2_code 25 = .ok (.iload_n 2, 1) := by decide +kernel
theorem d_cmpr_26 : decode prog_3_method_2_code 26 = .ok (.invokevirtual 13, 3) := by decide +kernel
theorem d_cmpr_29 : decode prog_3_method_2_code 29 = .ok (.istore 4, 2) := by decide +kernel
theorem d_cmpr_31 : decode prog_3_method_2_code 31 = .ok (.iload_n 3, 1) := by decide +kernel
theorem d_cmpr_32 : decode prog_3_method_2_code 32 = .ok (.iload 4, 2) := by decide +kernel
theorem d_cmpr_34 : decode prog_3_method_2_code 34 = .ok (.if_icmp .eq 10, 3) := by decide +kernel
theorem d_cmpr_37 : decode prog_3_method_2_code 37 = .ok (.iload_n 3, 1) := by decide +kernel
theorem d_cmpr_38 : decode prog_3_method_2_code 38 = .ok (.iload 4, 2) := by decide +kernel
theorem d_cmpr_40 : decode prog_3_method_2_code 40 = .ok (.invokestatic 17, 3) := by decide +kernel
theorem d_cmpr_43 : decode prog_3_method_2_code 43 = .ok (.ireturn, 1) := by decide +kernel
theorem d_cmpr_44 : decode prog_3_method_2_code 44 = .ok (.iload_n 2, 1) := by decide +kernel
theorem d_cmpr_45 : decode prog_3_method_2_code 45 = .ok (.iload_n 3, 1) := by decide +kernel
theorem d_cmpr_46 : decode prog_3_method_2_code 46 = .ok (.invokestatic 23, 3) := by decide +kernel
theorem d_cmpr_49 : decode prog_3_method_2_code 49 = .ok (.iadd, 1) := by decide +kernel
theorem d_cmpr_50 : decode prog_3_method_2_code 50 = .ok (.istore_n 2, 1) := by decide +kernel
theorem d_cmpr_51 : decode prog_3_method_2_code 51 = .ok (.goto (-49), 3) := by decide +kernel
theorem d_cmpr_54 : decode prog_3_method_2_code 54 = .ok (.aload_n 0, 1) := by decide +kernel
theorem d_cmpr_55 : decode prog_3_method_2_code 55 = .ok (.invokevirtual 7, 3) := by decide +kernel
theorem d_cmpr_58 : decode prog_3_method_2_code 58 = .ok (.aload_n 1, 1) := by decide +kernel
theorem d_cmpr_59 : decode prog_3_method_2_code 59 = .ok (.invokevirtual 7, 3) := by decide +kernel
theorem d_cmpr_62 : decode prog_3_method_2_code 62 = .ok (.invokestatic 17, 3) := by decide +kernel
theorem d_cmpr_65 : decode prog_3_method_2_code 65 = .ok (.ireturn, 1) := by decide +kernel
abbrev M_cmpr : own_Mi := ((⟨"com/example/sunder/sunder/CodePointOrder", "compare", "(Ljava/lang/String;Ljava/lang/String;)I"⟩ : MethodName), prog_3_method_2_code, 5, (Option.some FieldType.int), ({ frames := 4, cells := 0, slots := 0, locals := 60 } : Room))
theorem pn_cmpr : plainFor (own_Mi.y M_cmpr) = true := plainFor_of_name (by first | (simp [plainName, overriddenIn]; done) | decide +kernel)
set_option maxRecDepth 65536 in
set_option maxHeartbeats 40000000 in
theorem c_cmpr (K : own_Cx) (a0 : Array Value) (hw : ∀ d ∈ tables_1, d.before a0 K.Z = true) (hU : own_U16 K) (rf : Value) (hrf : rf.isRef = true) (SF : Sta K.Z K.Z.heap "jdk/internal/util/Preconditions" "SIOOBE_FORMATTER" "Ljava/util/function/BiFunction;" rf) (g : Int32) (SC : Sta K.Z K.Z.heap own_sC "COMPACT_STRINGS" "Z" (.int g)) (hg : ¬ g = 0) (x y : Addr) (cs ds : List Int32) (h : Heap) (S : own_Str K.Z h x cs) (T : own_Str K.Z h y ds) (hl : cs.length < 2 ^ 29) (hl2 : ds.length < 2 ^ 29) :
    own_Met K M_cmpr #[.ref x, .ref y] [] h (own_ret fun w h' _ => w = .int (own_cmp (own_cpl cs) (own_cpl ds)) ∧ h' = h) := by
  have hn : (cs.length.toInt32).toInt = cs.length := own_lit _ (by omega)
  have hn2 : (ds.length.toInt32).toInt = ds.length := own_lit _ (by omega)
  have v1 : (1 : Int32).toInt = 1 := rfl
  have v2 : (2 : Int32).toInt = 2 := rfl
  refine own_met_2_3 (M := M_cmpr) pn_cmpr rfl (by first | rfl | exact own_cat (by assumption)) (by first | rfl | exact own_cat (by assumption)) ?_
  refine own_iconst (v := (0 : Int32)) (pc' := 1) rfl d_cmpr_0 rfl ?_
  refine own_istore_n2 (pc' := 2) rfl d_cmpr_1 (by first | exact One.u | exact One.val rfl | assumption | exact One.val (by assumption)) ?_
  have fin : ∀ (I : Nat) (i : Int32) (o3 o4 : Slot) (sf : List Addr), I ≤ cs.length → I ≤ ds.length → (cs.length ≤ I ∨ ds.length ≤ I) → own_cmp (own_cpl cs) (own_cpl ds) = own_cmp (own_cpl (cs.drop I)) (own_cpl (ds.drop I)) → own_WP K M_cmpr (own_ret fun w h' _ => w = .int (own_cmp (own_cpl cs) (own_cpl ds)) ∧ h' = h) 54 [.val (.ref x), .val (.ref y), .val (.int i), o3, o4] [] sf h 0 0 := by
    intro I i o3 o4 sf h1 h2 h3 e
    refine own_aload_n (pc' := 55) rfl d_cmpr_54 rfl (by first | rfl | assumption) ?_
    refine own_virtual0v (M' := M_sl) d_cmpr_55 (pc' := 58) rfl (tw_46 hw) (tw_47 hw) (tw_49 hw) (tw_48 hw) (tw_11 hw) (tw_50 hw) (by decide) rfl (own_lenOf pd_19 rfl) rfl rfl rfl rfl S.1 (c_sl K a0 hw g SC hg x cs h S) (by simp) ?_
    rintro w h4 xs4 ⟨rfl, rfl⟩
    refine own_aload_n (pc' := 59) rfl d_cmpr_58 rfl (by first | rfl | assumption) ?_
    refine own_virtual0v (M' := M_sl) d_cmpr_59 (pc' := 62) rfl (tw_46 hw) (tw_47 hw) (tw_49 hw) (tw_48 hw) (tw_11 hw) (tw_50 hw) (by decide) rfl (own_lenOf pd_19 rfl) rfl rfl rfl rfl T.1 (c_sl K a0 hw g SC hg y ds _ T) (by simp) ?_
    rintro w h5 xs5 ⟨rfl, rfl⟩
    refine own_static2v (M' := M_icm) d_cmpr_62 (pc' := 65) rfl (tw_57 hw) (tw_58 hw) (tw_59 hw) (tw_60 hw) (by decide) rfl (own_lenOf pd_12 rfl) rfl rfl rfl rfl (c_icm K a0 hw _ _ _) (by simp) ?_
    rintro w h6 xs6 ⟨rfl, rfl⟩
    refine own_ireturn rfl d_cmpr_65 rfl rfl ?_
    refine ⟨?_, rfl⟩
    rw [e]
    have hnil : ∀ L : List Int32, L ≠ [] → ∃ z zs, own_cpl L = z :: zs := fun L hL => ⟨_, _, own_cpl_step hL⟩
    congr 1
    rcases Nat.lt_or_ge I cs.length with z | z
    · have zd : ds.drop I = [] := List.drop_eq_nil_of_le (by omega)
      obtain ⟨u, us, eu⟩ := hnil (cs.drop I) (fun q => by have := congrArg List.length q; simp at this; omega)
      rw [zd, eu]
      show own_ic _ _ = 1
      rw [own_ic, if_neg (fun q => by have := congrArg Int32.toInt q; omega), if_neg (by omega)]
    · have zc : cs.drop I = [] := List.drop_eq_nil_of_le z
      rcases Nat.lt_or_ge I ds.length with z2 | z2
      · obtain ⟨u, us, eu⟩ := hnil (ds.drop I) (fun q => by have := congrArg List.length q; simp at this; omega)
        rw [zc, eu]
        show own_ic _ _ = -1
        rw [own_ic, if_neg (fun q => by have := congrArg Int32.toInt q; omega), if_pos (by omega)]
      · have zd : ds.drop I = [] := List.drop_eq_nil_of_le z2
        rw [zc, zd]
        show own_ic _ _ = 0
        rw [own_ic, if_pos (by rw [show cs.length = ds.length by omega])]
  suffices key : ∀ (k I : Nat) (i : Int32) (o3 o4 : Slot) (sf : List Addr), cs.length ≤ I + k → I ≤ cs.length → I ≤ ds.length → i.toInt = I → One o3 → One o4 → own_cmp (own_cpl cs) (own_cpl ds) = own_cmp (own_cpl (cs.drop I)) (own_cpl (ds.drop I)) → own_WP K M_cmpr (own_ret fun w h' _ => w = .int (own_cmp (own_cpl cs) (own_cpl ds)) ∧ h' = h) 2 [.val (.ref x), .val (.ref y), .val (.int i), o3, o4] [] sf h 0 0 from
    key cs.length 0 0 .unset .unset _ (by omega) (by omega) (by omega) rfl One.u One.u rfl
  intro k
  induction k with
  | zero =>
    intro I i o3 o4 sf hk h1 h2 hi z3 z4 e
    refine own_iload_n (pc' := 3) rfl d_cmpr_2 rfl ?_
    refine own_aload_n (pc' := 4) rfl d_cmpr_3 rfl (by first | rfl | assumption) ?_
    refine own_virtual0v (M' := M_sl) d_cmpr_4 (pc' := 7) rfl (tw_46 hw) (tw_47 hw) (tw_49 hw) (tw_48 hw) (tw_11 hw) (tw_50 hw) (by decide) rfl (own_lenOf pd_19 rfl) rfl rfl rfl rfl S.1 (c_sl K a0 hw g SC hg x cs h S) (by simp) ?_
    rintro w h4 xs4 ⟨rfl, rfl⟩
    refine own_icmpge (pcT := 54) (pcF := 10) d_cmpr_7 (by decide) (by decide) rfl (fun q => ?_) (fun q => ?_)
    · exact own_weak (fin I i o3 o4 _ h1 h2 (Or.inl (by omega)) e) (fun x hx => hx) (by exact Nat.le_of_ble_eq_true rfl) (by exact Nat.le_of_ble_eq_true rfl)
    · rw [Int32.lt_iff_toInt_lt] at q
      omega
  | succ k ih =>
    intro I i o3 o4 sf hk h1 h2 hi z3 z4 e
    refine own_iload_n (pc' := 3) rfl d_cmpr_2 rfl ?_
    refine own_aload_n (pc' := 4) rfl d_cmpr_3 rfl (by first | rfl | assumption) ?_
    refine own_virtual0v (M' := M_sl) d_cmpr_4 (pc' := 7) rfl (tw_46 hw) (tw_47 hw) (tw_49 hw) (tw_48 hw) (tw_11 hw) (tw_50 hw) (by decide) rfl (own_lenOf pd_19 rfl) rfl rfl rfl rfl S.1 (c_sl K a0 hw g SC hg x cs h S) (by simp) ?_
    rintro w h4 xs4 ⟨rfl, rfl⟩
    refine own_icmpge (pcT := 54) (pcF := 10) d_cmpr_7 (by decide) (by decide) rfl (fun q => ?_) (fun q => ?_)
    · rw [Int32.lt_iff_toInt_lt] at q
      exact own_weak (fin I i o3 o4 _ h1 h2 (Or.inl (by omega)) e) (fun x hx => hx) (by exact Nat.le_of_ble_eq_true rfl) (by exact Nat.le_of_ble_eq_true rfl)
    rw [Int32.lt_iff_toInt_lt] at q
    refine own_iload_n (pc' := 11) rfl d_cmpr_10 rfl ?_
    refine own_aload_n (pc' := 12) rfl d_cmpr_11 rfl (by first | rfl | assumption) ?_
    refine own_virtual0v (M' := M_sl) d_cmpr_12 (pc' := 15) rfl (tw_46 hw) (tw_47 hw) (tw_49 hw) (tw_48 hw) (tw_11 hw) (tw_50 hw) (by decide) rfl (own_lenOf pd_19 rfl) rfl rfl rfl rfl T.1 (c_sl K a0 hw g SC hg y ds _ T) (by simp) ?_
    rintro w h5 xs5 ⟨rfl, rfl⟩
    refine own_icmpge (pcT := 54) (pcF := 18) d_cmpr_15 (by decide) (by decide) rfl (fun q2 => ?_) (fun q2 => ?_)
    · rw [Int32.lt_iff_toInt_lt] at q2
      exact own_weak (fin I i o3 o4 _ h1 h2 (Or.inr (by omega)) e) (fun x hx => hx) (by exact Nat.le_of_ble_eq_true rfl) (by exact Nat.le_of_ble_eq_true rfl)
    rw [Int32.lt_iff_toInt_lt] at q2
    have ne1 : cs.drop I ≠ [] := fun q => by have := congrArg List.length q; simp at this; omega
    have ne2 : ds.drop I ≠ [] := fun q => by have := congrArg List.length q; simp at this; omega
    have s1 := own_cpl_step ne1
    have s2 := own_cpl_step ne2
    have n1 := own_c1_n ne1 (own_chs_drop S.2.1 I)
    have n2 := own_c1_n ne2 (own_chs_drop T.2.1 I)
    rw [List.length_drop] at n1 n2
    refine own_aload_n (pc' := 19) rfl d_cmpr_18 rfl (by first | rfl | assumption) ?_
    refine own_iload_n (pc' := 20) rfl d_cmpr_19 rfl ?_
    refine own_virtual1v (M' := M_sat) d_cmpr_20 (pc' := 23) rfl (tw_98 hw) (tw_99 hw) (tw_101 hw) (tw_100 hw) (tw_11 hw) (tw_102 hw) (by decide) rfl (own_lenOf pd_0 rfl) rfl rfl rfl rfl S.1 (c_sat K a0 hw hU rf hrf SF g SC hg x cs i I _ S hl hi (by omega)) (by simp) ?_
    rintro w h6 xs6 ⟨rfl, rfl⟩
    refine own_istore_n3 (pc' := 24) rfl d_cmpr_23 (by first | exact One.u | exact One.val rfl | assumption | exact One.val (by assumption)) ?_
    refine own_aload_n (pc' := 25) rfl d_cmpr_24 rfl (by first | rfl | assumption) ?_
    refine own_iload_n (pc' := 26) rfl d_cmpr_25 rfl ?_
    refine own_virtual1v (M' := M_sat) d_cmpr_26 (pc' := 29) rfl (tw_98 hw) (tw_99 hw) (tw_101 hw) (tw_100 hw) (tw_11 hw) (tw_102 hw) (by decide) rfl (own_lenOf pd_0 rfl) rfl rfl rfl rfl T.1 (c_sat K a0 hw hU rf hrf SF g SC hg y ds i I _ T hl2 hi (by omega)) (by simp) ?_
    rintro w h7 xs7 ⟨rfl, rfl⟩
    rw [s1, s2] at e
    rw [List.drop_drop, List.drop_drop] at e
    generalize own_c1 (cs.drop I) = p1 at e n1 ⊢
    generalize own_c1 (ds.drop I) = p2 at e n2 ⊢
    obtain ⟨u, a⟩ := p1
    obtain ⟨v, b⟩ := p2
    dsimp only at e n1 n2 ⊢
    refine own_istore_4 (pc' := 31) rfl d_cmpr_29 (by first | exact One.u | exact One.val rfl | assumption | exact One.val (by assumption)) ?_
    refine own_iload_n (pc' := 32) rfl d_cmpr_31 rfl ?_
    refine own_iload (pc' := 34) rfl d_cmpr_32 rfl ?_
    refine own_icmpeq (pcT := 44) (pcF := 37) d_cmpr_34 (by decide) (by decide) rfl (fun q3 => ?_) (fun q3 => ?_)
    · subst q3
      have eab : a = b := by omega
      subst eab
      have e' : own_cmp (own_cpl cs) (own_cpl ds) = own_cmp (own_cpl (cs.drop (I + a))) (own_cpl (ds.drop (I + a))) := by
        rw [e]; simp only [own_cmp, if_true]
      refine own_iload_n (pc' := 45) rfl d_cmpr_44 rfl ?_
      refine own_iload_n (pc' := 46) rfl d_cmpr_45 rfl ?_
      refine own_static1v (M' := M_chc) d_cmpr_46 (pc' := 49) rfl (tw_136 hw) (tw_137 hw) (tw_124 hw) (tw_138 hw) (by decide) rfl (own_lenOf pd_0 rfl) rfl rfl rfl rfl (c_chc K a0 hw u _) (by simp) ?_
      rintro w h8 xs8 ⟨rfl, rfl⟩
      have ea : (i + (if u.toInt < 65536 then 1 else 2)).toInt = ((I + a : Nat) : Int) := by
        by_cases z : u.toInt < 65536
        · rw [if_pos z, own_add hi v1 (by omega) (by omega)]; omega
        · rw [if_neg z, own_add hi v2 (by omega) (by omega)]; omega
      refine own_iadd (pc' := 50) rfl d_cmpr_49 ?_
      refine own_istore_n2 (pc' := 51) rfl d_cmpr_50 (by first | exact One.u | exact One.val rfl | assumption | exact One.val (by assumption)) ?_
      refine own_goto (pc' := 2) d_cmpr_51 (by decide) (by decide) ?_
      exact own_weak (ih (I + a) _ _ _ _ (by omega) (by omega) (by omega) ea (One.val rfl) (One.val rfl) e') (fun x hx => hx) (by exact Nat.le_of_ble_eq_true rfl) (by exact Nat.le_of_ble_eq_true rfl)
    · skip
      refine own_iload_n (pc' := 38) rfl d_cmpr_37 rfl ?_
      refine own_iload (pc' := 40) rfl d_cmpr_38 rfl ?_
      refine own_static2v (M' := M_icm) d_cmpr_40 (pc' := 43) rfl (tw_57 hw) (tw_58 hw) (tw_59 hw) (tw_60 hw) (by decide) rfl (own_lenOf pd_12 rfl) rfl rfl rfl rfl (c_icm K a0 hw u v _) (by simp) ?_
      rintro w h8 xs8 ⟨rfl, rfl⟩
      refine own_ireturn rfl d_cmpr_43 rfl rfl ?_
      exact ⟨by rw [e, own_cmp2 q3], rfl⟩
abbrev M_law : own_Mi := (x, code, maxLocals, ret, room_1)
theorem pn_law : plainFor (own_Mi.y M_law) = true := plainFor_of_name (by first | (simp [plainName, overriddenIn]; done) | decide +kernel)
set_option maxRecDepth 65536 in
set_option maxHeartbeats 40000000 in
theorem c_law (K : own_Cx) (a0 : Array Value) (hw : ∀ d ∈ tables_1, d.before a0 K.Z = true) (hnw : K.nw = false) (hEL : EW K.Z a0 K.E) (hme : ("java/lang/String", 7) ∈ K.E) (hU : own_U16 K) (rf : Value) (hrf : rf.isRef = true) (SF : Sta K.Z K.Z.heap "jdk/internal/util/Preconditions" "SIOOBE_FORMATTER" "Ljava/util/function/BiFunction;" rf) (g : Int32) (SC : Sta K.Z K.Z.heap "java/lang/String" "COMPACT_STRINGS" "Z" (.int g)) (hg : ¬ g = 0) (p0 p1 p2 p3 p4 p5 : Int32) (h : Heap) :
    own_Met K M_law #[.int p0, .int p1, .int p2, .int p3, .int p4, .int p5] [] h (own_ret fun w _ _ => w = .int 1) := by
  have m1 := c_mask (XT.ushr p0 20) 3 2 (by decide) (by decide)
  have m2 := c_mask (XT.ushr p3 20) 3 2 (by decide) (by decide)
  obtain ⟨NA, hNA, hNA4⟩ : ∃ N : Nat, (XT.ushr p0 20 &&& 3).toInt = N ∧ N < 4 := ⟨(XT.ushr p0 20 &&& 3).toInt.toNat, by omega, by omega⟩
  obtain ⟨NB, hNB, hNB4⟩ : ∃ N : Nat, (XT.ushr p3 20 &&& 3).toInt = N ∧ N < 4 := ⟨(XT.ushr p3 20 &&& 3).toInt.toNat, by omega, by omega⟩
  refine own_met_6_13 (M := M_law) pn_law rfl (by first | rfl | exact own_cat (by assumption)) (by first | rfl | exact own_cat (by assumption)) (by first | rfl | exact own_cat (by assumption)) (by first | rfl | exact own_cat (by assumption)) (by first | rfl | exact own_cat (by assumption)) (by first | rfl | exact own_cat (by assumption)) ?_
  refine own_iload_n (pc' := 1) rfl at_0 rfl ?_
  refine own_bipush (v := (20 : Int32)) (pc' := 3) rfl at_1 rfl ?_
  refine own_iushr (pc' := 4) rfl at_3 ?_
  refine own_iconst (v := (3 : Int32)) (pc' := 5) rfl at_4 rfl ?_
  refine own_iand (pc' := 6) rfl at_5 ?_
  refine own_istore_6 (pc' := 8) rfl at_6 (by first | exact One.u | exact One.val rfl | assumption | exact One.val (by assumption)) ?_
  refine own_iload_n (pc' := 9) rfl at_8 rfl ?_
  refine own_bipush (v := (20 : Int32)) (pc' := 11) rfl at_9 rfl ?_
  refine own_iushr (pc' := 12) rfl at_11 ?_
  refine own_iconst (v := (3 : Int32)) (pc' := 13) rfl at_12 rfl ?_
  refine own_iand (pc' := 14) rfl at_13 ?_
  refine own_istore_7 (pc' := 16) rfl at_14 (by first | exact One.u | exact One.val rfl | assumption | exact One.val (by assumption)) ?_
  refine own_iload_n (pc' := 17) rfl at_16 rfl ?_
  generalize XT.ushr p0 20 &&& 3 = la at hNA
  generalize XT.ushr p3 20 &&& 3 = lb at hNB
  refine own_static1v (M' := M_ch) at_17 (pc' := 20) rfl (tw_0 hw) (tw_1 hw) (tw_2 hw) (tw_3 hw) (by decide) rfl (own_lenOf pd_20 rfl) rfl rfl rfl rfl (c_ch K a0 hw p0 h) (by simp) ?_
  rintro w h1 xs1 ⟨x0, rfl, rx0, rfl⟩
  refine own_istore_8 (pc' := 22) rfl at_20 (by first | exact One.u | exact One.val rfl | assumption | exact One.val (by assumption)) ?_
  refine own_iload_n (pc' := 23) rfl at_22 rfl ?_
  refine own_static1v (M' := M_ch) at_23 (pc' := 26) rfl (tw_0 hw) (tw_1 hw) (tw_2 hw) (tw_3 hw) (by decide) rfl (own_lenOf pd_20 rfl) rfl rfl rfl rfl (c_ch K a0 hw p1 _) (by simp) ?_
  rintro w h2 xs2 ⟨x1, rfl, rx1, rfl⟩
  refine own_istore_9 (pc' := 28) rfl at_26 (by first | exact One.u | exact One.val rfl | assumption | exact One.val (by assumption)) ?_
  refine own_iload_n (pc' := 29) rfl at_28 rfl ?_
  refine own_static1v (M' := M_ch) at_29 (pc' := 32) rfl (tw_0 hw) (tw_1 hw) (tw_2 hw) (tw_3 hw) (by decide) rfl (own_lenOf pd_20 rfl) rfl rfl rfl rfl (c_ch K a0 hw p2 _) (by simp) ?_
  rintro w h3 xs3 ⟨x2, rfl, rx2, rfl⟩
  refine own_istore_10 (pc' := 34) rfl at_32 (by first | exact One.u | exact One.val rfl | assumption | exact One.val (by assumption)) ?_
  refine own_iload_n (pc' := 35) rfl at_34 rfl ?_
  refine own_static1v (M' := M_ch) at_35 (pc' := 38) rfl (tw_0 hw) (tw_1 hw) (tw_2 hw) (tw_3 hw) (by decide) rfl (own_lenOf pd_20 rfl) rfl rfl rfl rfl (c_ch K a0 hw p3 _) (by simp) ?_
  rintro w h4 xs4 ⟨y0, rfl, ry0, rfl⟩
  refine own_istore_11 (pc' := 40) rfl at_38 (by first | exact One.u | exact One.val rfl | assumption | exact One.val (by assumption)) ?_
  refine own_iload (pc' := 42) rfl at_40 rfl ?_
  refine own_static1v (M' := M_ch) at_42 (pc' := 45) rfl (tw_0 hw) (tw_1 hw) (tw_2 hw) (tw_3 hw) (by decide) rfl (own_lenOf pd_20 rfl) rfl rfl rfl rfl (c_ch K a0 hw p4 _) (by simp) ?_
  rintro w h5 xs5 ⟨y1, rfl, ry1, rfl⟩
  refine own_istore_12 (pc' := 47) rfl at_45 (by first | exact One.u | exact One.val rfl | assumption | exact One.val (by assumption)) ?_
  refine own_iload (pc' := 49) rfl at_47 rfl ?_
  refine own_static1v (M' := M_ch) at_49 (pc' := 52) rfl (tw_0 hw) (tw_1 hw) (tw_2 hw) (tw_3 hw) (by decide) rfl (own_lenOf pd_20 rfl) rfl rfl rfl rfl (c_ch K a0 hw p5 _) (by simp) ?_
  rintro w h6 xs6 ⟨y2, rfl, ry2, rfl⟩
  have rx : ∀ c ∈ [x0, x1, x2], 0 ≤ c.toInt ∧ c.toInt < 65536 := by
    intro c hc
    simp only [List.mem_cons, List.not_mem_nil, or_false] at hc
    rcases hc with rfl | rfl | rfl <;> assumption
  have ry : ∀ c ∈ [y0, y1, y2], 0 ≤ c.toInt ∧ c.toInt < 65536 := by
    intro c hc
    simp only [List.mem_cons, List.not_mem_nil, or_false] at hc
    rcases hc with rfl | rfl | rfl <;> assumption
  refine own_istore_13 (pc' := 54) rfl at_52 (by first | exact One.u | exact One.val rfl | assumption | exact One.val (by assumption)) ?_
  refine own_iload (pc' := 56) rfl at_54 rfl ?_
  refine own_iload (pc' := 58) rfl at_56 rfl ?_
  refine own_iload (pc' := 60) rfl at_58 rfl ?_
  refine own_iload (pc' := 62) rfl at_60 rfl ?_
  refine own_static4v (M' := M_str) at_62 (pc' := 65) rfl (tw_6 hw) (tw_7 hw) (tw_2 hw) (tw_8 hw) (by decide) rfl (own_lenOf pd_21 rfl) rfl rfl rfl rfl (c_str K a0 hw hU hnw hEL hme g SC hg la x0 x1 x2 NA _ hNA hNA4 rx) (by simp) ?_
  rintro w h7 xs7 ⟨sa, rfl, E7, SA⟩
  refine own_astore_14 (pc' := 67) rfl at_65 (by first | exact One.u | exact One.val rfl | assumption | exact One.val (by assumption)) (by first | rfl | assumption) ?_
  refine own_iload (pc' := 69) rfl at_67 rfl ?_
  refine own_iload (pc' := 71) rfl at_69 rfl ?_
  refine own_iload (pc' := 73) rfl at_71 rfl ?_
  refine own_iload (pc' := 75) rfl at_73 rfl ?_
  refine own_static4v (M' := M_str) at_75 (pc' := 78) rfl (tw_6 hw) (tw_7 hw) (tw_2 hw) (tw_8 hw) (by decide) rfl (own_lenOf pd_21 rfl) rfl rfl rfl rfl (c_str K a0 hw hU hnw hEL hme g SC hg lb y0 y1 y2 NB _ hNB hNB4 ry) (by simp) ?_
  rintro w h8 xs8 ⟨sb, rfl, E8, SB⟩
  have SA := SA.ext E8
  refine own_astore_15 (pc' := 80) rfl at_78 (by first | exact One.u | exact One.val rfl | assumption | exact One.val (by assumption)) (by first | rfl | assumption) ?_
  refine own_iconst (v := (3 : Int32)) (pc' := 81) rfl at_80 rfl ?_
  refine own_newarray (pc' := 83) rfl at_81 (tw_12 hw) (N := 3) (cap := 3) (by decide) (by decide) rfl rfl rfl ?_
  intro ca h9 eca E9 A9
  refine own_dup (pc' := 84) rfl at_83 (by first | rfl | assumption) ?_
  refine own_iconst (v := (0 : Int32)) (pc' := 85) rfl at_84 rfl ?_
  refine own_iload (pc' := 87) rfl at_85 rfl ?_
  refine own_castore (pc' := 88) rfl at_87 A9 (i := 0) (by decide) (by simp) (own_i2c_id rx0.1 rx0.2) (by simp) ?_
  intro hx0 kx0 CA0
  refine own_dup (pc' := 89) rfl at_88 (by first | rfl | assumption) ?_
  refine own_iconst (v := (1 : Int32)) (pc' := 90) rfl at_89 rfl ?_
  refine own_iload (pc' := 92) rfl at_90 rfl ?_
  refine own_castore (pc' := 93) rfl at_92 CA0 (i := 1) (by decide) (by simp) (own_i2c_id rx1.1 rx1.2) (by simp) ?_
  intro hx1 kx1 CA1
  refine own_dup (pc' := 94) rfl at_93 (by first | rfl | assumption) ?_
  refine own_iconst (v := (2 : Int32)) (pc' := 95) rfl at_94 rfl ?_
  refine own_iload (pc' := 97) rfl at_95 rfl ?_
  refine own_castore (pc' := 98) rfl at_97 CA1 (i := 2) (by decide) (by simp) (own_i2c_id rx2.1 rx2.2) (by simp) ?_
  intro hx2 kx2 CA2
  have CA : own_Ary K.Z hx2 ca .char (own_ints [x0, x1, x2]) := CA2
  have EX : Ext h8 hx2 := own_ext_keep (own_ext_keep (own_ext_keep E9 kx0 (by intro z hz; cases List.mem_singleton.mp hz; omega)) kx1 (by intro z hz; cases List.mem_singleton.mp hz; omega)) kx2 (by intro z hz; cases List.mem_singleton.mp hz; omega)
  refine own_astore_16 (pc' := 100) rfl at_98 (by first | exact One.u | exact One.val rfl | assumption | exact One.val (by assumption)) (by first | rfl | assumption) ?_
  refine own_iconst (v := (3 : Int32)) (pc' := 101) rfl at_100 rfl ?_
  refine own_newarray (pc' := 103) rfl at_101 (tw_12 hw) (N := 3) (cap := 3) (by decide) (by decide) rfl rfl rfl ?_
  intro cb h10 ecb E10 A10
  refine own_dup (pc' := 104) rfl at_103 (by first | rfl | assumption) ?_
  refine own_iconst (v := (0 : Int32)) (pc' := 105) rfl at_104 rfl ?_
  refine own_iload (pc' := 107) rfl at_105 rfl ?_
  refine own_castore (pc' := 108) rfl at_107 A10 (i := 0) (by decide) (by simp) (own_i2c_id ry0.1 ry0.2) (by simp) ?_
  intro hy0 ky0 CB0
  refine own_dup (pc' := 109) rfl at_108 (by first | rfl | assumption) ?_
  refine own_iconst (v := (1 : Int32)) (pc' := 110) rfl at_109 rfl ?_
  refine own_iload (pc' := 112) rfl at_110 rfl ?_
  refine own_castore (pc' := 113) rfl at_112 CB0 (i := 1) (by decide) (by simp) (own_i2c_id ry1.1 ry1.2) (by simp) ?_
  intro hy1 ky1 CB1
  refine own_dup (pc' := 114) rfl at_113 (by first | rfl | assumption) ?_
  refine own_iconst (v := (2 : Int32)) (pc' := 115) rfl at_114 rfl ?_
  refine own_iload (pc' := 117) rfl at_115 rfl ?_
  refine own_castore (pc' := 118) rfl at_117 CB1 (i := 2) (by decide) (by simp) (own_i2c_id ry2.1 ry2.2) (by simp) ?_
  intro hy2 ky2 CB2
  have CB : own_Ary K.Z hy2 cb .char (own_ints [y0, y1, y2]) := CB2
  have EY : Ext hx2 hy2 := own_ext_keep (own_ext_keep (own_ext_keep E10 ky0 (by intro z hz; cases List.mem_singleton.mp hz; omega)) ky1 (by intro z hz; cases List.mem_singleton.mp hz; omega)) ky2 (by intro z hz; cases List.mem_singleton.mp hz; omega)
  refine own_astore_17 (pc' := 120) rfl at_118 (by first | exact One.u | exact One.val rfl | assumption | exact One.val (by assumption)) (by first | rfl | assumption) ?_
  refine own_aload (pc' := 122) rfl at_120 rfl (by first | rfl | assumption) ?_
  refine own_iload (pc' := 124) rfl at_122 rfl ?_
  refine own_static2v (M' := M_dec) at_124 (pc' := 127) rfl (tw_31 hw) (tw_32 hw) (tw_2 hw) (tw_33 hw) (by decide) rfl (own_lenOf pd_22 rfl) rfl rfl rfl rfl (c_dec K a0 hw ca [x0, x1, x2] _ la NA hy2 (CA.ext EY) rfl (show NA ≤ 3 by omega) rx hNA (by omega)) (by simp) ?_
  rintro w h11 xs11 ⟨ra, rfl, E11, RA, la3⟩
  refine own_aload (pc' := 129) rfl at_127 rfl (by first | rfl | assumption) ?_
  refine own_iload (pc' := 131) rfl at_129 rfl ?_
  refine own_static2v (M' := M_dec) at_131 (pc' := 134) rfl (tw_31 hw) (tw_32 hw) (tw_2 hw) (tw_33 hw) (by decide) rfl (own_lenOf pd_22 rfl) rfl rfl rfl rfl (c_dec K a0 hw cb [y0, y1, y2] _ lb NB h11 (CB.ext E11) rfl (show NB ≤ 3 by omega) ry hNB (by omega)) (by simp) ?_
  rintro w h12 xs12 ⟨rb, rfl, E12, RB, lb3⟩
  refine own_static2v (M' := M_ref) at_134 (pc' := 137) rfl (tw_35 hw) (tw_36 hw) (tw_2 hw) (tw_37 hw) (by decide) rfl (own_lenOf pd_23 rfl) rfl rfl rfl rfl (c_ref K a0 hw ra rb _ _ h12 la3 lb3 (RA.ext E12) RB) (by simp) ?_
  rintro w h13 xs13 ⟨rfl, rfl⟩
  have EE := own_ext_trans (own_ext_trans (own_ext_trans EX EY) E11) E12
  refine own_istore_18 (pc' := 139) rfl at_137 (by first | exact One.u | exact One.val rfl | assumption | exact One.val (by assumption)) ?_
  refine own_aload (pc' := 141) rfl at_139 rfl (by first | rfl | assumption) ?_
  refine own_aload (pc' := 143) rfl at_141 rfl (by first | rfl | assumption) ?_
  refine own_static2v (M' := M_cmpr) at_143 (pc' := 146) rfl (tw_42 hw) (tw_43 hw) (tw_44 hw) (tw_45 hw) (by decide) rfl (own_lenOf pd_24 rfl) rfl rfl rfl rfl (c_cmpr K a0 hw hU rf hrf SF g SC hg sa sb _ _ _ (SA.ext EE) (SB.ext EE) (by simp; omega) (by simp; omega)) (by simp) ?_
  rintro w h14 xs14 ⟨rfl, rfl⟩
  refine own_iload (pc' := 148) rfl at_146 rfl ?_
  refine own_icmpne (pcT := 155) (pcF := 151) at_148 (by decide) (by decide) rfl (fun q => ?_) (fun q => ?_)
  · exact absurd rfl q
  · skip
    refine own_iconst (v := (1 : Int32)) (pc' := 152) rfl at_151 rfl ?_
    refine own_goto (pc' := 156) at_152 (by decide) (by decide) ?_
    refine own_ireturnN (t := .boolean) rfl (by simp) (by first | exact own_nb0 | exact own_nb1 | rfl) at_156 rfl rfl ?_
    rfl
abbrev own_EL : List (String × Nat) := [("java/lang/String", 7)]
theorem own_EW {a0 : Array Value} {Z : State} (hw : ∀ d ∈ tables_1, d.before a0 Z = true) : EW Z a0 own_EL := (EW.cons (hw _ (List.mem_of_getElem? (i := 23) rfl)) (by decide +kernel) EW.nil)
set_option maxRecDepth 65536 in
set_option maxHeartbeats 40000000 in
theorem comes_1 {Post : Tables → Env → Array Value → State → Outcome → State → Prop} (hpost : ∀ tb e args s v u, (limb_1_1.after args s (.returned v) u = true ∧ limb_1_2.after args s (.returned v) u = true ∧ True) → ReturnedEndW s (.returned v) u (Jvm.fieldLocs frame_1_writes args s ++ Jvm.arrayLocs frame_1_arrays args s ++ Jvm.staticLocs frame_1_statics s) 40 1216 → Post tb e args s (.returned v) u) :
    ArmFor flags0 classFile x code maxLocals ret World_1 tables_1 room_1 Calls_1 rest_1 Pre_1 Post := by
  intro l hfl _ _ p e ha hc hk s m args below hf hA hF happ hP
  obtain ⟨hcalls, hrest, hpre⟩ := hP
  obtain ⟨-, -, -, hnamed, -, -, -, hat⟩ := (Spec.applies_iff hf).mp happ
  obtain ⟨hg, hn⟩ := and_e (Cond.before_iff.mp (show (Jvm.Cond.and given_1 narrow_1).before args s = true from hpre))
  obtain ⟨gc, gv⟩ := and_e hg
  obtain ⟨g0, gv⟩ := and_e gv
  obtain ⟨g1, gv⟩ := and_e gv
  obtain ⟨g2, gv⟩ := and_e gv
  obtain ⟨g3, gv⟩ := and_e gv
  obtain ⟨g4, gv⟩ := and_e gv
  obtain ⟨w0, w1, w2, w3, w4, w5, rfl⟩ : ∃ w0 w1 w2 w3 w4 w5 : Value, args = #[w0, w1, w2, w3, w4, w5] := by
    have hs : args.size = 6 := by simpa [Cond.value, given_1] using gc
    obtain ⟨L⟩ := args
    match L, hs with
    | [w0, w1, w2, w3, w4, w5], _ => exact ⟨w0, w1, w2, w3, w4, w5, rfl⟩
  have hw := fun d (hd : d ∈ tables_1) => atoms_spec (ws := Jvm.Cond.code x code maxLocals ret :: tables_1) hat d (List.mem_cons_of_mem _ hd)
  obtain ⟨hsets, hown0⟩ := atoms_of _ (rest_1_c_eq ▸ (show rest_1_c.before _ s = true from hrest))
  have hfit : Fit s := fun {y c} hc i hi => by
    obtain ⟨ha, rfl⟩ := Array.getElem?_eq_some_iff.mp hc
    have q := List.all_eq_true.mp ((Array.all_eq_true_iff_forall_mem.mp hF) _ (Array.getElem_mem ha)) i (List.mem_range.mpr hi)
    simpa [Array.getElem?_eq_getElem hi] using q
  obtain ⟨p0, ev0⟩ := is_v g0
  obtain rfl : w0 = (.int p0) := Option.some.inj ev0
  obtain ⟨p1, ev1⟩ := is_v g1
  obtain rfl : w1 = (.int p1) := Option.some.inj ev1
  obtain ⟨p2, ev2⟩ := is_v g2
  obtain rfl : w2 = (.int p2) := Option.some.inj ev2
  obtain ⟨p3, ev3⟩ := is_v g3
  obtain rfl : w3 = (.int p3) := Option.some.inj ev3
  obtain ⟨p4, ev4⟩ := is_v g4
  obtain rfl : w4 = (.int p4) := Option.some.inj ev4
  obtain ⟨p5, ev5⟩ := is_v gv
  obtain rfl : w5 = (.int p5) := Option.some.inj ev5
  obtain ⟨gcs, ecs⟩ := is_v (Cond.before_iff.mp (hsets _ (List.mem_of_getElem? (i := 1) rfl)))
  have SC : Sta s s.heap "java/lang/String" "COMPACT_STRINGS" "Z" (.int gcs) := Sta.start ecs (Or.inl (hsets _ (List.mem_of_getElem? (i := 0) rfl)))
  have hgc : ¬ (gcs = (0 : Int32)) := gotF (Cond.eq_ints ecs (Term.int_eval (0))) (not_v (Cond.before_iff.mp (hsets _ (List.mem_of_getElem? (i := 2) rfl))))
  have hEW := own_EW hw
  have hCH : CHv s own_EL s.vm s.heap := CHv.start hEW (fun p hp => hcalls.1 p (by simpa [consts_1] using hp)) (hsets _ (List.mem_of_getElem? (i := 2) rfl)) (tw_24 hw) (tw_10 hw)
  have own_seti : ∀ (t : Term) (i : Int32), (Jvm.Cond.eq t (Term.int i)).before #[.int p0, .int p1, .int p2, .int p3, .int p4, .int p5] s = true → t.eval #[.int p0, .int p1, .int p2, .int p3, .int p4, .int p5] s none [] s = some (.int i) := by
    intro t i hq
    have hq := Cond.before_iff.mp hq
    obtain ⟨x, y, q1, q2, q3, -⟩ := cmp_v (Or.inl hq)
    cases (Term.int_eval i).symm.trans q2
    cases x <;> simp only [Kin] at q3
    · have := gotT (Cond.eq_ints q1 (Term.int_eval i)) hq
      rw [q1, this]
    all_goals first | (obtain ⟨z, q3⟩ := q3; cases q3) | (cases q3.2)
  have hU : own_U16 (l, s, own_EL, false) := ⟨Sta.start (own_seti _ _ (hsets _ (List.mem_of_getElem? (i := 12) rfl))) (Or.inl (hsets _ (List.mem_of_getElem? (i := 11) rfl))), Sta.start (own_seti _ _ (hsets _ (List.mem_of_getElem? (i := 15) rfl))) (Or.inl (hsets _ (List.mem_of_getElem? (i := 14) rfl))), Sta.start (own_seti _ _ (hsets _ (List.mem_of_getElem? (i := 18) rfl))) (Or.inl (hsets _ (List.mem_of_getElem? (i := 17) rfl)))⟩
  obtain ⟨rf, erf, hrf⟩ := isR_v (Cond.before_iff.mp (hsets _ (List.mem_of_getElem? (i := 8) rfl)))
  have SF : Sta s s.heap "jdk/internal/util/Preconditions" "SIOOBE_FORMATTER" "Ljava/util/function/BiFunction;" rf := Sta.start erf (Or.inl (hsets _ (List.mem_of_getElem? (i := 7) rfl)))
  have main := c_law (l, s, own_EL, false) _ hw rfl hEW (by show _ ∈ own_EL; simp [own_EL]) hU rf hrf SF gcs SC hgc p0 p1 p2 p3 p4 p5 s.heap
  obtain ⟨n, o, h1, h2, h3, v, L, xs, rfl, ⟨w, e0, hq⟩, N, hC, hS, hE, hR, hwm⟩ := main tables_1 p e ha hc hk s m _ below hf ((Spec.applies_iff_loose hf).mp happ).1 ⟨rfl, State.Warmed39.refl s, rfl, ⟨_, hEW⟩, hCH, (fun x hx => nomatch hx), own_ext_refl _⟩ trivial
  subst e0
  subst hq
  refine ⟨n, _, h1, h2, h3, hpost _ _ _ _ _ _ ⟨Cond.after_iff.mpr rfl, Cond.after_iff.mpr (eq_i res_at (Term.int_eval (1)) rfl), trivial⟩ ⟨⟨_, rfl⟩, hR.2.1, hR.2.2.1, (hR.2.2.2.sift fun y hy => Or.inr (N y hy)).mono (by decide) (by decide)⟩⟩
theorem main_1_1 : Claimed_1_1 := comes_1 fun _ _ _ _ _ _ h hF => ⟨h.1, hF⟩
theorem main_1_2 : Claimed_1_2 := comes_1 fun _ _ _ _ _ _ h hF => ⟨h.2.1, hF⟩
end Jvm.Pilot.@@N@@
namespace Jvm.Pilot.@@N@@
open Jvm Jvm.ClassFile Sem Op Lib Jvm.Free Jvm.Stand Jvm.Pilot.@@N@@.Jvm.D
/-! MADE BY PROGRAM (witnessworld.py) out of the Statement's table words and the real class files: 24 classes; the members and pool entries that the words name. The judged class is class 1, her method 1. -/
namespace start1
open Jvm.ClassFile
def u (s : String) : CpInfo := .utf8 (stringToUtf16 s)
/-- a pool by its gaps: so many unusable entries, then the entry; so many at the end -/
def gap : Nat → List CpInfo → List CpInfo
  | 0, r => r
  | n + 1, r => .unusable :: gap n r
def poolList (es : List (Nat × CpInfo)) (last : Nat) : List CpInfo := es.foldr (fun e r => gap e.1 (e.2 :: r)) (gap last [])
def pool (es : List (Nat × CpInfo)) (last : Nat) : Array CpInfo := ⟨poolList es last⟩
def fileOf (pool : Array CpInfo) (this : Nat) (attrs : Array Attribute := #[]) (ms : Array MethodInfo := #[]) (fl : Nat := 33) (sup : Nat := 0) (ifs : Array Nat := #[]) (fds : Array FieldInfo := #[]) : ClassFile where
  minorVersion := 0
  majorVersion := 65
  constantPool := pool
  accessFlags := fl
  thisClass := this
  superClass := sup
  interfaces := ifs
  fields := fds
  methods := ms
  attributes := attrs
def plain (name : String) (sup : Option ClassId) : Class where
  name := name
  kind := .ordinary
  loader := none
  accessFlags := 33
  super := sup
  interfaces := #[]
  cf := none
  fields := #[]
  methods := #[]
  instanceTypes := #[]
  staticTypes := #[]
  resolved := #[]
  callSites := []
  init := .initialized
  statics := none
  mirror := none

def pool0 : Array CpInfo := pool [(5, u "<init>"), (0, u "()V"), (1, .class_ 10), (1, u "java/lang/Object")] 113

def k0c0 : Code := { maxStack := 0, maxLocals := 1, code := object_method_1_code, exceptionTable := #[], attributes := #[] }
def k0m0 : Method := { name := "<init>", desc := "()V", sig := { parameters := [], returnType := none }, accessFlags := 1, code := some k0c0 }
/-- java/lang/Object -/
def k0 : Class := { plain "java/lang/Object" none with
  accessFlags := 33
  interfaces := #[]
  cf := some (fileOf pool0 8 #[] #[{ accessFlags := 1, nameIndex := 5, descriptorIndex := 6, attributes := #[] }] 33 0 #[] #[])
  fields := #[]
  methods := #[k0m0]
  instanceTypes := #[]
  staticTypes := #[]
  resolved := Array.replicate 124 none
  statics := none }

def pool1 : Array CpInfo := pool [(2, .class_ 4), (1, u "java/lang/Object"), (0, u "<init>"), (0, u "()V"), (0, .methodref 8 9), (0, .class_ 10), (0, .nameAndType 11 12), (0, u "com/example/sunder/sunder/CodePointOrderComparePinLaw"), (0, u "ch"), (0, u "(I)C"), (0, .methodref 8 14), (0, .nameAndType 15 16), (0, u "str"), (0, u "(CCCI)Ljava/lang/String;"), (0, .methodref 8 18), (0, .nameAndType 19 20), (0, u "decode"), (0, u "([CI)[I"), (0, .methodref 8 22), (0, .nameAndType 23 24), (0, u "ref"), (0, u "([I[I)I"), (0, .methodref 26 27), (0, .class_ 28), (0, .nameAndType 29 30), (0, u "com/example/sunder/sunder/CodePointOrder"), (0, u "compare"), (0, u "(Ljava/lang/String;Ljava/lang/String;)I"), (0, .integer 65536), (0, .integer 65535), (0, .integer 55296), (0, .integer 56319), (0, .integer 56320), (0, .integer 57343), (0, .integer 57344), (0, .class_ 39), (0, u "java/lang/String"), (0, .methodref 38 41), (0, .nameAndType 5 42), (0, u "([C)V"), (0, .methodref 8 44), (0, .nameAndType 45 46), (0, u "cp"), (0, u "([CII)I"), (0, .methodref 48 49), (0, .class_ 50), (0, .nameAndType 51 52), (0, u "java/lang/Math"), (0, u "min"), (0, u "(II)I"), (2, u "law"), (0, u "(IIIIII)Z")] 7

def k1m0 : Method := { name := "<init>", desc := "()V", sig := { parameters := [], returnType := none }, accessFlags := 2, code := none }
def k1c1 : Code := { maxStack := 4, maxLocals := 19, code := code, exceptionTable := #[], attributes := #[] }
def k1m1 : Method := { name := "law", desc := "(IIIIII)Z", sig := { parameters := [.int, .int, .int, .int, .int, .int], returnType := some .boolean }, accessFlags := 9, code := some k1c1 }
def k1c2 : Code := { maxStack := 2, maxLocals := 2, code := method_3_code, exceptionTable := #[], attributes := #[] }
def k1m2 : Method := { name := "ch", desc := "(I)C", sig := { parameters := [.int], returnType := some .char }, accessFlags := 10, code := some k1c2 }
def k1c3 : Code := { maxStack := 6, maxLocals := 4, code := method_4_code, exceptionTable := #[], attributes := #[] }
def k1m3 : Method := { name := "str", desc := "(CCCI)Ljava/lang/String;", sig := { parameters := [.char, .char, .char, .int], returnType := some (.object "java/lang/String") }, accessFlags := 10, code := some k1c3 }
def k1c4 : Code := { maxStack := 3, maxLocals := 5, code := method_5_code, exceptionTable := #[], attributes := #[] }
def k1m4 : Method := { name := "cp", desc := "([CII)I", sig := { parameters := [(.array .char), .int, .int], returnType := some .int }, accessFlags := 10, code := some k1c4 }
def k1c5 : Code := { maxStack := 3, maxLocals := 6, code := method_6_code, exceptionTable := #[], attributes := #[] }
def k1m5 : Method := { name := "decode", desc := "([CI)[I", sig := { parameters := [(.array .char), .int], returnType := some (.array .int) }, accessFlags := 10, code := some k1c5 }
def k1c6 : Code := { maxStack := 3, maxLocals := 5, code := method_7_code, exceptionTable := #[], attributes := #[] }
def k1m6 : Method := { name := "ref", desc := "([I[I)I", sig := { parameters := [(.array .int), (.array .int)], returnType := some .int }, accessFlags := 10, code := some k1c6 }
/-- com/example/sunder/sunder/CodePointOrderComparePinLaw -/
def k1 : Class := { plain "com/example/sunder/sunder/CodePointOrderComparePinLaw" (some 0) with
  accessFlags := 49
  interfaces := #[]
  cf := some (fileOf pool1 8 #[] #[{ accessFlags := 2, nameIndex := 5, descriptorIndex := 6, attributes := #[] }, { accessFlags := 9, nameIndex := 55, descriptorIndex := 56, attributes := #[] }, { accessFlags := 10, nameIndex := 11, descriptorIndex := 12, attributes := #[] }, { accessFlags := 10, nameIndex := 15, descriptorIndex := 16, attributes := #[] }, { accessFlags := 10, nameIndex := 45, descriptorIndex := 46, attributes := #[] }, { accessFlags := 10, nameIndex := 19, descriptorIndex := 20, attributes := #[] }, { accessFlags := 10, nameIndex := 23, descriptorIndex := 24, attributes := #[] }] 49 2 #[] #[])
  fields := #[]
  methods := #[k1m0, k1m1, k1m2, k1m3, k1m4, k1m5, k1m6]
  instanceTypes := #[]
  staticTypes := #[]
  resolved := Array.replicate 64 none
  statics := none }

def pool2 : Array CpInfo := pool [(1, .class_ 2), (0, u "java/io/Serializable"), (0, .class_ 4), (0, u "java/lang/Object")] 2

/-- java/io/Serializable -/
def k2 : Class := { plain "java/io/Serializable" (some 0) with
  accessFlags := 1537
  interfaces := #[]
  cf := some (fileOf pool2 1 #[] #[] 1537 3 #[] #[])
  fields := #[]
  methods := #[]
  instanceTypes := #[]
  staticTypes := #[]
  resolved := Array.replicate 7 none
  statics := none }

def pool3 : Array CpInfo := pool [(1, .class_ 2), (0, u "java/lang/Comparable"), (0, .class_ 4), (0, u "java/lang/Object")] 7

/-- java/lang/Comparable -/
def k3 : Class := { plain "java/lang/Comparable" (some 0) with
  accessFlags := 1537
  interfaces := #[]
  cf := some (fileOf pool3 1 #[] #[] 1537 3 #[] #[])
  fields := #[]
  methods := #[]
  instanceTypes := #[]
  staticTypes := #[]
  resolved := Array.replicate 12 none
  statics := none }

def pool4 : Array CpInfo := pool [(2, .class_ 4), (1, u "java/lang/CharSequence"), (42, .class_ 48), (0, u "java/lang/CharSequence$1CodePointIterator"), (10, .class_ 60), (0, u "java/lang/CharSequence$1CharIterator"), (5, .class_ 67), (0, u "java/lang/Object")] 63

/-- java/lang/CharSequence -/
def k4 : Class := { plain "java/lang/CharSequence" (some 0) with
  accessFlags := 1537
  interfaces := #[]
  cf := some (fileOf pool4 2 #[.nestMembers #[47, 59]] #[] 1537 66 #[] #[])
  fields := #[]
  methods := #[]
  instanceTypes := #[]
  staticTypes := #[]
  resolved := Array.replicate 131 none
  statics := none }

def pool5 : Array CpInfo := pool [(1, .class_ 2), (0, u "java/lang/constant/Constable"), (0, .class_ 4), (0, u "java/lang/Object")] 6

/-- java/lang/constant/Constable -/
def k5 : Class := { plain "java/lang/constant/Constable" (some 0) with
  accessFlags := 1537
  interfaces := #[]
  cf := some (fileOf pool5 1 #[] #[] 1537 3 #[] #[])
  fields := #[]
  methods := #[]
  instanceTypes := #[]
  staticTypes := #[]
  resolved := Array.replicate 11 none
  statics := none }

def pool6 : Array CpInfo := pool [(1, .class_ 2), (0, u "java/lang/constant/ConstantDesc"), (0, .class_ 4), (0, u "java/lang/Object")] 32

/-- java/lang/constant/ConstantDesc -/
def k6 : Class := { plain "java/lang/constant/ConstantDesc" (some 0) with
  accessFlags := 1537
  interfaces := #[]
  cf := some (fileOf pool6 1 #[] #[] 1537 3 #[] #[])
  fields := #[]
  methods := #[]
  instanceTypes := #[]
  staticTypes := #[]
  resolved := Array.replicate 37 none
  statics := none }

def pool7 : Array CpInfo := pool [(1, .methodref 2 3), (0, .class_ 4), (0, .nameAndType 5 6), (0, u "java/lang/Object"), (0, u "<init>"), (0, u "()V"), (0, .string 8), (0, u ""), (0, .fieldref 10 11), (0, .class_ 12), (0, .nameAndType 13 14), (0, u "java/lang/String"), (0, u "value"), (0, u "[B"), (0, .fieldref 10 16), (0, .nameAndType 17 18), (0, u "coder"), (0, u "B"), (2, u "hash"), (0, u "I"), (2, u "hashIsZero"), (0, u "Z"), (0, .methodref 10 28), (0, .nameAndType 5 29), (0, u "([CIILjava/lang/Void;)V"), (8, .fieldref 10 39), (0, .nameAndType 40 26), (0, u "COMPACT_STRINGS"), (1, .class_ 44), (1, u "java/lang/StringUTF16"), (0, u "compress"), (1, .methodref 42 48), (0, .nameAndType 49 50), (0, u "coderFromArrayLen"), (0, u "([BI)B"), (46, u "([BII)I"), (44, u "()Z"), (34, .methodref 42 178), (0, .nameAndType 45 179), (0, u "([CII)[B"), (154, u "()I"), (0, .methodref 10 336), (0, .nameAndType 17 337), (0, u "()B"), (53, u "(II)V"), (100, .methodref 10 493), (0, .nameAndType 494 142), (0, u "isLatin1"), (4, .methodref 10 500), (0, .nameAndType 501 391), (0, u "checkIndex"), (0, .methodref 42 503), (0, .nameAndType 504 97), (0, u "codePointAt"), (2, u "length"), (67, .class_ 576), (0, u "java/lang/CharSequence"), (22, u "CASE_INSENSITIVE_ORDER"), (0, u "Ljava/util/Comparator;"), (164, u "(I)I"), (244, u "([C)V"), (42, .fieldref 1054 1055), (0, .class_ 1056), (0, .nameAndType 1057 1058), (0, u "jdk/internal/util/Preconditions"), (0, u "SIOOBE_FORMATTER"), (0, u "Ljava/util/function/BiFunction;"), (0, .methodref 1054 1060), (0, .nameAndType 501 1061), (0, u "(IILjava/util/function/BiFunction;)I"), (39, u "serialPersistentFields"), (0, u "[Ljava/io/ObjectStreamField;"), (0, .class_ 1104), (0, u "java/lang/String$CaseInsensitiveComparator"), (1, .class_ 1107), (0, u "java/io/Serializable"), (0, .class_ 1109), (0, u "java/lang/Comparable"), (0, .class_ 1111), (0, u "java/lang/constant/Constable"), (0, .class_ 1113), (0, u "java/lang/constant/ConstantDesc"), (2, u "serialVersionUID"), (0, u "J"), (3, u "REPL"), (0, u "C"), (2, u "LATIN1"), (1, u "UTF16")] 323

def k7m0 : Method := { name := "<init>", desc := "()V", sig := { parameters := [], returnType := none }, accessFlags := 1, code := none }
def k7c1 : Code := { maxStack := 5, maxLocals := 2, code := jdk_42_method_3_code, exceptionTable := #[], attributes := #[] }
def k7m1 : Method := { name := "<init>", desc := "([C)V", sig := { parameters := [(.array .char)], returnType := none }, accessFlags := 1, code := some k7c1 }
def k7c2 : Code := { maxStack := 2, maxLocals := 1, code := jdk_42_method_54_code, exceptionTable := #[], attributes := #[] }
def k7m2 : Method := { name := "length", desc := "()I", sig := { parameters := [], returnType := some .int }, accessFlags := 1, code := some k7c2 }
def k7c3 : Code := { maxStack := 3, maxLocals := 3, code := jdk_42_method_57_code, exceptionTable := #[], attributes := #[] }
def k7m3 : Method := { name := "codePointAt", desc := "(I)I", sig := { parameters := [.int], returnType := some .int }, accessFlags := 1, code := some k7c3 }
def k7c4 : Code := { maxStack := 4, maxLocals := 6, code := jdk_42_method_149_code, exceptionTable := #[], attributes := #[] }
def k7m4 : Method := { name := "<init>", desc := "([CIILjava/lang/Void;)V", sig := { parameters := [(.array .char), .int, .int, (.object "java/lang/Void")], returnType := none }, accessFlags := 2, code := some k7c4 }
def k7c5 : Code := { maxStack := 1, maxLocals := 1, code := jdk_42_method_152_code, exceptionTable := #[], attributes := #[] }
def k7m5 : Method := { name := "coder", desc := "()B", sig := { parameters := [], returnType := some .byte }, accessFlags := 0, code := some k7c5 }
def k7c6 : Code := { maxStack := 1, maxLocals := 1, code := jdk_42_method_154_code, exceptionTable := #[], attributes := #[] }
def k7m6 : Method := { name := "isLatin1", desc := "()Z", sig := { parameters := [], returnType := some .boolean }, accessFlags := 0, code := some k7c6 }
def k7c7 : Code := { maxStack := 3, maxLocals := 2, code := jdk_42_method_155_code, exceptionTable := #[], attributes := #[] }
def k7m7 : Method := { name := "checkIndex", desc := "(II)V", sig := { parameters := [.int, .int], returnType := none }, accessFlags := 8, code := some k7c7 }
/-- java/lang/String -/
def k7 : Class := { plain "java/lang/String" (some 0) with
  accessFlags := 49
  interfaces := #[2, 3, 4, 5, 6]
  cf := some (fileOf pool7 10 #[.nestMembers #[1103]] #[{ accessFlags := 1, nameIndex := 5, descriptorIndex := 6, attributes := #[] }, { accessFlags := 1, nameIndex := 5, descriptorIndex := 1010, attributes := #[] }, { accessFlags := 1, nameIndex := 507, descriptorIndex := 334, attributes := #[] }, { accessFlags := 1, nameIndex := 504, descriptorIndex := 765, attributes := #[] }, { accessFlags := 2, nameIndex := 5, descriptorIndex := 29, attributes := #[] }, { accessFlags := 0, nameIndex := 17, descriptorIndex := 337, attributes := #[] }, { accessFlags := 0, nameIndex := 494, descriptorIndex := 142, attributes := #[] }, { accessFlags := 8, nameIndex := 501, descriptorIndex := 391, attributes := #[] }] 49 2 #[1106, 1108, 575, 1110, 1112] #[{ accessFlags := 18, nameIndex := 13, descriptorIndex := 14, attributes := #[] }, { accessFlags := 18, nameIndex := 17, descriptorIndex := 18, attributes := #[] }, { accessFlags := 2, nameIndex := 21, descriptorIndex := 22, attributes := #[] }, { accessFlags := 2, nameIndex := 25, descriptorIndex := 26, attributes := #[] }, { accessFlags := 26, nameIndex := 1116, descriptorIndex := 1117, attributes := #[] }, { accessFlags := 24, nameIndex := 40, descriptorIndex := 26, attributes := #[] }, { accessFlags := 26, nameIndex := 1101, descriptorIndex := 1102, attributes := #[] }, { accessFlags := 26, nameIndex := 1121, descriptorIndex := 1122, attributes := #[] }, { accessFlags := 25, nameIndex := 599, descriptorIndex := 600, attributes := #[] }, { accessFlags := 24, nameIndex := 1125, descriptorIndex := 18, attributes := #[] }, { accessFlags := 24, nameIndex := 1127, descriptorIndex := 18, attributes := #[] }])
  fields := #[{ name := "value", type := (.array .byte), accessFlags := 18, slot := 0, constantValue := 0 }, { name := "coder", type := .byte, accessFlags := 18, slot := 1, constantValue := 0 }, { name := "hash", type := .int, accessFlags := 2, slot := 2, constantValue := 0 }, { name := "hashIsZero", type := .boolean, accessFlags := 2, slot := 3, constantValue := 0 }, { name := "serialVersionUID", type := .long, accessFlags := 26, slot := 0, constantValue := 0 }, { name := "COMPACT_STRINGS", type := .boolean, accessFlags := 24, slot := 1, constantValue := 0 }, { name := "serialPersistentFields", type := (.array (.object "java/io/ObjectStreamField")), accessFlags := 26, slot := 2, constantValue := 0 }, { name := "REPL", type := .char, accessFlags := 26, slot := 3, constantValue := 0 }, { name := "CASE_INSENSITIVE_ORDER", type := (.object "java/util/Comparator"), accessFlags := 25, slot := 4, constantValue := 0 }, { name := "LATIN1", type := .byte, accessFlags := 24, slot := 5, constantValue := 0 }, { name := "UTF16", type := .byte, accessFlags := 24, slot := 6, constantValue := 0 }]
  methods := #[k7m0, k7m1, k7m2, k7m3, k7m4, k7m5, k7m6, k7m7]
  instanceTypes := #[(.array .byte), .byte, .int, .boolean]
  staticTypes := #[.long, .boolean, (.array (.object "java/io/ObjectStreamField")), .char, (.object "java/util/Comparator"), .byte, .byte]
  resolved := Array.replicate 1451 none
  statics := some 0 }

def pool8 : Array CpInfo := pool [(1, .class_ 2), (0, u "java/lang/Math"), (1, .class_ 6), (1, u "java/lang/Object"), (0, u "<init>"), (0, u "()V"), (89, .class_ 100), (1, u "java/lang/Math$RandomNumberGeneratorHolder"), (71, u "negativeZeroFloatBits"), (0, u "J"), (2, u "negativeZeroDoubleBits"), (24, u "min"), (43, u "$assertionsDisabled"), (0, u "Z"), (88, u "(II)I"), (2, u "twoToTheDoubleScaleDown"), (0, u "D"), (4, u "twoToTheDoubleScaleUp"), (9, u "E"), (3, u "PI"), (2, u "TAU"), (2, u "DEGREES_TO_RADIANS"), (0, u "RADIANS_TO_DEGREES")] 94

def k8m0 : Method := { name := "<init>", desc := "()V", sig := { parameters := [], returnType := none }, accessFlags := 2, code := none }
def k8c1 : Code := { maxStack := 2, maxLocals := 2, code := jdk_29_method_69_code, exceptionTable := #[], attributes := #[] }
def k8m1 : Method := { name := "min", desc := "(II)I", sig := { parameters := [.int, .int], returnType := some .int }, accessFlags := 9, code := some k8c1 }
/-- java/lang/Math -/
def k8 : Class := { plain "java/lang/Math" (some 0) with
  accessFlags := 49
  interfaces := #[]
  cf := some (fileOf pool8 1 #[.nestMembers #[98]] #[{ accessFlags := 2, nameIndex := 7, descriptorIndex := 8, attributes := #[] }, { accessFlags := 9, nameIndex := 201, descriptorIndex := 335, attributes := #[] }] 49 4 #[] #[{ accessFlags := 25, nameIndex := 354, descriptorIndex := 339, attributes := #[] }, { accessFlags := 25, nameIndex := 358, descriptorIndex := 339, attributes := #[] }, { accessFlags := 25, nameIndex := 361, descriptorIndex := 339, attributes := #[] }, { accessFlags := 26, nameIndex := 364, descriptorIndex := 339, attributes := #[] }, { accessFlags := 26, nameIndex := 365, descriptorIndex := 339, attributes := #[] }, { accessFlags := 26, nameIndex := 172, descriptorIndex := 173, attributes := #[] }, { accessFlags := 26, nameIndex := 176, descriptorIndex := 173, attributes := #[] }, { accessFlags := 8, nameIndex := 344, descriptorIndex := 339, attributes := #[] }, { accessFlags := 8, nameIndex := 338, descriptorIndex := 339, attributes := #[] }, { accessFlags := 4120, nameIndex := 245, descriptorIndex := 246, attributes := #[] }])
  fields := #[{ name := "E", type := .double, accessFlags := 25, slot := 0, constantValue := 0 }, { name := "PI", type := .double, accessFlags := 25, slot := 1, constantValue := 0 }, { name := "TAU", type := .double, accessFlags := 25, slot := 2, constantValue := 0 }, { name := "DEGREES_TO_RADIANS", type := .double, accessFlags := 26, slot := 3, constantValue := 0 }, { name := "RADIANS_TO_DEGREES", type := .double, accessFlags := 26, slot := 4, constantValue := 0 }, { name := "negativeZeroFloatBits", type := .long, accessFlags := 26, slot := 5, constantValue := 0 }, { name := "negativeZeroDoubleBits", type := .long, accessFlags := 26, slot := 6, constantValue := 0 }, { name := "twoToTheDoubleScaleUp", type := .double, accessFlags := 8, slot := 7, constantValue := 0 }, { name := "twoToTheDoubleScaleDown", type := .double, accessFlags := 8, slot := 8, constantValue := 0 }, { name := "$assertionsDisabled", type := .boolean, accessFlags := 4120, slot := 9, constantValue := 0 }]
  methods := #[k8m0, k8m1]
  instanceTypes := #[]
  staticTypes := #[.double, .double, .double, .double, .double, .long, .long, .double, .double, .boolean]
  resolved := Array.replicate 460 none
  statics := none }

def pool9 : Array CpInfo := pool [(2, .class_ 4), (1, u "java/lang/Object"), (0, u "<init>"), (0, u "()V"), (0, .methodref 8 9), (0, .class_ 10), (0, .nameAndType 11 12), (0, u "java/lang/String"), (0, u "length"), (0, u "()I"), (0, .methodref 8 14), (0, .nameAndType 15 16), (0, u "codePointAt"), (0, u "(I)I"), (0, .methodref 18 19), (0, .class_ 20), (0, .nameAndType 21 22), (0, u "java/lang/Integer"), (0, u "compare"), (0, u "(II)I"), (0, .methodref 24 25), (0, .class_ 26), (0, .nameAndType 27 16), (0, u "java/lang/Character"), (0, u "charCount"), (10, .class_ 40), (1, u "com/example/sunder/sunder/CodePointOrder"), (0, u "(Ljava/lang/String;Ljava/lang/String;)I")] 8

def k9m0 : Method := { name := "<init>", desc := "()V", sig := { parameters := [], returnType := none }, accessFlags := 2, code := none }
def k9c1 : Code := { maxStack := 2, maxLocals := 5, code := prog_3_method_2_code, exceptionTable := #[], attributes := #[] }
def k9m1 : Method := { name := "compare", desc := "(Ljava/lang/String;Ljava/lang/String;)I", sig := { parameters := [(.object "java/lang/String"), (.object "java/lang/String")], returnType := some .int }, accessFlags := 9, code := some k9c1 }
/-- com/example/sunder/sunder/CodePointOrder -/
def k9 : Class := { plain "com/example/sunder/sunder/CodePointOrder" (some 0) with
  accessFlags := 49
  interfaces := #[]
  cf := some (fileOf pool9 38 #[] #[{ accessFlags := 2, nameIndex := 5, descriptorIndex := 6, attributes := #[] }, { accessFlags := 9, nameIndex := 21, descriptorIndex := 41, attributes := #[] }] 49 2 #[] #[])
  fields := #[]
  methods := #[k9m0, k9m1]
  instanceTypes := #[]
  staticTypes := #[]
  resolved := Array.replicate 50 none
  statics := none }

def pool10 : Array CpInfo := pool [(2, .class_ 4), (1, u "java/lang/Object"), (0, u "<init>"), (0, u "()V"), (1, .class_ 10), (1, u "java/lang/Number"), (2, .class_ 14), (0, u "java/io/Serializable"), (0, u "serialVersionUID"), (0, u "J")] 20

def k10m0 : Method := { name := "<init>", desc := "()V", sig := { parameters := [], returnType := none }, accessFlags := 1, code := none }
/-- java/lang/Number -/
def k10 : Class := { plain "java/lang/Number" (some 0) with
  accessFlags := 1057
  interfaces := #[2]
  cf := some (fileOf pool10 8 #[] #[{ accessFlags := 1, nameIndex := 5, descriptorIndex := 6, attributes := #[] }] 1057 2 #[13] #[{ accessFlags := 26, nameIndex := 15, descriptorIndex := 16, attributes := #[] }])
  fields := #[{ name := "serialVersionUID", type := .long, accessFlags := 26, slot := 0, constantValue := 0 }]
  methods := #[k10m0]
  instanceTypes := #[]
  staticTypes := #[.long]
  resolved := Array.replicate 37 none
  statics := none }

def pool11 : Array CpInfo := pool [(1, .class_ 2), (0, u "java/lang/Integer"), (16, u "digits"), (0, u "[C"), (39, u "(II)I"), (24, u "DigitOnes"), (0, u "[B"), (2, u "DigitTens"), (99, .class_ 190), (0, u "java/lang/Integer$IntegerCache"), (3, u "I"), (8, .class_ 204), (0, u "java/lang/Number"), (2, u "value"), (53, u "compare"), (40, u "TYPE"), (0, u "Ljava/lang/Class;"), (0, .class_ 305), (0, u "java/lang/Comparable"), (0, .class_ 307), (0, u "java/lang/constant/Constable"), (0, .class_ 309), (0, u "java/lang/constant/ConstantDesc"), (0, u "MIN_VALUE"), (1, u "MAX_VALUE"), (3, u "SIZE"), (1, u "BYTES"), (1, u "serialVersionUID"), (0, u "J")] 131

def k11c0 : Code := { maxStack := 2, maxLocals := 2, code := jdk_33_method_40_code, exceptionTable := #[], attributes := #[] }
def k11m0 : Method := { name := "compare", desc := "(II)I", sig := { parameters := [.int, .int], returnType := some .int }, accessFlags := 9, code := some k11c0 }
/-- java/lang/Integer -/
def k11 : Class := { plain "java/lang/Integer" (some 10) with
  accessFlags := 49
  interfaces := #[3, 5, 6]
  cf := some (fileOf pool11 1 #[.nestMembers #[189]] #[{ accessFlags := 9, nameIndex := 261, descriptorIndex := 60, attributes := #[] }] 49 203 #[304, 306, 308] #[{ accessFlags := 25, nameIndex := 310, descriptorIndex := 194, attributes := #[] }, { accessFlags := 25, nameIndex := 312, descriptorIndex := 194, attributes := #[] }, { accessFlags := 25, nameIndex := 302, descriptorIndex := 303, attributes := #[] }, { accessFlags := 24, nameIndex := 19, descriptorIndex := 20, attributes := #[] }, { accessFlags := 24, nameIndex := 89, descriptorIndex := 86, attributes := #[] }, { accessFlags := 24, nameIndex := 85, descriptorIndex := 86, attributes := #[] }, { accessFlags := 18, nameIndex := 207, descriptorIndex := 194, attributes := #[] }, { accessFlags := 25, nameIndex := 316, descriptorIndex := 194, attributes := #[] }, { accessFlags := 25, nameIndex := 318, descriptorIndex := 194, attributes := #[] }, { accessFlags := 26, nameIndex := 320, descriptorIndex := 321, attributes := #[] }])
  fields := #[{ name := "MIN_VALUE", type := .int, accessFlags := 25, slot := 0, constantValue := 0 }, { name := "MAX_VALUE", type := .int, accessFlags := 25, slot := 1, constantValue := 0 }, { name := "TYPE", type := (.object "java/lang/Class"), accessFlags := 25, slot := 2, constantValue := 0 }, { name := "digits", type := (.array .char), accessFlags := 24, slot := 3, constantValue := 0 }, { name := "DigitTens", type := (.array .byte), accessFlags := 24, slot := 4, constantValue := 0 }, { name := "DigitOnes", type := (.array .byte), accessFlags := 24, slot := 5, constantValue := 0 }, { name := "value", type := .int, accessFlags := 18, slot := 0, constantValue := 0 }, { name := "SIZE", type := .int, accessFlags := 25, slot := 6, constantValue := 0 }, { name := "BYTES", type := .int, accessFlags := 25, slot := 7, constantValue := 0 }, { name := "serialVersionUID", type := .long, accessFlags := 26, slot := 8, constantValue := 0 }]
  methods := #[k11m0]
  instanceTypes := #[.int]
  staticTypes := #[.int, .int, (.object "java/lang/Class"), (.array .char), (.array .byte), (.array .byte), .int, .int, .long]
  resolved := Array.replicate 453 none
  statics := none }

def pool12 : Array CpInfo := pool [(6, .class_ 8), (1, u "java/lang/Object"), (0, u "<init>"), (0, u "()V"), (0, .methodref 12 13), (0, .class_ 14), (0, .nameAndType 15 16), (0, u "java/lang/StringUTF16"), (0, u "newBytesLength"), (0, u "(I)I"), (3, .integer 1073741823), (23, .fieldref 12 45), (0, .nameAndType 46 47), (0, u "$assertionsDisabled"), (0, u "Z"), (11, .fieldref 12 60), (0, .nameAndType 61 62), (0, u "HI_BYTE_SHIFT"), (0, u "I"), (0, .fieldref 12 64), (0, .nameAndType 65 62), (0, u "LO_BYTE_SHIFT"), (5, .methodref 12 72), (0, .nameAndType 73 74), (0, u "getChar"), (0, u "([BI)C"), (0, .methodref 76 77), (0, .class_ 78), (0, .nameAndType 79 80), (0, u "java/lang/Character"), (0, u "isHighSurrogate"), (0, u "(C)Z"), (0, .methodref 76 82), (0, .nameAndType 83 80), (0, u "isLowSurrogate"), (0, .methodref 76 85), (0, .nameAndType 86 87), (0, u "toCodePoint"), (0, u "(CC)I"), (0, .methodref 12 89), (0, .nameAndType 90 91), (0, u "codePointAt"), (0, u "([BIIZ)I"), (15, .methodref 12 108), (0, .nameAndType 109 110), (0, u "newBytesFor"), (0, u "(I)[B"), (0, .methodref 12 112), (0, .nameAndType 113 114), (0, u "putChar"), (0, u "([BII)V"), (0, .methodref 12 116), (0, .nameAndType 117 118), (0, u "compress"), (0, u "([CI[BII)I"), (0, .methodref 12 120), (0, .nameAndType 121 122), (0, u "toBytes"), (0, u "([CII)[B"), (127, u "([BII)I"), (10, u "coderFromArrayLen"), (0, u "([BI)B"), (106, .class_ 371), (1, u "java/lang/StringUTF16$LinesSpliterator"), (58, u "MAX_LENGTH"), (196, .class_ 628), (0, u "java/lang/StringUTF16$CodePointsSpliterator"), (0, .class_ 630), (0, u "java/lang/StringUTF16$CharsSpliterator")] 4

def k12m0 : Method := { name := "<init>", desc := "()V", sig := { parameters := [], returnType := none }, accessFlags := 0, code := none }
def k12c1 : Code := { maxStack := 1, maxLocals := 1, code := jdk_52_method_2_code, exceptionTable := #[], attributes := #[] }
def k12m1 : Method := { name := "newBytesFor", desc := "(I)[B", sig := { parameters := [.int], returnType := some (.array .byte) }, accessFlags := 9, code := some k12c1 }
def k12c2 : Code := { maxStack := 4, maxLocals := 1, code := jdk_52_method_3_code, exceptionTable := #[], attributes := #[] }
def k12m2 : Method := { name := "newBytesLength", desc := "(I)I", sig := { parameters := [.int], returnType := some .int }, accessFlags := 9, code := some k12c2 }
def k12c3 : Code := { maxStack := 4, maxLocals := 3, code := jdk_52_method_4_code, exceptionTable := #[], attributes := #[] }
def k12m3 : Method := { name := "putChar", desc := "([BII)V", sig := { parameters := [(.array .byte), .int, .int], returnType := none }, accessFlags := 8, code := some k12c3 }
def k12c4 : Code := { maxStack := 3, maxLocals := 2, code := jdk_52_method_5_code, exceptionTable := #[], attributes := #[] }
def k12m4 : Method := { name := "getChar", desc := "([BI)C", sig := { parameters := [(.array .byte), .int], returnType := some .char }, accessFlags := 8, code := some k12c4 }
def k12c5 : Code := { maxStack := 2, maxLocals := 6, code := jdk_52_method_7_code, exceptionTable := #[], attributes := #[] }
def k12m5 : Method := { name := "codePointAt", desc := "([BIIZ)I", sig := { parameters := [(.array .byte), .int, .int, .boolean], returnType := some .int }, accessFlags := 10, code := some k12c5 }
def k12c6 : Code := { maxStack := 4, maxLocals := 3, code := jdk_52_method_8_code, exceptionTable := #[], attributes := #[] }
def k12m6 : Method := { name := "codePointAt", desc := "([BII)I", sig := { parameters := [(.array .byte), .int, .int], returnType := some .int }, accessFlags := 9, code := some k12c6 }
def k12c7 : Code := { maxStack := 4, maxLocals := 5, code := jdk_52_method_14_code, exceptionTable := #[], attributes := #[] }
def k12m7 : Method := { name := "toBytes", desc := "([CII)[B", sig := { parameters := [(.array .char), .int, .int], returnType := some (.array .byte) }, accessFlags := 9, code := some k12c7 }
def k12c8 : Code := { maxStack := 2, maxLocals := 2, code := jdk_52_method_15_code, exceptionTable := #[], attributes := #[] }
def k12m8 : Method := { name := "coderFromArrayLen", desc := "([BI)B", sig := { parameters := [(.array .byte), .int], returnType := some .byte }, accessFlags := 8, code := some k12c8 }
def k12c9 : Code := { maxStack := 5, maxLocals := 6, code := jdk_52_method_16_code, exceptionTable := #[], attributes := #[] }
def k12m9 : Method := { name := "compress", desc := "([CII)[B", sig := { parameters := [(.array .char), .int, .int], returnType := some (.array .byte) }, accessFlags := 9, code := some k12c9 }
def k12c10 : Code := { maxStack := 3, maxLocals := 7, code := jdk_52_method_21_code, exceptionTable := #[], attributes := #[] }
def k12m10 : Method := { name := "compress", desc := "([CI[BII)I", sig := { parameters := [(.array .char), .int, (.array .byte), .int, .int], returnType := some .int }, accessFlags := 9, code := some k12c10 }
/-- java/lang/StringUTF16 -/
def k12 : Class := { plain "java/lang/StringUTF16" (some 0) with
  accessFlags := 48
  interfaces := #[]
  cf := some (fileOf pool12 12 #[.nestMembers #[627, 629, 369]] #[{ accessFlags := 0, nameIndex := 9, descriptorIndex := 10, attributes := #[] }, { accessFlags := 9, nameIndex := 109, descriptorIndex := 110, attributes := #[] }, { accessFlags := 9, nameIndex := 15, descriptorIndex := 16, attributes := #[] }, { accessFlags := 8, nameIndex := 113, descriptorIndex := 114, attributes := #[] }, { accessFlags := 8, nameIndex := 73, descriptorIndex := 74, attributes := #[] }, { accessFlags := 10, nameIndex := 90, descriptorIndex := 91, attributes := #[] }, { accessFlags := 9, nameIndex := 90, descriptorIndex := 250, attributes := #[] }, { accessFlags := 9, nameIndex := 121, descriptorIndex := 122, attributes := #[] }, { accessFlags := 8, nameIndex := 261, descriptorIndex := 262, attributes := #[] }, { accessFlags := 9, nameIndex := 117, descriptorIndex := 122, attributes := #[] }, { accessFlags := 9, nameIndex := 117, descriptorIndex := 118, attributes := #[] }] 48 6 #[] #[{ accessFlags := 26, nameIndex := 61, descriptorIndex := 62, attributes := #[] }, { accessFlags := 26, nameIndex := 65, descriptorIndex := 62, attributes := #[] }, { accessFlags := 24, nameIndex := 430, descriptorIndex := 62, attributes := #[] }, { accessFlags := 4120, nameIndex := 46, descriptorIndex := 47, attributes := #[] }])
  fields := #[{ name := "HI_BYTE_SHIFT", type := .int, accessFlags := 26, slot := 0, constantValue := 0 }, { name := "LO_BYTE_SHIFT", type := .int, accessFlags := 26, slot := 1, constantValue := 0 }, { name := "MAX_LENGTH", type := .int, accessFlags := 24, slot := 2, constantValue := 0 }, { name := "$assertionsDisabled", type := .boolean, accessFlags := 4120, slot := 3, constantValue := 0 }]
  methods := #[k12m0, k12m1, k12m2, k12m3, k12m4, k12m5, k12m6, k12m7, k12m8, k12m9, k12m10]
  instanceTypes := #[]
  staticTypes := #[.int, .int, .int, .boolean]
  resolved := Array.replicate 635 none
  statics := some 1 }

def pool13 : Array CpInfo := pool [(2, .class_ 4), (1, u "java/lang/Object"), (0, u "<init>"), (0, u "()V"), (17, .class_ 26), (1, u "jdk/internal/util/Preconditions"), (6, u "checkIndex"), (21, .class_ 56), (0, u "jdk/internal/util/Preconditions$4"), (57, .class_ 115), (0, u "jdk/internal/util/Preconditions$1"), (7, u "SIOOBE_FORMATTER"), (0, u "Ljava/util/function/BiFunction;"), (0, .class_ 126), (0, u "jdk/internal/util/Preconditions$2"), (3, u "AIOOBE_FORMATTER"), (0, .class_ 132), (0, u "jdk/internal/util/Preconditions$3"), (3, u "IOOBE_FORMATTER"), (41, u "(IILjava/util/function/BiFunction;)I")] 15

def k13m0 : Method := { name := "<init>", desc := "()V", sig := { parameters := [], returnType := none }, accessFlags := 1, code := none }
def k13c1 : Code := { maxStack := 3, maxLocals := 3, code := jdk_41_method_11_code, exceptionTable := #[], attributes := #[] }
def k13m1 : Method := { name := "checkIndex", desc := "(IILjava/util/function/BiFunction;)I", sig := { parameters := [.int, .int, (.object "java/util/function/BiFunction")], returnType := some .int }, accessFlags := 9, code := some k13c1 }
/-- jdk/internal/util/Preconditions -/
def k13 : Class := { plain "jdk/internal/util/Preconditions" (some 0) with
  accessFlags := 33
  interfaces := #[]
  cf := some (fileOf pool13 24 #[.nestMembers #[55, 131, 125, 114]] #[{ accessFlags := 1, nameIndex := 5, descriptorIndex := 6, attributes := #[] }, { accessFlags := 9, nameIndex := 33, descriptorIndex := 178, attributes := #[] }] 33 2 #[] #[{ accessFlags := 25, nameIndex := 123, descriptorIndex := 124, attributes := #[] }, { accessFlags := 25, nameIndex := 130, descriptorIndex := 124, attributes := #[] }, { accessFlags := 25, nameIndex := 136, descriptorIndex := 124, attributes := #[] }])
  fields := #[{ name := "SIOOBE_FORMATTER", type := (.object "java/util/function/BiFunction"), accessFlags := 25, slot := 0, constantValue := 0 }, { name := "AIOOBE_FORMATTER", type := (.object "java/util/function/BiFunction"), accessFlags := 25, slot := 1, constantValue := 0 }, { name := "IOOBE_FORMATTER", type := (.object "java/util/function/BiFunction"), accessFlags := 25, slot := 2, constantValue := 0 }]
  methods := #[k13m0, k13m1]
  instanceTypes := #[]
  staticTypes := #[(.object "java/util/function/BiFunction"), (.object "java/util/function/BiFunction"), (.object "java/util/function/BiFunction")]
  resolved := Array.replicate 194 none
  statics := some 2 }

def pool14 : Array CpInfo := pool [(1, .class_ 2), (0, u "java/lang/Character"), (18, u "value"), (0, u "C"), (19, .class_ 44), (1, u "java/lang/Object"), (3, .class_ 50), (1, u "java/lang/Character$CharacterCache"), (22, .integer 65536), (1, .integer 55296), (0, .integer 56320), (0, .integer 57344), (2, u "isHighSurrogate"), (0, u "(C)Z"), (2, u "isLowSurrogate"), (0, .integer 4238353408), (12, u "toCodePoint"), (0, u "(CC)I"), (74, u "(I)I"), (109, u "$assertionsDisabled"), (0, u "Z"), (21, .class_ 309), (1, u "java/lang/Character$UnicodeBlock"), (73, u "TYPE"), (0, u "Ljava/lang/Class;"), (0, .class_ 386), (0, u "java/io/Serializable"), (0, .class_ 388), (0, u "java/lang/Comparable"), (0, .class_ 390), (0, u "java/lang/constant/Constable"), (0, u "MIN_RADIX"), (0, u "I"), (2, u "MAX_RADIX"), (1, u "MIN_VALUE"), (1, u "MAX_VALUE"), (3, u "UNASSIGNED"), (0, u "B"), (0, u "UPPERCASE_LETTER"), (1, u "LOWERCASE_LETTER"), (0, u "TITLECASE_LETTER"), (1, u "MODIFIER_LETTER"), (1, u "OTHER_LETTER"), (1, u "NON_SPACING_MARK"), (1, u "ENCLOSING_MARK"), (1, u "COMBINING_SPACING_MARK"), (1, u "DECIMAL_DIGIT_NUMBER"), (1, u "LETTER_NUMBER"), (1, u "OTHER_NUMBER"), (1, u "SPACE_SEPARATOR"), (1, u "LINE_SEPARATOR"), (1, u "PARAGRAPH_SEPARATOR"), (1, u "CONTROL"), (1, u "FORMAT"), (1, u "PRIVATE_USE"), (1, u "SURROGATE"), (1, u "DASH_PUNCTUATION"), (1, u "START_PUNCTUATION"), (1, u "END_PUNCTUATION"), (1, u "CONNECTOR_PUNCTUATION"), (1, u "OTHER_PUNCTUATION"), (1, u "MATH_SYMBOL"), (1, u "CURRENCY_SYMBOL"), (1, u "MODIFIER_SYMBOL"), (1, u "OTHER_SYMBOL"), (1, u "INITIAL_QUOTE_PUNCTUATION"), (1, u "FINAL_QUOTE_PUNCTUATION"), (1, u "ERROR"), (1, u "DIRECTIONALITY_UNDEFINED"), (0, u "DIRECTIONALITY_LEFT_TO_RIGHT"), (0, u "DIRECTIONALITY_RIGHT_TO_LEFT"), (0, u "DIRECTIONALITY_RIGHT_TO_LEFT_ARABIC"), (0, u "DIRECTIONALITY_EUROPEAN_NUMBER"), (0, u "DIRECTIONALITY_EUROPEAN_NUMBER_SEPARATOR"), (0, u "DIRECTIONALITY_EUROPEAN_NUMBER_TERMINATOR"), (0, u "DIRECTIONALITY_ARABIC_NUMBER"), (0, u "DIRECTIONALITY_COMMON_NUMBER_SEPARATOR"), (0, u "DIRECTIONALITY_NONSPACING_MARK"), (0, u "DIRECTIONALITY_BOUNDARY_NEUTRAL"), (0, u "DIRECTIONALITY_PARAGRAPH_SEPARATOR"), (0, u "DIRECTIONALITY_SEGMENT_SEPARATOR"), (0, u "DIRECTIONALITY_WHITESPACE"), (0, u "DIRECTIONALITY_OTHER_NEUTRALS"), (0, u "DIRECTIONALITY_LEFT_TO_RIGHT_EMBEDDING"), (0, u "DIRECTIONALITY_LEFT_TO_RIGHT_OVERRIDE"), (0, u "DIRECTIONALITY_RIGHT_TO_LEFT_EMBEDDING"), (0, u "DIRECTIONALITY_RIGHT_TO_LEFT_OVERRIDE"), (1, u "DIRECTIONALITY_POP_DIRECTIONAL_FORMAT"), (0, u "DIRECTIONALITY_LEFT_TO_RIGHT_ISOLATE"), (0, u "DIRECTIONALITY_RIGHT_TO_LEFT_ISOLATE"), (0, u "DIRECTIONALITY_FIRST_STRONG_ISOLATE"), (0, u "DIRECTIONALITY_POP_DIRECTIONAL_ISOLATE"), (0, u "MIN_HIGH_SURROGATE"), (0, u "MAX_HIGH_SURROGATE"), (1, u "MIN_LOW_SURROGATE"), (0, u "MAX_LOW_SURROGATE"), (1, u "MIN_SURROGATE"), (0, u "MAX_SURROGATE"), (0, u "MIN_SUPPLEMENTARY_CODE_POINT"), (0, u "MIN_CODE_POINT"), (0, u "MAX_CODE_POINT"), (1, u "serialVersionUID"), (0, u "J"), (2, u "SIZE"), (0, u "BYTES"), (29, u "charCount"), (58, .class_ 596), (0, u "java/lang/Character$UnicodeScript"), (0, .class_ 598), (0, u "java/lang/Character$Subset")] 5

def k14c0 : Code := { maxStack := 2, maxLocals := 1, code := jdk_89_method_14_code, exceptionTable := #[], attributes := #[] }
def k14m0 : Method := { name := "isHighSurrogate", desc := "(C)Z", sig := { parameters := [.char], returnType := some .boolean }, accessFlags := 9, code := some k14c0 }
def k14c1 : Code := { maxStack := 2, maxLocals := 1, code := jdk_89_method_15_code, exceptionTable := #[], attributes := #[] }
def k14m1 : Method := { name := "isLowSurrogate", desc := "(C)Z", sig := { parameters := [.char], returnType := some .boolean }, accessFlags := 9, code := some k14c1 }
def k14c2 : Code := { maxStack := 2, maxLocals := 1, code := jdk_89_method_18_code, exceptionTable := #[], attributes := #[] }
def k14m2 : Method := { name := "charCount", desc := "(I)I", sig := { parameters := [.int], returnType := some .int }, accessFlags := 9, code := some k14c2 }
def k14c3 : Code := { maxStack := 2, maxLocals := 2, code := jdk_89_method_19_code, exceptionTable := #[], attributes := #[] }
def k14m3 : Method := { name := "toCodePoint", desc := "(CC)I", sig := { parameters := [.char, .char], returnType := some .int }, accessFlags := 9, code := some k14c3 }
/-- java/lang/Character -/
def k14 : Class := { plain "java/lang/Character" (some 0) with
  accessFlags := 49
  interfaces := #[2, 3, 5]
  cf := some (fileOf pool14 1 #[.nestMembers #[48, 595, 307, 597]] #[{ accessFlags := 9, nameIndex := 80, descriptorIndex := 81, attributes := #[] }, { accessFlags := 9, nameIndex := 84, descriptorIndex := 81, attributes := #[] }, { accessFlags := 9, nameIndex := 536, descriptorIndex := 174, attributes := #[] }, { accessFlags := 9, nameIndex := 98, descriptorIndex := 99, attributes := #[] }] 49 42 #[385, 387, 389] #[{ accessFlags := 25, nameIndex := 391, descriptorIndex := 392, attributes := #[] }, { accessFlags := 25, nameIndex := 395, descriptorIndex := 392, attributes := #[] }, { accessFlags := 25, nameIndex := 397, descriptorIndex := 22, attributes := #[] }, { accessFlags := 25, nameIndex := 399, descriptorIndex := 22, attributes := #[] }, { accessFlags := 25, nameIndex := 383, descriptorIndex := 384, attributes := #[] }, { accessFlags := 25, nameIndex := 403, descriptorIndex := 404, attributes := #[] }, { accessFlags := 25, nameIndex := 405, descriptorIndex := 404, attributes := #[] }, { accessFlags := 25, nameIndex := 407, descriptorIndex := 404, attributes := #[] }, { accessFlags := 25, nameIndex := 408, descriptorIndex := 404, attributes := #[] }, { accessFlags := 25, nameIndex := 410, descriptorIndex := 404, attributes := #[] }, { accessFlags := 25, nameIndex := 412, descriptorIndex := 404, attributes := #[] }, { accessFlags := 25, nameIndex := 414, descriptorIndex := 404, attributes := #[] }, { accessFlags := 25, nameIndex := 416, descriptorIndex := 404, attributes := #[] }, { accessFlags := 25, nameIndex := 418, descriptorIndex := 404, attributes := #[] }, { accessFlags := 25, nameIndex := 420, descriptorIndex := 404, attributes := #[] }, { accessFlags := 25, nameIndex := 422, descriptorIndex := 404, attributes := #[] }, { accessFlags := 25, nameIndex := 424, descriptorIndex := 404, attributes := #[] }, { accessFlags := 25, nameIndex := 426, descriptorIndex := 404, attributes := #[] }, { accessFlags := 25, nameIndex := 428, descriptorIndex := 404, attributes := #[] }, { accessFlags := 25, nameIndex := 430, descriptorIndex := 404, attributes := #[] }, { accessFlags := 25, nameIndex := 432, descriptorIndex := 404, attributes := #[] }, { accessFlags := 25, nameIndex := 434, descriptorIndex := 404, attributes := #[] }, { accessFlags := 25, nameIndex := 436, descriptorIndex := 404, attributes := #[] }, { accessFlags := 25, nameIndex := 438, descriptorIndex := 404, attributes := #[] }, { accessFlags := 25, nameIndex := 440, descriptorIndex := 404, attributes := #[] }, { accessFlags := 25, nameIndex := 442, descriptorIndex := 404, attributes := #[] }, { accessFlags := 25, nameIndex := 444, descriptorIndex := 404, attributes := #[] }, { accessFlags := 25, nameIndex := 446, descriptorIndex := 404, attributes := #[] }, { accessFlags := 25, nameIndex := 448, descriptorIndex := 404, attributes := #[] }, { accessFlags := 25, nameIndex := 450, descriptorIndex := 404, attributes := #[] }, { accessFlags := 25, nameIndex := 452, descriptorIndex := 404, attributes := #[] }, { accessFlags := 25, nameIndex := 454, descriptorIndex := 404, attributes := #[] }, { accessFlags := 25, nameIndex := 456, descriptorIndex := 404, attributes := #[] }, { accessFlags := 25, nameIndex := 458, descriptorIndex := 404, attributes := #[] }, { accessFlags := 25, nameIndex := 460, descriptorIndex := 404, attributes := #[] }, { accessFlags := 24, nameIndex := 462, descriptorIndex := 392, attributes := #[] }, { accessFlags := 25, nameIndex := 464, descriptorIndex := 404, attributes := #[] }, { accessFlags := 25, nameIndex := 465, descriptorIndex := 404, attributes := #[] }, { accessFlags := 25, nameIndex := 466, descriptorIndex := 404, attributes := #[] }, { accessFlags := 25, nameIndex := 467, descriptorIndex := 404, attributes := #[] }, { accessFlags := 25, nameIndex := 468, descriptorIndex := 404, attributes := #[] }, { accessFlags := 25, nameIndex := 469, descriptorIndex := 404, attributes := #[] }, { accessFlags := 25, nameIndex := 470, descriptorIndex := 404, attributes := #[] }, { accessFlags := 25, nameIndex := 471, descriptorIndex := 404, attributes := #[] }, { accessFlags := 25, nameIndex := 472, descriptorIndex := 404, attributes := #[] }, { accessFlags := 25, nameIndex := 473, descriptorIndex := 404, attributes := #[] }, { accessFlags := 25, nameIndex := 474, descriptorIndex := 404, attributes := #[] }, { accessFlags := 25, nameIndex := 475, descriptorIndex := 404, attributes := #[] }, { accessFlags := 25, nameIndex := 476, descriptorIndex := 404, attributes := #[] }, { accessFlags := 25, nameIndex := 477, descriptorIndex := 404, attributes := #[] }, { accessFlags := 25, nameIndex := 478, descriptorIndex := 404, attributes := #[] }, { accessFlags := 25, nameIndex := 479, descriptorIndex := 404, attributes := #[] }, { accessFlags := 25, nameIndex := 480, descriptorIndex := 404, attributes := #[] }, { accessFlags := 25, nameIndex := 481, descriptorIndex := 404, attributes := #[] }, { accessFlags := 25, nameIndex := 482, descriptorIndex := 404, attributes := #[] }, { accessFlags := 25, nameIndex := 484, descriptorIndex := 404, attributes := #[] }, { accessFlags := 25, nameIndex := 485, descriptorIndex := 404, attributes := #[] }, { accessFlags := 25, nameIndex := 486, descriptorIndex := 404, attributes := #[] }, { accessFlags := 25, nameIndex := 487, descriptorIndex := 404, attributes := #[] }, { accessFlags := 25, nameIndex := 488, descriptorIndex := 404, attributes := #[] }, { accessFlags := 25, nameIndex := 489, descriptorIndex := 22, attributes := #[] }, { accessFlags := 25, nameIndex := 490, descriptorIndex := 22, attributes := #[] }, { accessFlags := 25, nameIndex := 492, descriptorIndex := 22, attributes := #[] }, { accessFlags := 25, nameIndex := 493, descriptorIndex := 22, attributes := #[] }, { accessFlags := 25, nameIndex := 495, descriptorIndex := 22, attributes := #[] }, { accessFlags := 25, nameIndex := 496, descriptorIndex := 22, attributes := #[] }, { accessFlags := 25, nameIndex := 497, descriptorIndex := 392, attributes := #[] }, { accessFlags := 25, nameIndex := 498, descriptorIndex := 392, attributes := #[] }, { accessFlags := 25, nameIndex := 499, descriptorIndex := 392, attributes := #[] }, { accessFlags := 18, nameIndex := 21, descriptorIndex := 22, attributes := #[] }, { accessFlags := 26, nameIndex := 501, descriptorIndex := 502, attributes := #[] }, { accessFlags := 25, nameIndex := 505, descriptorIndex := 392, attributes := #[] }, { accessFlags := 25, nameIndex := 506, descriptorIndex := 392, attributes := #[] }, { accessFlags := 4120, nameIndex := 284, descriptorIndex := 285, attributes := #[] }])
  fields := #[{ name := "MIN_RADIX", type := .int, accessFlags := 25, slot := 0, constantValue := 0 }, { name := "MAX_RADIX", type := .int, accessFlags := 25, slot := 1, constantValue := 0 }, { name := "MIN_VALUE", type := .char, accessFlags := 25, slot := 2, constantValue := 0 }, { name := "MAX_VALUE", type := .char, accessFlags := 25, slot := 3, constantValue := 0 }, { name := "TYPE", type := (.object "java/lang/Class"), accessFlags := 25, slot := 4, constantValue := 0 }, { name := "UNASSIGNED", type := .byte, accessFlags := 25, slot := 5, constantValue := 0 }, { name := "UPPERCASE_LETTER", type := .byte, accessFlags := 25, slot := 6, constantValue := 0 }, { name := "LOWERCASE_LETTER", type := .byte, accessFlags := 25, slot := 7, constantValue := 0 }, { name := "TITLECASE_LETTER", type := .byte, accessFlags := 25, slot := 8, constantValue := 0 }, { name := "MODIFIER_LETTER", type := .byte, accessFlags := 25, slot := 9, constantValue := 0 }, { name := "OTHER_LETTER", type := .byte, accessFlags := 25, slot := 10, constantValue := 0 }, { name := "NON_SPACING_MARK", type := .byte, accessFlags := 25, slot := 11, constantValue := 0 }, { name := "ENCLOSING_MARK", type := .byte, accessFlags := 25, slot := 12, constantValue := 0 }, { name := "COMBINING_SPACING_MARK", type := .byte, accessFlags := 25, slot := 13, constantValue := 0 }, { name := "DECIMAL_DIGIT_NUMBER", type := .byte, accessFlags := 25, slot := 14, constantValue := 0 }, { name := "LETTER_NUMBER", type := .byte, accessFlags := 25, slot := 15, constantValue := 0 }, { name := "OTHER_NUMBER", type := .byte, accessFlags := 25, slot := 16, constantValue := 0 }, { name := "SPACE_SEPARATOR", type := .byte, accessFlags := 25, slot := 17, constantValue := 0 }, { name := "LINE_SEPARATOR", type := .byte, accessFlags := 25, slot := 18, constantValue := 0 }, { name := "PARAGRAPH_SEPARATOR", type := .byte, accessFlags := 25, slot := 19, constantValue := 0 }, { name := "CONTROL", type := .byte, accessFlags := 25, slot := 20, constantValue := 0 }, { name := "FORMAT", type := .byte, accessFlags := 25, slot := 21, constantValue := 0 }, { name := "PRIVATE_USE", type := .byte, accessFlags := 25, slot := 22, constantValue := 0 }, { name := "SURROGATE", type := .byte, accessFlags := 25, slot := 23, constantValue := 0 }, { name := "DASH_PUNCTUATION", type := .byte, accessFlags := 25, slot := 24, constantValue := 0 }, { name := "START_PUNCTUATION", type := .byte, accessFlags := 25, slot := 25, constantValue := 0 }, { name := "END_PUNCTUATION", type := .byte, accessFlags := 25, slot := 26, constantValue := 0 }, { name := "CONNECTOR_PUNCTUATION", type := .byte, accessFlags := 25, slot := 27, constantValue := 0 }, { name := "OTHER_PUNCTUATION", type := .byte, accessFlags := 25, slot := 28, constantValue := 0 }, { name := "MATH_SYMBOL", type := .byte, accessFlags := 25, slot := 29, constantValue := 0 }, { name := "CURRENCY_SYMBOL", type := .byte, accessFlags := 25, slot := 30, constantValue := 0 }, { name := "MODIFIER_SYMBOL", type := .byte, accessFlags := 25, slot := 31, constantValue := 0 }, { name := "OTHER_SYMBOL", type := .byte, accessFlags := 25, slot := 32, constantValue := 0 }, { name := "INITIAL_QUOTE_PUNCTUATION", type := .byte, accessFlags := 25, slot := 33, constantValue := 0 }, { name := "FINAL_QUOTE_PUNCTUATION", type := .byte, accessFlags := 25, slot := 34, constantValue := 0 }, { name := "ERROR", type := .int, accessFlags := 24, slot := 35, constantValue := 0 }, { name := "DIRECTIONALITY_UNDEFINED", type := .byte, accessFlags := 25, slot := 36, constantValue := 0 }, { name := "DIRECTIONALITY_LEFT_TO_RIGHT", type := .byte, accessFlags := 25, slot := 37, constantValue := 0 }, { name := "DIRECTIONALITY_RIGHT_TO_LEFT", type := .byte, accessFlags := 25, slot := 38, constantValue := 0 }, { name := "DIRECTIONALITY_RIGHT_TO_LEFT_ARABIC", type := .byte, accessFlags := 25, slot := 39, constantValue := 0 }, { name := "DIRECTIONALITY_EUROPEAN_NUMBER", type := .byte, accessFlags := 25, slot := 40, constantValue := 0 }, { name := "DIRECTIONALITY_EUROPEAN_NUMBER_SEPARATOR", type := .byte, accessFlags := 25, slot := 41, constantValue := 0 }, { name := "DIRECTIONALITY_EUROPEAN_NUMBER_TERMINATOR", type := .byte, accessFlags := 25, slot := 42, constantValue := 0 }, { name := "DIRECTIONALITY_ARABIC_NUMBER", type := .byte, accessFlags := 25, slot := 43, constantValue := 0 }, { name := "DIRECTIONALITY_COMMON_NUMBER_SEPARATOR", type := .byte, accessFlags := 25, slot := 44, constantValue := 0 }, { name := "DIRECTIONALITY_NONSPACING_MARK", type := .byte, accessFlags := 25, slot := 45, constantValue := 0 }, { name := "DIRECTIONALITY_BOUNDARY_NEUTRAL", type := .byte, accessFlags := 25, slot := 46, constantValue := 0 }, { name := "DIRECTIONALITY_PARAGRAPH_SEPARATOR", type := .byte, accessFlags := 25, slot := 47, constantValue := 0 }, { name := "DIRECTIONALITY_SEGMENT_SEPARATOR", type := .byte, accessFlags := 25, slot := 48, constantValue := 0 }, { name := "DIRECTIONALITY_WHITESPACE", type := .byte, accessFlags := 25, slot := 49, constantValue := 0 }, { name := "DIRECTIONALITY_OTHER_NEUTRALS", type := .byte, accessFlags := 25, slot := 50, constantValue := 0 }, { name := "DIRECTIONALITY_LEFT_TO_RIGHT_EMBEDDING", type := .byte, accessFlags := 25, slot := 51, constantValue := 0 }, { name := "DIRECTIONALITY_LEFT_TO_RIGHT_OVERRIDE", type := .byte, accessFlags := 25, slot := 52, constantValue := 0 }, { name := "DIRECTIONALITY_RIGHT_TO_LEFT_EMBEDDING", type := .byte, accessFlags := 25, slot := 53, constantValue := 0 }, { name := "DIRECTIONALITY_RIGHT_TO_LEFT_OVERRIDE", type := .byte, accessFlags := 25, slot := 54, constantValue := 0 }, { name := "DIRECTIONALITY_POP_DIRECTIONAL_FORMAT", type := .byte, accessFlags := 25, slot := 55, constantValue := 0 }, { name := "DIRECTIONALITY_LEFT_TO_RIGHT_ISOLATE", type := .byte, accessFlags := 25, slot := 56, constantValue := 0 }, { name := "DIRECTIONALITY_RIGHT_TO_LEFT_ISOLATE", type := .byte, accessFlags := 25, slot := 57, constantValue := 0 }, { name := "DIRECTIONALITY_FIRST_STRONG_ISOLATE", type := .byte, accessFlags := 25, slot := 58, constantValue := 0 }, { name := "DIRECTIONALITY_POP_DIRECTIONAL_ISOLATE", type := .byte, accessFlags := 25, slot := 59, constantValue := 0 }, { name := "MIN_HIGH_SURROGATE", type := .char, accessFlags := 25, slot := 60, constantValue := 0 }, { name := "MAX_HIGH_SURROGATE", type := .char, accessFlags := 25, slot := 61, constantValue := 0 }, { name := "MIN_LOW_SURROGATE", type := .char, accessFlags := 25, slot := 62, constantValue := 0 }, { name := "MAX_LOW_SURROGATE", type := .char, accessFlags := 25, slot := 63, constantValue := 0 }, { name := "MIN_SURROGATE", type := .char, accessFlags := 25, slot := 64, constantValue := 0 }, { name := "MAX_SURROGATE", type := .char, accessFlags := 25, slot := 65, constantValue := 0 }, { name := "MIN_SUPPLEMENTARY_CODE_POINT", type := .int, accessFlags := 25, slot := 66, constantValue := 0 }, { name := "MIN_CODE_POINT", type := .int, accessFlags := 25, slot := 67, constantValue := 0 }, { name := "MAX_CODE_POINT", type := .int, accessFlags := 25, slot := 68, constantValue := 0 }, { name := "value", type := .char, accessFlags := 18, slot := 0, constantValue := 0 }, { name := "serialVersionUID", type := .long, accessFlags := 26, slot := 69, constantValue := 0 }, { name := "SIZE", type := .int, accessFlags := 25, slot := 70, constantValue := 0 }, { name := "BYTES", type := .int, accessFlags := 25, slot := 71, constantValue := 0 }, { name := "$assertionsDisabled", type := .boolean, accessFlags := 4120, slot := 72, constantValue := 0 }]
  methods := #[k14m0, k14m1, k14m2, k14m3]
  instanceTypes := #[.char]
  staticTypes := #[.int, .int, .char, .char, (.object "java/lang/Class"), .byte, .byte, .byte, .byte, .byte, .byte, .byte, .byte, .byte, .byte, .byte, .byte, .byte, .byte, .byte, .byte, .byte, .byte, .byte, .byte, .byte, .byte, .byte, .byte, .byte, .byte, .byte, .byte, .byte, .byte, .int, .byte, .byte, .byte, .byte, .byte, .byte, .byte, .byte, .byte, .byte, .byte, .byte, .byte, .byte, .byte, .byte, .byte, .byte, .byte, .byte, .byte, .byte, .byte, .byte, .char, .char, .char, .char, .char, .char, .int, .int, .int, .long, .int, .int, .boolean]
  resolved := Array.replicate 604 none
  statics := none }

def pool15 : Array CpInfo := pool [(4, .class_ 6), (1, u "java/lang/Object"), (0, u "<init>"), (0, u "()V"), (5, .class_ 16), (1, u "java/lang/StringLatin1"), (104, u "$assertionsDisabled"), (0, u "Z"), (98, .class_ 223), (1, u "java/lang/StringLatin1$LinesSpliterator"), (166, .class_ 391), (0, u "java/lang/StringLatin1$CharsSpliterator")] 3

def k15m0 : Method := { name := "<init>", desc := "()V", sig := { parameters := [], returnType := none }, accessFlags := 0, code := none }
/-- java/lang/StringLatin1 -/
def k15 : Class := { plain "java/lang/StringLatin1" (some 0) with
  accessFlags := 48
  interfaces := #[]
  cf := some (fileOf pool15 14 #[.nestMembers #[390, 221]] #[{ accessFlags := 0, nameIndex := 7, descriptorIndex := 8, attributes := #[] }] 48 4 #[] #[{ accessFlags := 4120, nameIndex := 121, descriptorIndex := 122, attributes := #[] }])
  fields := #[{ name := "$assertionsDisabled", type := .boolean, accessFlags := 4120, slot := 0, constantValue := 0 }]
  methods := #[k15m0]
  instanceTypes := #[]
  staticTypes := #[.boolean]
  resolved := Array.replicate 395 none
  statics := none }

def pool16 : Array CpInfo := pool [(9, u "<init>"), (6, .class_ 18), (1, u "java/lang/Object"), (0, u "()V"), (1, .class_ 23), (1, u "jdk/internal/util/ArraysSupport"), (0, u "LOG2_ARRAY_LONG_INDEX_SCALE"), (0, u "I"), (2, u "U"), (0, u "Ljdk/internal/misc/Unsafe;"), (8, u "BIG_ENDIAN"), (0, u "Z"), (8, u "LOG2_BYTE_BIT_SIZE"), (4, u "LOG2_ARRAY_INT_INDEX_SCALE"), (54, u "JLA"), (0, u "Ljdk/internal/access/JavaLangAccess;"), (11, u "LOG2_ARRAY_BOOLEAN_INDEX_SCALE"), (9, u "LOG2_ARRAY_BYTE_INDEX_SCALE"), (5, u "LOG2_ARRAY_CHAR_INDEX_SCALE"), (5, u "LOG2_ARRAY_SHORT_INDEX_SCALE"), (18, u "LOG2_ARRAY_FLOAT_INDEX_SCALE"), (24, u "LOG2_ARRAY_DOUBLE_INDEX_SCALE"), (89, u "T_BOOLEAN"), (2, u "T_CHAR"), (1, u "T_FLOAT"), (1, u "T_DOUBLE"), (1, u "T_BYTE"), (1, u "T_SHORT"), (1, u "T_INT"), (1, u "T_LONG"), (1, u "SOFT_MAX_ARRAY_LENGTH")] 83

def k16m0 : Method := { name := "<init>", desc := "()V", sig := { parameters := [], returnType := none }, accessFlags := 2, code := none }
/-- jdk/internal/util/ArraysSupport -/
def k16 : Class := { plain "jdk/internal/util/ArraysSupport" (some 0) with
  accessFlags := 33
  interfaces := #[]
  cf := some (fileOf pool16 21 #[] #[{ accessFlags := 2, nameIndex := 9, descriptorIndex := 19, attributes := #[] }] 33 16 #[] #[{ accessFlags := 24, nameIndex := 28, descriptorIndex := 29, attributes := #[] }, { accessFlags := 26, nameIndex := 38, descriptorIndex := 39, attributes := #[] }, { accessFlags := 25, nameIndex := 121, descriptorIndex := 25, attributes := #[] }, { accessFlags := 25, nameIndex := 131, descriptorIndex := 25, attributes := #[] }, { accessFlags := 25, nameIndex := 137, descriptorIndex := 25, attributes := #[] }, { accessFlags := 25, nameIndex := 143, descriptorIndex := 25, attributes := #[] }, { accessFlags := 25, nameIndex := 53, descriptorIndex := 25, attributes := #[] }, { accessFlags := 25, nameIndex := 24, descriptorIndex := 25, attributes := #[] }, { accessFlags := 25, nameIndex := 162, descriptorIndex := 25, attributes := #[] }, { accessFlags := 25, nameIndex := 187, descriptorIndex := 25, attributes := #[] }, { accessFlags := 26, nameIndex := 48, descriptorIndex := 25, attributes := #[] }, { accessFlags := 25, nameIndex := 277, descriptorIndex := 25, attributes := #[] }, { accessFlags := 25, nameIndex := 280, descriptorIndex := 25, attributes := #[] }, { accessFlags := 25, nameIndex := 282, descriptorIndex := 25, attributes := #[] }, { accessFlags := 25, nameIndex := 284, descriptorIndex := 25, attributes := #[] }, { accessFlags := 25, nameIndex := 286, descriptorIndex := 25, attributes := #[] }, { accessFlags := 25, nameIndex := 288, descriptorIndex := 25, attributes := #[] }, { accessFlags := 25, nameIndex := 290, descriptorIndex := 25, attributes := #[] }, { accessFlags := 25, nameIndex := 292, descriptorIndex := 25, attributes := #[] }, { accessFlags := 26, nameIndex := 108, descriptorIndex := 109, attributes := #[] }, { accessFlags := 25, nameIndex := 294, descriptorIndex := 25, attributes := #[] }])
  fields := #[{ name := "U", type := (.object "jdk/internal/misc/Unsafe"), accessFlags := 24, slot := 0, constantValue := 0 }, { name := "BIG_ENDIAN", type := .boolean, accessFlags := 26, slot := 1, constantValue := 0 }, { name := "LOG2_ARRAY_BOOLEAN_INDEX_SCALE", type := .int, accessFlags := 25, slot := 2, constantValue := 0 }, { name := "LOG2_ARRAY_BYTE_INDEX_SCALE", type := .int, accessFlags := 25, slot := 3, constantValue := 0 }, { name := "LOG2_ARRAY_CHAR_INDEX_SCALE", type := .int, accessFlags := 25, slot := 4, constantValue := 0 }, { name := "LOG2_ARRAY_SHORT_INDEX_SCALE", type := .int, accessFlags := 25, slot := 5, constantValue := 0 }, { name := "LOG2_ARRAY_INT_INDEX_SCALE", type := .int, accessFlags := 25, slot := 6, constantValue := 0 }, { name := "LOG2_ARRAY_LONG_INDEX_SCALE", type := .int, accessFlags := 25, slot := 7, constantValue := 0 }, { name := "LOG2_ARRAY_FLOAT_INDEX_SCALE", type := .int, accessFlags := 25, slot := 8, constantValue := 0 }, { name := "LOG2_ARRAY_DOUBLE_INDEX_SCALE", type := .int, accessFlags := 25, slot := 9, constantValue := 0 }, { name := "LOG2_BYTE_BIT_SIZE", type := .int, accessFlags := 26, slot := 10, constantValue := 0 }, { name := "T_BOOLEAN", type := .int, accessFlags := 25, slot := 11, constantValue := 0 }, { name := "T_CHAR", type := .int, accessFlags := 25, slot := 12, constantValue := 0 }, { name := "T_FLOAT", type := .int, accessFlags := 25, slot := 13, constantValue := 0 }, { name := "T_DOUBLE", type := .int, accessFlags := 25, slot := 14, constantValue := 0 }, { name := "T_BYTE", type := .int, accessFlags := 25, slot := 15, constantValue := 0 }, { name := "T_SHORT", type := .int, accessFlags := 25, slot := 16, constantValue := 0 }, { name := "T_INT", type := .int, accessFlags := 25, slot := 17, constantValue := 0 }, { name := "T_LONG", type := .int, accessFlags := 25, slot := 18, constantValue := 0 }, { name := "JLA", type := (.object "jdk/internal/access/JavaLangAccess"), accessFlags := 26, slot := 19, constantValue := 0 }, { name := "SOFT_MAX_ARRAY_LENGTH", type := .int, accessFlags := 25, slot := 20, constantValue := 0 }]
  methods := #[k16m0]
  instanceTypes := #[]
  staticTypes := #[(.object "jdk/internal/misc/Unsafe"), .boolean, .int, .int, .int, .int, .int, .int, .int, .int, .int, .int, .int, .int, .int, .int, .int, .int, .int, (.object "jdk/internal/access/JavaLangAccess"), .int]
  resolved := Array.replicate 378 none
  statics := none }

def pool17 : Array CpInfo := pool [(1, u "java/lang/Cloneable"), (0, .class_ 1), (0, u "java/lang/Object"), (0, .class_ 3)] 3

/-- java/lang/Cloneable -/
def k17 : Class := { plain "java/lang/Cloneable" (some 0) with
  accessFlags := 1537
  interfaces := #[]
  cf := some (fileOf pool17 2 #[] #[] 1537 4 #[] #[])
  fields := #[]
  methods := #[]
  instanceTypes := #[]
  staticTypes := #[]
  resolved := Array.replicate 8 none
  statics := none }

/-- the primitive byte -/
def k18 : Class := { plain "byte" none with kind := .primitive 'B', accessFlags := 0x411 }
/-- [B -/
def k19 : Class := { plain "[B" (some 0) with kind := .array 18 .byte, interfaces := #[17, 2], accessFlags := 1041 }

/-- the primitive char -/
def k20 : Class := { plain "char" none with kind := .primitive 'C', accessFlags := 0x411 }
/-- [C -/
def k21 : Class := { plain "[C" (some 0) with kind := .array 20 .char, interfaces := #[17, 2], accessFlags := 1041 }

/-- the primitive int -/
def k22 : Class := { plain "int" none with kind := .primitive 'I', accessFlags := 0x411 }
/-- [I -/
def k23 : Class := { plain "[I" (some 0) with kind := .array 22 .int, interfaces := #[17, 2], accessFlags := 1041 }

def heap : Heap := #[{ cls := 7, slots := #[.long 0, .int 1, .null, .int 0, .null, .int 0, .int 0], vm := .statics 7 },
  { cls := 12, slots := #[.int 0, .int 8, .int 0, .int 1], vm := .statics 12 },
  { cls := 13, slots := #[.null, .null, .null], vm := .statics 13 }]
def classes : Array Class := #[k0, k1, k2, k3, k4, k5, k6, k7, k8, k9, k10, k11, k12, k13, k14, k15, k16, k17, k18, k19, k20, k21, k22, k23]
def interned : List (Array UInt16 × Addr) := []
def slotsUsed : Nat := 14
def theMethod : MethodId := ⟨1, 1⟩
def args0 : Array Value := #[.int 5, .int 6, .int 7, .int 8, .int 9, .int 10]
def aboutOver (below : List Frame) : State where
  vm := { classes := classes, interned := interned.toArray }
  heap := heap
  slotsUsed := slotsUsed
  threads := #[{ frames := .invoking theMethod args0 :: below }]
def below0 : List Frame := [.native { method := ⟨0, 0⟩, args := #[] }]
def about1 : State := aboutOver below0
def p0 : Program := .bare "" "" ""
def e0 : Env := launch0.env 0 0 0
theorem w_frames : about1.frames = Frame.invoking theMethod args0 :: below0 := rfl
set_option maxRecDepth 65536 in
theorem w_args : argsFit about1.vm theMethod args0 = true := by decide +kernel
set_option maxRecDepth 65536 in
theorem w_heap : heapFits about1 = true := by decide +kernel
set_option maxRecDepth 65536 in
theorem w_runnable : about1.curStatus? = some .runnable := by decide +kernel
set_option maxRecDepth 65536 in
theorem w_alone : about1.alone = true := by decide +kernel
set_option maxRecDepth 65536 in
theorem w_named : about1.methodNamed? x = some theMethod := by decide +kernel
set_option maxRecDepth 65536 in
theorem w_hears : about1.hears theMethod below0 = true := by decide +kernel
set_option maxRecDepth 65536 in
theorem w_ripe : about1.ripe theMethod args0 below0 = true := by decide +kernel
theorem w_running : about1.status = .running := rfl
set_option maxRecDepth 65536 in
theorem w_room : about1.hasRoom e0.platform room_1 = true :=
  launch0.hasRoom_least _ room_1 (by decide +kernel) (by decide +kernel) (by decide +kernel) (by decide +kernel) (by decide +kernel) (by decide +kernel)
theorem allAtoms_all (ts : List Jvm.Cond) (a : Array Jvm.Value) (st : Jvm.State) : (allAtoms ts).before a st = ts.all (fun c => c.before a st) := by
  induction ts with
  | nil => rfl
  | cons c t ih =>
    show (Jvm.Cond.and c (allAtoms t)).before a st = _
    rw [Jvm.Cond.before_and, ih, List.all_cons]
def words1 : List Jvm.Cond := Jvm.Cond.code x code maxLocals ret :: tables_1
/-- a 'code' word, met by the world's own term for the bytes: nothing is compared byte by byte -/
theorem code_word {y : MethodName} {bytes : ByteArray} {mx : Nat} {rt : Option FieldType} {a : Array Value} {s : State} {m : MethodId} {meth : Method} {c : Code} (h1 : s.methodNamed? y = some m) (h2 : s.vm.method? m = some meth) (h3 : meth.code = some c) (h4 : c.code = bytes)
    (h5 : (c.maxLocals == mx && c.exceptionTable.isEmpty && decide (c.maxStack ≤ mostOperands) && decide (meth.sig.returnType = rt) && !meth.locks && decide (parseMethodDescriptor y.desc = some meth.sig)) = true) : (Jvm.Cond.code y bytes mx rt).before a s = true := by
  simp only [Bool.and_eq_true, beq_iff_eq, Bool.not_eq_true', decide_eq_true_eq] at h5
  obtain ⟨⟨⟨⟨⟨g1, g2⟩, g3⟩, g4⟩, g5⟩, g6⟩ := h5
  simp [Cond.before, Cond.holds, Cond.value, h1, h2, h3, h4, g1, g2, g3, g4, g5, g6]
def isCode : Jvm.Cond → Bool
  | .code _ _ _ _ => true
  | _ => false
theorem all_split {L : List Jvm.Cond} {P : Jvm.Cond → Bool} (h1 : L.all (fun c => isCode c || P c) = true) (h2 : ∀ c ∈ L.filter isCode, P c = true) : L.all P = true := by
  refine List.all_eq_true.mpr fun c hc => ?_
  have h := List.all_eq_true.mp h1 c hc
  rcases Bool.eq_false_or_eq_true (isCode c) with hi | hi
  · exact h2 c (List.mem_filter.mpr ⟨hc, hi⟩)
  · simpa [hi] using h
set_option maxRecDepth 65536 in
theorem w_c0 : (Jvm.Cond.code x code maxLocals ret).before args0 about1 = true := code_word (m := ⟨1, 1⟩) (meth := k1m1) (c := k1c1) (by decide +kernel) rfl rfl rfl (by decide +kernel)
set_option maxRecDepth 65536 in
theorem w_c1 : (Jvm.Cond.code ({ cls := "com/example/sunder/sunder/CodePointOrderComparePinLaw", name := "ch", desc := "(I)C" } : Jvm.MethodName) method_3_code (2 : Nat) (Option.some Jvm.ClassFile.FieldType.char)).before args0 about1 = true := code_word (m := ⟨1, 2⟩) (meth := k1m2) (c := k1c2) (by decide +kernel) rfl rfl rfl (by decide +kernel)
set_option maxRecDepth 65536 in
theorem w_c2 : (Jvm.Cond.code ({ cls := "com/example/sunder/sunder/CodePointOrderComparePinLaw", name := "str", desc := "(CCCI)Ljava/lang/String;" } : Jvm.MethodName) method_4_code (4 : Nat) (Option.some (Jvm.ClassFile.FieldType.object "java/lang/String"))).before args0 about1 = true := code_word (m := ⟨1, 3⟩) (meth := k1m3) (c := k1c3) (by decide +kernel) rfl rfl rfl (by decide +kernel)
set_option maxRecDepth 65536 in
theorem w_c3 : (Jvm.Cond.code ({ cls := "java/lang/String", name := "<init>", desc := "([C)V" } : Jvm.MethodName) jdk_42_method_3_code (2 : Nat) (Option.none : Option Jvm.ClassFile.FieldType)).before args0 about1 = true := code_word (m := ⟨7, 1⟩) (meth := k7m1) (c := k7c1) (by decide +kernel) rfl rfl rfl (by decide +kernel)
set_option maxRecDepth 65536 in
theorem w_c4 : (Jvm.Cond.code ({ cls := "java/lang/String", name := "<init>", desc := "([CIILjava/lang/Void;)V" } : Jvm.MethodName) jdk_42_method_149_code (6 : Nat) (Option.none : Option Jvm.ClassFile.FieldType)).before args0 about1 = true := code_word (m := ⟨7, 4⟩) (meth := k7m4) (c := k7c4) (by decide +kernel) rfl rfl rfl (by decide +kernel)
set_option maxRecDepth 65536 in
theorem w_c5 : (Jvm.Cond.code ({ cls := "java/lang/Object", name := "<init>", desc := "()V" } : Jvm.MethodName) object_method_1_code (1 : Nat) (Option.none : Option Jvm.ClassFile.FieldType)).before args0 about1 = true := code_word (m := ⟨0, 0⟩) (meth := k0m0) (c := k0c0) (by decide +kernel) rfl rfl rfl (by decide +kernel)
set_option maxRecDepth 65536 in
theorem w_c6 : (Jvm.Cond.code ({ cls := "com/example/sunder/sunder/CodePointOrderComparePinLaw", name := "decode", desc := "([CI)[I" } : Jvm.MethodName) method_6_code (6 : Nat) (Option.some (Jvm.ClassFile.FieldType.array Jvm.ClassFile.FieldType.int))).before args0 about1 = true := code_word (m := ⟨1, 5⟩) (meth := k1m5) (c := k1c5) (by decide +kernel) rfl rfl rfl (by decide +kernel)
set_option maxRecDepth 65536 in
theorem w_c7 : (Jvm.Cond.code ({ cls := "com/example/sunder/sunder/CodePointOrderComparePinLaw", name := "ref", desc := "([I[I)I" } : Jvm.MethodName) method_7_code (5 : Nat) (Option.some Jvm.ClassFile.FieldType.int)).before args0 about1 = true := code_word (m := ⟨1, 6⟩) (meth := k1m6) (c := k1c6) (by decide +kernel) rfl rfl rfl (by decide +kernel)
set_option maxRecDepth 65536 in
theorem w_c8 : (Jvm.Cond.code ({ cls := "java/lang/Math", name := "min", desc := "(II)I" } : Jvm.MethodName) jdk_29_method_69_code (2 : Nat) (Option.some Jvm.ClassFile.FieldType.int)).before args0 about1 = true := code_word (m := ⟨8, 1⟩) (meth := k8m1) (c := k8c1) (by decide +kernel) rfl rfl rfl (by decide +kernel)
set_option maxRecDepth 65536 in
theorem w_c9 : (Jvm.Cond.code ({ cls := "com/example/sunder/sunder/CodePointOrder", name := "compare", desc := "(Ljava/lang/String;Ljava/lang/String;)I" } : Jvm.MethodName) prog_3_method_2_code (5 : Nat) (Option.some Jvm.ClassFile.FieldType.int)).before args0 about1 = true := code_word (m := ⟨9, 1⟩) (meth := k9m1) (c := k9c1) (by decide +kernel) rfl rfl rfl (by decide +kernel)
set_option maxRecDepth 65536 in
theorem w_c10 : (Jvm.Cond.code ({ cls := "java/lang/String", name := "length", desc := "()I" } : Jvm.MethodName) jdk_42_method_54_code (1 : Nat) (Option.some Jvm.ClassFile.FieldType.int)).before args0 about1 = true := code_word (m := ⟨7, 2⟩) (meth := k7m2) (c := k7c2) (by decide +kernel) rfl rfl rfl (by decide +kernel)
set_option maxRecDepth 65536 in
theorem w_c11 : (Jvm.Cond.code ({ cls := "java/lang/String", name := "coder", desc := "()B" } : Jvm.MethodName) jdk_42_method_152_code (1 : Nat) (Option.some Jvm.ClassFile.FieldType.byte)).before args0 about1 = true := code_word (m := ⟨7, 5⟩) (meth := k7m5) (c := k7c5) (by decide +kernel) rfl rfl rfl (by decide +kernel)
set_option maxRecDepth 65536 in
theorem w_c12 : (Jvm.Cond.code ({ cls := "java/lang/Integer", name := "compare", desc := "(II)I" } : Jvm.MethodName) jdk_33_method_40_code (2 : Nat) (Option.some Jvm.ClassFile.FieldType.int)).before args0 about1 = true := code_word (m := ⟨11, 0⟩) (meth := k11m0) (c := k11c0) (by decide +kernel) rfl rfl rfl (by decide +kernel)
set_option maxRecDepth 65536 in
theorem w_c13 : (Jvm.Cond.code ({ cls := "java/lang/StringUTF16", name := "compress", desc := "([CII)[B" } : Jvm.MethodName) jdk_52_method_16_code (6 : Nat) (Option.some (Jvm.ClassFile.FieldType.array Jvm.ClassFile.FieldType.byte))).before args0 about1 = true := code_word (m := ⟨12, 9⟩) (meth := k12m9) (c := k12c9) (by decide +kernel) rfl rfl rfl (by decide +kernel)
set_option maxRecDepth 65536 in
theorem w_c14 : (Jvm.Cond.code ({ cls := "java/lang/StringUTF16", name := "compress", desc := "([CI[BII)I" } : Jvm.MethodName) jdk_52_method_21_code (7 : Nat) (Option.some Jvm.ClassFile.FieldType.int)).before args0 about1 = true := code_word (m := ⟨12, 10⟩) (meth := k12m10) (c := k12c10) (by decide +kernel) rfl rfl rfl (by decide +kernel)
set_option maxRecDepth 65536 in
theorem w_c15 : (Jvm.Cond.code ({ cls := "java/lang/StringUTF16", name := "toBytes", desc := "([CII)[B" } : Jvm.MethodName) jdk_52_method_14_code (5 : Nat) (Option.some (Jvm.ClassFile.FieldType.array Jvm.ClassFile.FieldType.byte))).before args0 about1 = true := code_word (m := ⟨12, 7⟩) (meth := k12m7) (c := k12c7) (by decide +kernel) rfl rfl rfl (by decide +kernel)
set_option maxRecDepth 65536 in
theorem w_c16 : (Jvm.Cond.code ({ cls := "java/lang/StringUTF16", name := "newBytesFor", desc := "(I)[B" } : Jvm.MethodName) jdk_52_method_2_code (1 : Nat) (Option.some (Jvm.ClassFile.FieldType.array Jvm.ClassFile.FieldType.byte))).before args0 about1 = true := code_word (m := ⟨12, 1⟩) (meth := k12m1) (c := k12c1) (by decide +kernel) rfl rfl rfl (by decide +kernel)
set_option maxRecDepth 65536 in
theorem w_c17 : (Jvm.Cond.code ({ cls := "java/lang/StringUTF16", name := "newBytesLength", desc := "(I)I" } : Jvm.MethodName) jdk_52_method_3_code (1 : Nat) (Option.some Jvm.ClassFile.FieldType.int)).before args0 about1 = true := code_word (m := ⟨12, 2⟩) (meth := k12m2) (c := k12c2) (by decide +kernel) rfl rfl rfl (by decide +kernel)
set_option maxRecDepth 65536 in
theorem w_c18 : (Jvm.Cond.code ({ cls := "java/lang/StringUTF16", name := "putChar", desc := "([BII)V" } : Jvm.MethodName) jdk_52_method_4_code (3 : Nat) (Option.none : Option Jvm.ClassFile.FieldType)).before args0 about1 = true := code_word (m := ⟨12, 3⟩) (meth := k12m3) (c := k12c3) (by decide +kernel) rfl rfl rfl (by decide +kernel)
set_option maxRecDepth 65536 in
theorem w_c19 : (Jvm.Cond.code ({ cls := "java/lang/StringUTF16", name := "getChar", desc := "([BI)C" } : Jvm.MethodName) jdk_52_method_5_code (2 : Nat) (Option.some Jvm.ClassFile.FieldType.char)).before args0 about1 = true := code_word (m := ⟨12, 4⟩) (meth := k12m4) (c := k12c4) (by decide +kernel) rfl rfl rfl (by decide +kernel)
set_option maxRecDepth 65536 in
theorem w_c20 : (Jvm.Cond.code ({ cls := "java/lang/StringUTF16", name := "coderFromArrayLen", desc := "([BI)B" } : Jvm.MethodName) jdk_52_method_15_code (2 : Nat) (Option.some Jvm.ClassFile.FieldType.byte)).before args0 about1 = true := code_word (m := ⟨12, 8⟩) (meth := k12m8) (c := k12c8) (by decide +kernel) rfl rfl rfl (by decide +kernel)
set_option maxRecDepth 65536 in
theorem w_c21 : (Jvm.Cond.code ({ cls := "com/example/sunder/sunder/CodePointOrderComparePinLaw", name := "cp", desc := "([CII)I" } : Jvm.MethodName) method_5_code (5 : Nat) (Option.some Jvm.ClassFile.FieldType.int)).before args0 about1 = true := code_word (m := ⟨1, 4⟩) (meth := k1m4) (c := k1c4) (by decide +kernel) rfl rfl rfl (by decide +kernel)
set_option maxRecDepth 65536 in
theorem w_c22 : (Jvm.Cond.code ({ cls := "java/lang/String", name := "codePointAt", desc := "(I)I" } : Jvm.MethodName) jdk_42_method_57_code (3 : Nat) (Option.some Jvm.ClassFile.FieldType.int)).before args0 about1 = true := code_word (m := ⟨7, 3⟩) (meth := k7m3) (c := k7c3) (by decide +kernel) rfl rfl rfl (by decide +kernel)
set_option maxRecDepth 65536 in
theorem w_c23 : (Jvm.Cond.code ({ cls := "java/lang/String", name := "isLatin1", desc := "()Z" } : Jvm.MethodName) jdk_42_method_154_code (1 : Nat) (Option.some Jvm.ClassFile.FieldType.boolean)).before args0 about1 = true := code_word (m := ⟨7, 6⟩) (meth := k7m6) (c := k7c6) (by decide +kernel) rfl rfl rfl (by decide +kernel)
set_option maxRecDepth 65536 in
theorem w_c24 : (Jvm.Cond.code ({ cls := "java/lang/String", name := "checkIndex", desc := "(II)V" } : Jvm.MethodName) jdk_42_method_155_code (2 : Nat) (Option.none : Option Jvm.ClassFile.FieldType)).before args0 about1 = true := code_word (m := ⟨7, 7⟩) (meth := k7m7) (c := k7c7) (by decide +kernel) rfl rfl rfl (by decide +kernel)
set_option maxRecDepth 65536 in
theorem w_c25 : (Jvm.Cond.code ({ cls := "jdk/internal/util/Preconditions", name := "checkIndex", desc := "(IILjava/util/function/BiFunction;)I" } : Jvm.MethodName) jdk_41_method_11_code (3 : Nat) (Option.some Jvm.ClassFile.FieldType.int)).before args0 about1 = true := code_word (m := ⟨13, 1⟩) (meth := k13m1) (c := k13c1) (by decide +kernel) rfl rfl rfl (by decide +kernel)
set_option maxRecDepth 65536 in
theorem w_c26 : (Jvm.Cond.code ({ cls := "java/lang/StringUTF16", name := "codePointAt", desc := "([BII)I" } : Jvm.MethodName) jdk_52_method_8_code (3 : Nat) (Option.some Jvm.ClassFile.FieldType.int)).before args0 about1 = true := code_word (m := ⟨12, 6⟩) (meth := k12m6) (c := k12c6) (by decide +kernel) rfl rfl rfl (by decide +kernel)
set_option maxRecDepth 65536 in
theorem w_c27 : (Jvm.Cond.code ({ cls := "java/lang/StringUTF16", name := "codePointAt", desc := "([BIIZ)I" } : Jvm.MethodName) jdk_52_method_7_code (6 : Nat) (Option.some Jvm.ClassFile.FieldType.int)).before args0 about1 = true := code_word (m := ⟨12, 5⟩) (meth := k12m5) (c := k12c5) (by decide +kernel) rfl rfl rfl (by decide +kernel)
set_option maxRecDepth 65536 in
theorem w_c28 : (Jvm.Cond.code ({ cls := "java/lang/Character", name := "isHighSurrogate", desc := "(C)Z" } : Jvm.MethodName) jdk_89_method_14_code (1 : Nat) (Option.some Jvm.ClassFile.FieldType.boolean)).before args0 about1 = true := code_word (m := ⟨14, 0⟩) (meth := k14m0) (c := k14c0) (by decide +kernel) rfl rfl rfl (by decide +kernel)
set_option maxRecDepth 65536 in
theorem w_c29 : (Jvm.Cond.code ({ cls := "java/lang/Character", name := "isLowSurrogate", desc := "(C)Z" } : Jvm.MethodName) jdk_89_method_15_code (1 : Nat) (Option.some Jvm.ClassFile.FieldType.boolean)).before args0 about1 = true := code_word (m := ⟨14, 1⟩) (meth := k14m1) (c := k14c1) (by decide +kernel) rfl rfl rfl (by decide +kernel)
set_option maxRecDepth 65536 in
theorem w_c30 : (Jvm.Cond.code ({ cls := "java/lang/Character", name := "toCodePoint", desc := "(CC)I" } : Jvm.MethodName) jdk_89_method_19_code (2 : Nat) (Option.some Jvm.ClassFile.FieldType.int)).before args0 about1 = true := code_word (m := ⟨14, 3⟩) (meth := k14m3) (c := k14c3) (by decide +kernel) rfl rfl rfl (by decide +kernel)
set_option maxRecDepth 65536 in
theorem w_c31 : (Jvm.Cond.code ({ cls := "java/lang/Character", name := "charCount", desc := "(I)I" } : Jvm.MethodName) jdk_89_method_18_code (1 : Nat) (Option.some Jvm.ClassFile.FieldType.int)).before args0 about1 = true := code_word (m := ⟨14, 2⟩) (meth := k14m2) (c := k14c2) (by decide +kernel) rfl rfl rfl (by decide +kernel)
def codes1 : List Jvm.Cond := [Jvm.Cond.code x code maxLocals ret, Jvm.Cond.code ({ cls := "com/example/sunder/sunder/CodePointOrderComparePinLaw", name := "ch", desc := "(I)C" } : Jvm.MethodName) method_3_code (2 : Nat) (Option.some Jvm.ClassFile.FieldType.char), Jvm.Cond.code ({ cls := "com/example/sunder/sunder/CodePointOrderComparePinLaw", name := "str", desc := "(CCCI)Ljava/lang/String;" } : Jvm.MethodName) method_4_code (4 : Nat) (Option.some (Jvm.ClassFile.FieldType.object "java/lang/String")), Jvm.Cond.code ({ cls := "java/lang/String", name := "<init>", desc := "([C)V" } : Jvm.MethodName) jdk_42_method_3_code (2 : Nat) (Option.none : Option Jvm.ClassFile.FieldType), Jvm.Cond.code ({ cls := "java/lang/String", name := "<init>", desc := "([CIILjava/lang/Void;)V" } : Jvm.MethodName) jdk_42_method_149_code (6 : Nat) (Option.none : Option Jvm.ClassFile.FieldType), Jvm.Cond.code ({ cls := "java/lang/Object", name := "<init>", desc := "()V" } : Jvm.MethodName) object_method_1_code (1 : Nat) (Option.none : Option Jvm.ClassFile.FieldType), Jvm.Cond.code ({ cls := "com/example/sunder/sunder/CodePointOrderComparePinLaw", name := "decode", desc := "([CI)[I" } : Jvm.MethodName) method_6_code (6 : Nat) (Option.some (Jvm.ClassFile.FieldType.array Jvm.ClassFile.FieldType.int)), Jvm.Cond.code ({ cls := "com/example/sunder/sunder/CodePointOrderComparePinLaw", name := "ref", desc := "([I[I)I" } : Jvm.MethodName) method_7_code (5 : Nat) (Option.some Jvm.ClassFile.FieldType.int), Jvm.Cond.code ({ cls := "java/lang/Math", name := "min", desc := "(II)I" } : Jvm.MethodName) jdk_29_method_69_code (2 : Nat) (Option.some Jvm.ClassFile.FieldType.int), Jvm.Cond.code ({ cls := "com/example/sunder/sunder/CodePointOrder", name := "compare", desc := "(Ljava/lang/String;Ljava/lang/String;)I" } : Jvm.MethodName) prog_3_method_2_code (5 : Nat) (Option.some Jvm.ClassFile.FieldType.int), Jvm.Cond.code ({ cls := "java/lang/String", name := "length", desc := "()I" } : Jvm.MethodName) jdk_42_method_54_code (1 : Nat) (Option.some Jvm.ClassFile.FieldType.int), Jvm.Cond.code ({ cls := "java/lang/String", name := "coder", desc := "()B" } : Jvm.MethodName) jdk_42_method_152_code (1 : Nat) (Option.some Jvm.ClassFile.FieldType.byte), Jvm.Cond.code ({ cls := "java/lang/Integer", name := "compare", desc := "(II)I" } : Jvm.MethodName) jdk_33_method_40_code (2 : Nat) (Option.some Jvm.ClassFile.FieldType.int), Jvm.Cond.code ({ cls := "java/lang/StringUTF16", name := "compress", desc := "([CII)[B" } : Jvm.MethodName) jdk_52_method_16_code (6 : Nat) (Option.some (Jvm.ClassFile.FieldType.array Jvm.ClassFile.FieldType.byte)), Jvm.Cond.code ({ cls := "java/lang/StringUTF16", name := "compress", desc := "([CI[BII)I" } : Jvm.MethodName) jdk_52_method_21_code (7 : Nat) (Option.some Jvm.ClassFile.FieldType.int), Jvm.Cond.code ({ cls := "java/lang/StringUTF16", name := "toBytes", desc := "([CII)[B" } : Jvm.MethodName) jdk_52_method_14_code (5 : Nat) (Option.some (Jvm.ClassFile.FieldType.array Jvm.ClassFile.FieldType.byte)), Jvm.Cond.code ({ cls := "java/lang/StringUTF16", name := "newBytesFor", desc := "(I)[B" } : Jvm.MethodName) jdk_52_method_2_code (1 : Nat) (Option.some (Jvm.ClassFile.FieldType.array Jvm.ClassFile.FieldType.byte)), Jvm.Cond.code ({ cls := "java/lang/StringUTF16", name := "newBytesLength", desc := "(I)I" } : Jvm.MethodName) jdk_52_method_3_code (1 : Nat) (Option.some Jvm.ClassFile.FieldType.int), Jvm.Cond.code ({ cls := "java/lang/StringUTF16", name := "putChar", desc := "([BII)V" } : Jvm.MethodName) jdk_52_method_4_code (3 : Nat) (Option.none : Option Jvm.ClassFile.FieldType), Jvm.Cond.code ({ cls := "java/lang/StringUTF16", name := "getChar", desc := "([BI)C" } : Jvm.MethodName) jdk_52_method_5_code (2 : Nat) (Option.some Jvm.ClassFile.FieldType.char), Jvm.Cond.code ({ cls := "java/lang/StringUTF16", name := "coderFromArrayLen", desc := "([BI)B" } : Jvm.MethodName) jdk_52_method_15_code (2 : Nat) (Option.some Jvm.ClassFile.FieldType.byte), Jvm.Cond.code ({ cls := "com/example/sunder/sunder/CodePointOrderComparePinLaw", name := "cp", desc := "([CII)I" } : Jvm.MethodName) method_5_code (5 : Nat) (Option.some Jvm.ClassFile.FieldType.int), Jvm.Cond.code ({ cls := "java/lang/String", name := "codePointAt", desc := "(I)I" } : Jvm.MethodName) jdk_42_method_57_code (3 : Nat) (Option.some Jvm.ClassFile.FieldType.int), Jvm.Cond.code ({ cls := "java/lang/String", name := "isLatin1", desc := "()Z" } : Jvm.MethodName) jdk_42_method_154_code (1 : Nat) (Option.some Jvm.ClassFile.FieldType.boolean), Jvm.Cond.code ({ cls := "java/lang/String", name := "checkIndex", desc := "(II)V" } : Jvm.MethodName) jdk_42_method_155_code (2 : Nat) (Option.none : Option Jvm.ClassFile.FieldType), Jvm.Cond.code ({ cls := "jdk/internal/util/Preconditions", name := "checkIndex", desc := "(IILjava/util/function/BiFunction;)I" } : Jvm.MethodName) jdk_41_method_11_code (3 : Nat) (Option.some Jvm.ClassFile.FieldType.int), Jvm.Cond.code ({ cls := "java/lang/StringUTF16", name := "codePointAt", desc := "([BII)I" } : Jvm.MethodName) jdk_52_method_8_code (3 : Nat) (Option.some Jvm.ClassFile.FieldType.int), Jvm.Cond.code ({ cls := "java/lang/StringUTF16", name := "codePointAt", desc := "([BIIZ)I" } : Jvm.MethodName) jdk_52_method_7_code (6 : Nat) (Option.some Jvm.ClassFile.FieldType.int), Jvm.Cond.code ({ cls := "java/lang/Character", name := "isHighSurrogate", desc := "(C)Z" } : Jvm.MethodName) jdk_89_method_14_code (1 : Nat) (Option.some Jvm.ClassFile.FieldType.boolean), Jvm.Cond.code ({ cls := "java/lang/Character", name := "isLowSurrogate", desc := "(C)Z" } : Jvm.MethodName) jdk_89_method_15_code (1 : Nat) (Option.some Jvm.ClassFile.FieldType.boolean), Jvm.Cond.code ({ cls := "java/lang/Character", name := "toCodePoint", desc := "(CC)I" } : Jvm.MethodName) jdk_89_method_19_code (2 : Nat) (Option.some Jvm.ClassFile.FieldType.int), Jvm.Cond.code ({ cls := "java/lang/Character", name := "charCount", desc := "(I)I" } : Jvm.MethodName) jdk_89_method_18_code (1 : Nat) (Option.some Jvm.ClassFile.FieldType.int)]
set_option maxRecDepth 65536 in
theorem codes_eq : words1.filter isCode = codes1 := rfl
theorem w_codes : ∀ c ∈ words1.filter isCode, c.before args0 about1 = true := by
  rw [codes_eq]
  intro c hc
  simp only [codes1, List.mem_cons, List.not_mem_nil, or_false] at hc
  rcases hc with rfl | rfl | rfl | rfl | rfl | rfl | rfl | rfl | rfl | rfl | rfl | rfl | rfl | rfl | rfl | rfl | rfl | rfl | rfl | rfl | rfl | rfl | rfl | rfl | rfl | rfl | rfl | rfl | rfl | rfl | rfl | rfl
  · exact w_c0
  · exact w_c1
  · exact w_c2
  · exact w_c3
  · exact w_c4
  · exact w_c5
  · exact w_c6
  · exact w_c7
  · exact w_c8
  · exact w_c9
  · exact w_c10
  · exact w_c11
  · exact w_c12
  · exact w_c13
  · exact w_c14
  · exact w_c15
  · exact w_c16
  · exact w_c17
  · exact w_c18
  · exact w_c19
  · exact w_c20
  · exact w_c21
  · exact w_c22
  · exact w_c23
  · exact w_c24
  · exact w_c25
  · exact w_c26
  · exact w_c27
  · exact w_c28
  · exact w_c29
  · exact w_c30
  · exact w_c31
set_option maxRecDepth 65536 in
theorem w_t1 : (words1.take 24).all (fun c => isCode c || c.before args0 about1) = true := by decide +kernel
set_option maxRecDepth 65536 in
theorem w_t2 : ((words1.drop 24).take 24).all (fun c => isCode c || c.before args0 about1) = true := by decide +kernel
set_option maxRecDepth 65536 in
theorem w_t3 : (((words1.drop 24).drop 24).take 24).all (fun c => isCode c || c.before args0 about1) = true := by decide +kernel
set_option maxRecDepth 65536 in
theorem w_t4 : ((((words1.drop 24).drop 24).drop 24).take 24).all (fun c => isCode c || c.before args0 about1) = true := by decide +kernel
set_option maxRecDepth 65536 in
theorem w_t5 : (((((words1.drop 24).drop 24).drop 24).drop 24).take 24).all (fun c => isCode c || c.before args0 about1) = true := by decide +kernel
set_option maxRecDepth 65536 in
theorem w_t6 : (((((words1.drop 24).drop 24).drop 24).drop 24).drop 24).all (fun c => isCode c || c.before args0 about1) = true := by decide +kernel
theorem w_tables : (allAtoms (Jvm.Cond.code x code maxLocals ret :: tables_1)).before args0 about1 = true := by
  rw [allAtoms_all]
  show words1.all (fun c => c.before args0 about1) = true
  refine all_split ?_ w_codes
  rw [← List.take_append_drop 24 words1, List.all_append, w_t1, ← List.take_append_drop 24 (words1.drop 24), List.all_append, w_t2, ← List.take_append_drop 24 ((words1.drop 24).drop 24), List.all_append, w_t3, ← List.take_append_drop 24 (((words1.drop 24).drop 24).drop 24), List.all_append, w_t4, ← List.take_append_drop 24 ((((words1.drop 24).drop 24).drop 24).drop 24), List.all_append, w_t5, w_t6]
  rfl
set_option maxRecDepth 65536 in
theorem w_rest : rest_1_c.before args0 about1 = true := by decide +kernel
set_option maxRecDepth 65536 in
theorem w_case : (Jvm.Cond.and given_1 narrow_1).before args0 about1 = true := by decide +kernel
set_option maxRecDepth 65536 in
theorem w_consts : constsHeld consts_1 about1 := Jvm.Lit.constsHeldB_iff.mp (by decide +kernel)
theorem w_applies : (headSpec (Jvm.Cond.code x code maxLocals ret :: tables_1) room_1).applies x e0.platform about1 = true :=
  (Spec.applies_iff w_frames).mpr ⟨w_running, w_runnable, w_alone, w_named, w_hears, w_ripe, w_room, w_tables⟩
theorem atStart : AtStart classFile x code maxLocals ret World_1 tables_1 room_1 Calls_1 rest_1 Pre_1 launch0 p0 e0 about1 theMethod args0 below0 :=
  ⟨lists_1, trivial, launch0.admits_env _ _ _, launch0.least_env, fairChoices_fair.cas, fairChoices_fair.clock, w_frames, w_args, w_heap, w_applies, ⟨w_consts, trivial⟩, w_rest, w_case⟩
end start1
theorem witness_1 : WitnessClaimed_1 := ⟨start1.p0, start1.e0, start1.about1, start1.theMethod, start1.args0, start1.below0, start1.atStart⟩
end Jvm.Pilot.@@N@@
