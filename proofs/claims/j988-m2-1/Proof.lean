import JvmDerived
import JvmDerived.Pilot.@@N@@Statement
import JvmDerived.Pilot.@@N@@Code
set_option linter.unusedVariables false
set_option linter.unusedSimpArgs false
namespace Jvm.Pilot.@@N@@
open Jvm Jvm.ClassFile Sem Op Lib Jvm.Free Jvm.Stand Jvm.LawKit Jvm.RoadKit Bundle Jvm.Pilot.@@N@@.Jvm.D
/-! THE LAYER: what a body does from a point on, as one sentence ('own_WP'); a contract is 'own_Met'. K: the launch, the start's state, the string constants that are held, 'nothing is interned'. M: the method, its bytes, its locals, what it returns, its room. -/
abbrev own_Cx : Type := Launch × State × List (String × Nat) × Bool
abbrev own_Cx.l (K : own_Cx) : Launch := K.1
abbrev own_Cx.Z (K : own_Cx) : State := K.2.1
abbrev own_Cx.E (K : own_Cx) : List (String × Nat) := K.2.2.1
abbrev own_Cx.nw (K : own_Cx) : Bool := K.2.2.2
abbrev own_Cx.n (K : own_Cx) : Nat := K.Z.heap.size
abbrev own_Mi : Type := MethodName × ByteArray × Nat × Option FieldType × Room
abbrev own_Mi.y (M : own_Mi) : MethodName := M.1
abbrev own_Mi.b (M : own_Mi) : ByteArray := M.2.1
abbrev own_Mi.mx (M : own_Mi) : Nat := M.2.2.1
abbrev own_Mi.ret (M : own_Mi) : Option FieldType := M.2.2.2.1
abbrev own_Mi.R (M : own_Mi) : Room := M.2.2.2.2
abbrev own_Q : Type := Option Value → Heap → List Addr → Prop
def own_ret (q : Value → Heap → List Addr → Prop) : own_Q := fun v h xs => ∃ w, v = some w ∧ q w h xs
def own_void (q : Heap → List Addr → Prop) : own_Q := fun v h xs => v = none ∧ q h xs
def own_Bdy (K : own_Cx) (M : own_Mi) (p : Program) (s : State) (m : MethodId) (meth : Method) (c : Code) : Prop :=
  p.tables.exec = Jvm.exec ∧ c.code = M.b ∧ c.maxLocals = M.mx ∧ s.vm.findClass M.y.cls = some m.cls ∧ meth.name = M.y.name ∧ meth.sig.returnType = M.ret ∧ meth.locks = false ∧ K.Z.Warmed39 s.vm ∧ ∃ a0, EW K.Z a0 K.E
def own_Sf (K : own_Cx) (vm : Vm) (h : Heap) (xs : List Addr) : Prop := ∀ x ∈ xs, K.n ≤ x ∧ x < h.size ∧ Safe K.Z K.E vm h x
def own_Inv (K : own_Cx) (s : State) (vm0 : Vm) (k0 : Nat) (h : Heap) (sf : List Addr) : Prop :=
  s.Since vm0 k0 ∧ k0 ≤ h.size ∧ (K.nw = true → s.WarmedH vm0) ∧ CHr K.Z K.E s.vm s.heap vm0 h ∧ own_Sf K vm0 h sf ∧ Ext K.Z.heap h
def own_End (K : own_Cx) (R : Room) (Q : own_Q) (s : State) (o : Outcome) (t : State) : Prop :=
  ∃ v L xs, o = .returned v ∧ Q v t.heap xs ∧ Fr K.n L ∧ CHr K.Z K.E s.vm s.heap t.vm t.heap ∧ own_Sf K t.vm t.heap xs ∧ Ext K.Z.heap t.heap ∧ ReturnedEndW s o t L R.cells R.slots ∧ (K.nw = true → s.WarmedH t.vm)
def own_Fin (K : own_Cx) (R : Room) (Q : own_Q) (p : Program) (e : Env) (below : List Frame) (s F : State) : Prop :=
  ∃ s₂ o, Steps p.tables e below F s₂ ∧ s₂.status = .running ∧ Ended s₂ below o ∧ own_End K R Q s o s₂
def own_WP (K : own_Cx) (M : own_Mi) (Q : own_Q) (pc : Nat) (Ls : List Slot) (St : List Value) (sf : List Addr) (h : Heap) (cs sl : Nat) : Prop :=
  ∀ (p : Program) (e : Env) (s : State) (vm0 : Vm) (k0 : Nat) (m : MethodId) (args : Array Value) (below : List Frame) (meth : Method) (c : Code) (T : State) (locs : List Loc) (cs' sl' : Nat),
    own_Bdy K M p (s.setVm vm0) m meth c → Stand p K.l e M.R (s.setVm vm0) m args below meth c T locs cs' sl' → cs' ≤ cs → sl' ≤ sl → T.heap = h → Fr K.n locs → own_Inv K s vm0 k0 h sf →
    own_Fin K M.R Q p e below s (T.setTop (mkF m pc Ls.toArray St))
def own_Met (K : own_Cx) (M : own_Mi) (as' : Array Value) (sf : List Addr) (h : Heap) (Q : own_Q) : Prop :=
  ∀ ws : List Jvm.Cond, MetFree K.l M.y (head1 (Jvm.Cond.code M.y M.b M.mx M.ret :: ws) M.R) (fun a U => a = as' ∧ K.Z.Warmed39 U.vm ∧ U.heap = h ∧ (∃ a0, EW K.Z a0 K.E) ∧ CHv K.Z K.E U.vm h ∧ own_Sf K U.vm h sf ∧ Ext K.Z.heap h) (fun _ _ _ _ _ => True) (fun _ U o U' => own_End K M.R Q U o U')
section Core
variable {K : own_Cx} {M : own_Mi} {Q : own_Q} {pc pc' : Nat} {Ls Ls' : List Slot} {St St' : List Value} {sf : List Addr} {h : Heap} {cs sl : Nat} {a0 : Array Value}
theorem own_ext_trans {h h' h2 : Heap} (E : Ext h h') (E' : Ext h' h2) : Ext h h2 := ⟨Nat.le_trans E.1 E'.1, fun x c q => E'.2 x c (E.2 x c q)⟩
theorem own_ext_refl (h : Heap) : Ext h h := ⟨Nat.le_refl _, fun _ _ q => q⟩
theorem own_met (hpn : plainFor M.y = true) {as' : Array Value} (ef : ∀ m : MethodId, entryFrame m as' M.mx = mkF m 0 Ls.toArray []) (k : own_WP K M Q 0 Ls [] sf h 0 0) : own_Met K M as' sf h Q := by
  intro ws
  refine MetFree.of_bodySF hpn hisR ?_
  intro p e s m args below meth c s₁ Bd hml0 hP hK
  obtain ⟨rfl, hZ, hh, hEW, hC, hsf, hE⟩ := hP
  have hown : s.vm.findClass M.y.cls = some m.cls := findClass_of_methodNamed Bd.named
  have hnm := (name_of_methodNamed Bd.named Bd.method).1
  have X0 : Stand p K.l e M.R s m args below meth c s₁ [] 0 0 := Stand.of_body Bd
  have e0 : s₁.heap = h := by rw [← hh, Bd.state]; rfl
  have hI : own_Inv K s s.vm 0 h sf := ⟨(State.WarmedH.refl s).since _, Nat.zero_le _, fun _ => State.WarmedH.refl s, by rw [← hh]; exact CHr.refl (by rw [hh]; exact hC), hsf, hE⟩
  obtain ⟨s₂, o, h1, h2, h3, h4⟩ := k p e s s.vm 0 m args below meth c s₁ [] 0 0 ⟨Bd.exec, Bd.bytes, hml0, hown, hnm, Bd.returns, BodyLoose.notSynchronized Bd, hZ, hEW⟩ X0 (Nat.le_refl _) (Nat.le_refl _) e0 (Fr.nil _) hI
  refine ⟨s₂, o, ?_, h2, h3, h4⟩
  rw [ef m]
  exact h1
theorem own_step (k : own_WP K M Q pc' Ls' St' sf h cs sl)
    (st : ∀ (p : Program) (e : Env) (s : State) (m : MethodId) (args : Array Value) (below : List Frame) (meth : Method) (c : Code) (T : State) (locs : List Loc) (cs' sl' : Nat), own_Bdy K M p s m meth c → Stand p K.l e M.R s m args below meth c T locs cs' sl' → T.heap = h →
      ∀ t, Steps p.tables e below (T.setTop (mkF m pc' Ls'.toArray St')) t → Steps p.tables e below (T.setTop (mkF m pc Ls.toArray St)) t) : own_WP K M Q pc Ls St sf h cs sl := by
  intro p e s vm0 k0 m args below meth c T locs cs' sl' B X hc hs eT N I
  obtain ⟨s₂, o, h1, r⟩ := k p e s vm0 k0 m args below meth c T locs cs' sl' B X hc hs eT N I
  exact ⟨s₂, o, st p e _ m args below meth c T locs cs' sl' B X eT _ h1, r⟩
theorem own_move (k : own_WP K M Q pc' Ls' St' sf h cs sl)
    (st : ∀ (p : Program) (e : Env) (s : State) (m : MethodId) (args : Array Value) (below : List Frame) (meth : Method) (c : Code) (T : State) (locs : List Loc) (cs' sl' : Nat), own_Bdy K M p s m meth c → Stand p K.l e M.R s m args below meth c T locs cs' sl' → T.heap = h → Ext K.Z.heap h →
      ∃ T', Stand p K.l e M.R s m args below meth c T' locs cs' sl' ∧ T'.heap = h ∧ ∀ t, Steps p.tables e below (T'.setTop (mkF m pc' Ls'.toArray St')) t → Steps p.tables e below (T.setTop (mkF m pc Ls.toArray St)) t) : own_WP K M Q pc Ls St sf h cs sl := by
  intro p e s vm0 k0 m args below meth c T locs cs' sl' B X hc hs eT N I
  obtain ⟨T', X', e', st'⟩ := st p e _ m args below meth c T locs cs' sl' B X eT I.2.2.2.2.2
  obtain ⟨s₂, o, h1, r⟩ := k p e s vm0 k0 m args below meth c T' locs cs' sl' B X' hc hs e' N I
  exact ⟨s₂, o, st' _ h1, r⟩
theorem own_Sf.new {vm : Vm} {h' : Heap} (E : Ext h h') (hH : CHv K.Z K.E vm h) (hE : Ext K.Z.heap h) (hlt : h.size < h'.size) (S : own_Sf K vm h sf) : own_Sf K vm h' (h.size :: sf) := by
  intro x hx
  rcases List.mem_cons.mp hx with rfl | hx
  · exact ⟨hE.1, hlt, Safe.ext E hH (Safe.new (Nat.le_refl _))⟩
  · obtain ⟨q1, q2, q3⟩ := S x hx
    exact ⟨q1, Nat.lt_of_lt_of_le q2 E.1, Safe.ext E hH q3⟩
theorem own_grow {dc ds : Nat} {P : Heap → Prop} (hc : cs + dc ≤ M.R.cells) (hs : sl + ds ≤ M.R.slots)
    (k : ∀ h', Ext h h' → P h' → own_WP K M Q pc' Ls' St' (h.size :: sf) h' (cs + dc) (sl + ds))
    (st : ∀ (p : Program) (e : Env) (s : State) (m : MethodId) (args : Array Value) (below : List Frame) (meth : Method) (c : Code) (T : State) (locs : List Loc) (cs' sl' : Nat), own_Bdy K M p s m meth c → Stand p K.l e M.R s m args below meth c T locs cs' sl' → cs' + dc ≤ M.R.cells → sl' + ds ≤ M.R.slots → T.heap = h →
      ∃ T' h', Stand p K.l e M.R s m args below meth c T' locs (cs' + dc) (sl' + ds) ∧ T'.heap = h' ∧ Ext h h' ∧ h.size < h'.size ∧ P h' ∧ ∀ t, Steps p.tables e below (T'.setTop (mkF m pc' Ls'.toArray St')) t → Steps p.tables e below (T.setTop (mkF m pc Ls.toArray St)) t) : own_WP K M Q pc Ls St sf h cs sl := by
  intro p e s vm0 k0 m args below meth c T locs cs' sl' B X hc' hs' eT N I
  obtain ⟨T', h', X', e', E, hlt, hP, st'⟩ := st p e _ m args below meth c T locs cs' sl' B X (by omega) (by omega) eT
  obtain ⟨i1, i2, i3, i4, i5, i6⟩ := I
  obtain ⟨s₂, o, h1, r⟩ := k h' E hP p e s vm0 k0 m args below meth c T' locs (cs' + dc) (sl' + ds) B X' (by omega) (by omega) e' N ⟨i1, Nat.le_trans i2 E.1, i3, i4.trans (CHr.ext E i4.1), own_Sf.new E i4.1 i6 hlt i5, own_ext_trans i6 E⟩
  exact ⟨s₂, o, st' _ h1, r⟩
theorem own_Sf.wr {vm : Vm} {h' : Heap} {a : Addr} {i : Nat} {v : Value} (W : Wr h h' a i v) (hH : CHv K.Z K.E vm h) (ha : a ∈ sf) (S : own_Sf K vm h sf) : own_Sf K vm h' sf := by
  intro x hx
  obtain ⟨q1, q2, q3⟩ := S x hx
  exact ⟨q1, by rw [W.size]; exact q2, Safe.wr W (S a ha).2.2 hH q3⟩
theorem own_ext_wr {h h' : Heap} {Z : State} {a : Addr} {i : Nat} {v : Value} (W : Wr h h' a i v) (ha : Z.heap.size ≤ a) (E : Ext Z.heap h) : Ext Z.heap h' := by
  have K := Keep.of_wr W
  exact ⟨by rw [W.size]; exact E.1, fun x c q => K.2.1 x c (E.2 x c q) (by
    intro hm
    have h1 : x < Z.heap.size := (Array.getElem?_eq_some_iff.mp q).1
    have h2 := List.mem_singleton.mp hm
    subst h2
    exact Nat.lt_irrefl _ (Nat.lt_of_lt_of_le h1 ha))⟩
theorem own_write {a : Addr} {i : Nat} {v : Value} (ha : a ∈ sf) (k : ∀ h', Wr h h' a i v → own_WP K M Q pc' Ls' St' sf h' cs sl)
    (st : ∀ (p : Program) (e : Env) (s : State) (m : MethodId) (args : Array Value) (below : List Frame) (meth : Method) (c : Code) (T : State) (locs : List Loc) (cs' sl' : Nat), own_Bdy K M p s m meth c → Stand p K.l e M.R s m args below meth c T locs cs' sl' → T.heap = h →
      ∃ T' h', Stand p K.l e M.R s m args below meth c T' (locs ++ [⟨a, i⟩]) cs' sl' ∧ T'.heap = h' ∧ Wr h h' a i v ∧ ∀ t, Steps p.tables e below (T'.setTop (mkF m pc' Ls'.toArray St')) t → Steps p.tables e below (T.setTop (mkF m pc Ls.toArray St)) t) : own_WP K M Q pc Ls St sf h cs sl := by
  intro p e s vm0 k0 m args below meth c T locs cs' sl' B X hc' hs' eT N I
  obtain ⟨T', h', X', e', W, st'⟩ := st p e _ m args below meth c T locs cs' sl' B X eT
  obtain ⟨i1, i2, i3, i4, i5, i6⟩ := I
  have hn := (i5 a ha).1
  obtain ⟨s₂, o, h1, r⟩ := k h' W p e s vm0 k0 m args below meth c T' _ cs' sl' B X' hc' hs' e' (Fr.snoc X' N hn) ⟨i1, by rw [W.size]; exact i2, i3, i4.trans (CHr.wr W (i5 a ha).2.2 i4.1), own_Sf.wr W i4.1 ha i5, own_ext_wr W hn i6⟩
  exact ⟨s₂, o, st' _ h1, r⟩
/-- fewer writable places, more room spent: a weaker sentence -/
theorem own_weak {sf' : List Addr} {cs1 sl1 : Nat} (k : own_WP K M Q pc Ls St sf' h cs1 sl1) (hsf : ∀ x ∈ sf', x ∈ sf) (hc : cs ≤ cs1) (hs : sl ≤ sl1) : own_WP K M Q pc Ls St sf h cs sl :=
  fun p e s vm0 k0 m args below meth c T locs cs' sl' B X hc' hs' eT N I => k p e s vm0 k0 m args below meth c T locs cs' sl' B X (Nat.le_trans hc' hc) (Nat.le_trans hs' hs) eT N ⟨I.1, I.2.1, I.2.2.1, I.2.2.2.1, fun x hx => I.2.2.2.2.1 x (hsf x hx), I.2.2.2.2.2⟩
/-- the end -/
theorem own_leave {v : Option Value} (hv : M.ret = none → v = none) (hc : cs ≤ M.R.cells) (hs : sl ≤ M.R.slots) (q : Q v h sf)
    (st : ∀ (p : Program) (e : Env) (s : State) (m : MethodId) (args : Array Value) (below : List Frame) (meth : Method) (c : Code) (T : State) (locs : List Loc) (cs' sl' : Nat), own_Bdy K M p s m meth c → Stand p K.l e M.R s m args below meth c T locs cs' sl' →
      ∀ fs, (∀ (f : JFrame) (acts : List Action), f.method = m → f.locked = none → f.entered = [] → (doReturn e (T.setTop f) acts v).1 = T.setFrames fs) → Steps p.tables e below (T.setTop (mkF m pc Ls.toArray St)) (T.setFrames fs)) : own_WP K M Q pc Ls St sf h cs sl := by
  intro p e s vm0 k0 m args below meth c T locs cs' sl' B X hc' hs' eT N I
  obtain ⟨i1, i2, i3, i4, i5, i6⟩ := I
  have hlk : meth.locks = false := B.2.2.2.2.2.2.1
  have hr : meth.sig.returnType = M.ret := B.2.2.2.2.2.1
  obtain ⟨a1, hEW⟩ := B.2.2.2.2.2.2.2.2
  obtain ⟨fs, h1, h2, h3, h4⟩ := X.leaveW i1 (by rw [eT]; exact i2) (v := v) (by rw [hr]; exact hv) hlk
  have A : CHr K.Z K.E vm0 h T.vm h := CHv.at X B.2.2.2.2.2.2.2.1 hEW i4.1
  refine ⟨_, _, st p e _ m args below meth c T locs cs' sl' B X fs h1, h2, h3, v, locs, sf, rfl, ?_, N, ?_, ?_, ?_, ?_, ?_⟩
  · show Q v T.heap sf; rw [eT]; exact q
  · show CHr K.Z K.E s.vm s.heap T.vm T.heap; rw [eT]; exact i4.trans A
  · show own_Sf K T.vm T.heap sf
    rw [eT]
    exact fun x hx => ⟨(i5 x hx).1, (i5 x hx).2.1, A.safe (i5 x hx).2.1 (i5 x hx).2.2⟩
  · show Ext K.Z.heap T.heap; rw [eT]; exact i6
  · obtain ⟨r1, r2, r3, r4⟩ := h4
    exact ⟨r1, r2, r3, r4.mono (by omega) (by omega)⟩
  · exact fun q => State.WarmedH.trans (t := s.setVm vm0) (i3 q) X.warmed
end Core
section Calls
variable {K : own_Cx} {M M' : own_Mi} {Q Q' : own_Q} {pc pc' : Nat} {Ls : List Slot} {St rest : List Value} {sf sf' : List Addr} {h : Heap} {cs sl : Nat} {a0 : Array Value}
theorem own_back {R : Room} {p : Program} {e : Env} {s : State} {vm0 : Vm} {k0 : Nat} {below : List Frame} {args as' : Array Value} {len W : Nat} (hM : own_Met K M' as' sf' h Q') (hsf : ∀ x ∈ sf', x ∈ sf) (hZ : K.Z.Warmed39 vm0) (hEW : ∃ a0, EW K.Z a0 K.E) (I : own_Inv K s vm0 k0 h sf)
    (wc : (Jvm.Cond.code M'.y M'.b M'.mx M'.ret).before a0 K.Z = true) (wz : (Jvm.Cond.initialized M'.y.cls).before a0 K.Z = true) (hf : M'.R.frames + 1 ≤ R.frames) (hl : W + (M'.mx + 11) + M'.R.locals ≤ R.locals) :
    BackS K.l R p e below (s.setVm vm0) args M'.y len W (fun A a => a = as' ∧ A.U.heap = h ∧ A.cells + M'.R.cells ≤ R.cells ∧ A.slots + M'.R.slots ≤ R.slots)
      (fun A _ v B => ∃ L xs, Q' v B.U.heap xs ∧ Fr K.n L ∧ B.locs = A.locs ++ L ∧ B.cells = A.cells + M'.R.cells ∧ B.slots = A.slots + M'.R.slots ∧ CHr K.Z K.E vm0 h B.U.vm B.U.heap ∧ own_Sf K B.U.vm B.U.heap xs ∧ Ext K.Z.heap B.U.heap ∧ (K.nw = true → (s.setVm vm0).WarmedH B.U.vm)) := by
  obtain ⟨a1, hE⟩ := hEW
  have H := I.2.2.2.1.1
  exact BackS.of_freeW (bytes := M'.b) (maxL := M'.mx) (ret := M'.ret) (E := fun _ first o t L k n => k = M'.R.cells ∧ n = M'.R.slots ∧ ∃ v xs, o = .returned v ∧ Q' v t.heap xs ∧ Fr K.n L ∧ CHr K.Z K.E first.vm first.heap t.vm t.heap ∧ own_Sf K t.vm t.heap xs ∧ Ext K.Z.heap t.heap ∧ (K.nw = true → first.WarmedH t.vm)) (hM []) hf hl
    (fun m meth c A a Y hp => have hU : K.Z.Warmed39 A.U.vm := wtrans (s := s.setVm vm0) hZ Y.warmed
      ⟨by show (Jvm.Cond.and _ .tt).before a A.U = true; rw [Cond.before_and, mv hU wc]; rfl, mv hU wc, mv hU wz, hp.2.2.1, hp.2.2.2⟩)
    (fun m meth c A a g mk Y hp => ⟨hp.1, wtrans (s := s.setVm vm0) hZ Y.warmed, hp.2.1, ⟨a1, hE⟩, (CHv.at Y hZ hE H).1, fun x hx => have q := I.2.2.2.2.1 x (hsf x hx); ⟨q.1, q.2.1, (CHv.at Y hZ hE H).safe q.2.1 q.2.2⟩, I.2.2.2.2.2⟩)
    (fun _ _ _ _ _ _ _ _ _ => trivial)
    (fun _ _ _ _ ⟨v, L, xs, h1, h2, h3, h4, h5, h6, h7, h8⟩ => ⟨L, _, _, h7, rfl, rfl, v, xs, h1, h2, h3, h4, h5, h6, h8⟩)
    (fun m meth c A a g mk v t L k n Y hp _ _ ⟨e1, e2, v', xs, e3, e4, e5, e6, e7, e8, e9⟩ => by
      cases e3; subst e1 e2
      refine ⟨L, xs, e4, e5, rfl, rfl, rfl, (CHv.at Y hZ hE H).trans ?_, e7, e8, fun q => ?_⟩
      · rw [← hp.2.1]; exact e6
      · exact State.WarmedH.trans Y.warmed (e9 q))
theorem own_called {p : Program} {e : Env} {s : State} {vm0 : Vm} {k0 : Nat} {m : MethodId} {args : Array Value} {below : List Frame} {meth : Method} {c : Code} {T : State} {locs : List Loc} {cs' sl' : Nat} {v : Option Value} {B : Pt}
    (k : ∀ v h' xs, Q' v h' xs → own_WP K M Q pc' Ls (v.toList ++ rest) (xs ++ sf) h' (cs + M'.R.cells) (sl + M'.R.slots)) (Bd : own_Bdy K M p (s.setVm vm0) m meth c) (hc : cs' ≤ cs) (hs : sl' ≤ sl) (eT : T.heap = h) (N : Fr K.n locs) (I : own_Inv K s vm0 k0 h sf)
    (X' : Stand p K.l e M.R ((s.setVm vm0).setVm B.U.vm) m args below meth c B.U B.locs B.cells B.slots) (hS : (s.setVm vm0).Since B.U.vm B.U.heap.size) (hg : T.heap.size ≤ B.U.heap.size)
    (P : ∃ L xs, Q' v B.U.heap xs ∧ Fr K.n L ∧ B.locs = locs ++ L ∧ B.cells = cs' + M'.R.cells ∧ B.slots = sl' + M'.R.slots ∧ CHr K.Z K.E vm0 h B.U.vm B.U.heap ∧ own_Sf K B.U.vm B.U.heap xs ∧ Ext K.Z.heap B.U.heap ∧ (K.nw = true → (s.setVm vm0).WarmedH B.U.vm))
    {F : State} (st : Steps p.tables e below F (B.U.setTop (mkF m pc' Ls.toArray (v.toList ++ rest)))) : own_Fin K M.R Q p e below s F := by
  obtain ⟨U, l1, c1, s1⟩ := B
  obtain ⟨L, xs, q, NL, eL, ec, es, C, S, E, w⟩ := P
  dsimp only [Pt.U, Pt.locs, Pt.cells, Pt.slots] at X' hS hg q eL ec es C S E w st
  subst eL ec es
  obtain ⟨i1, i2, i3, i4, i5, i6⟩ := I
  obtain ⟨b1, b2, b3, b4, b5, b6, b7, b8, b9⟩ := Bd
  obtain ⟨X2, S2, Z2, O2⟩ := rebS (Z := K.Z) (own := M.y.cls) i1 (n1 := T.heap.size) (by rw [eT]; exact i2) X' hS hg b8 b4
  obtain ⟨s₂, o, h1, r⟩ := k v U.heap xs q p e s U.vm U.heap.size m args below meth c U (locs ++ L) _ _ ⟨b1, b2, b3, O2, b5, b6, b7, Z2, b9⟩ X2 (Nat.add_le_add_right hc _) (Nat.add_le_add_right hs _) rfl (N.app NL)
    ⟨S2, Nat.le_refl _, fun q => State.WarmedH.trans (t := s.setVm vm0) (i3 q) (w q), i4.trans C, fun x hx => by
      rcases List.mem_append.mp hx with hx | hx
      · exact S x hx
      · exact ⟨(i5 x hx).1, Nat.lt_of_lt_of_le (i5 x hx).2.1 C.2.1, C.safe (i5 x hx).2.1 (i5 x hx).2.2⟩, E⟩
  exact ⟨s₂, o, st.trans h1, r⟩
theorem own_static {index : Nat} {argsL : List Value} (hd : decode M.b pc = .ok (.invokestatic index, 3)) (hp : pc + 3 = pc') (w1 : (Jvm.Cond.methodLink M.y.cls index M'.y).before a0 K.Z = true) (w2 : (Jvm.Cond.static M'.y).before a0 K.Z = true) (w3 : (Jvm.Cond.initialized M'.y.cls).before a0 K.Z = true) (w4 : (Jvm.Cond.code M'.y M'.b M'.mx M'.ret).before a0 K.Z = true)
    (hy : M'.y.cls ≠ "java/lang/invoke/MethodHandle" ∧ M'.y.cls ≠ "java/lang/invoke/VarHandle") (hsz : Ls.length = M.mx) (hlen : ∀ sig, parseMethodDescriptor M'.y.desc = some sig → argsL.length = sig.parameters.length) (hst : St = argsL.reverse ++ rest)
    (hf : Nat.ble (M'.R.frames + 1) M.R.frames = true) (hl : Nat.ble ((rest.map fun v => v.category).sum + (M'.mx + 11) + M'.R.locals) M.R.locals = true) (hc : Nat.ble (cs + M'.R.cells) M.R.cells = true) (hs : Nat.ble (sl + M'.R.slots) M.R.slots = true)
    (hM : own_Met K M' argsL.toArray sf' h Q') (hsf : ∀ x ∈ sf', x ∈ sf) (k : ∀ v h' xs, Q' v h' xs → own_WP K M Q pc' Ls (v.toList ++ rest) (xs ++ sf) h' (cs + M'.R.cells) (sl + M'.R.slots)) : own_WP K M Q pc Ls St sf h cs sl := by
  subst hst hp
  intro p e s vm0 k0 m args below meth c T locs cs' sl' B X hc' hs' eT N I
  have q1 := Nat.le_of_ble_eq_true hf
  have q2 := Nat.le_of_ble_eq_true hl
  have q3 := Nat.le_of_ble_eq_true hc
  have q4 := Nat.le_of_ble_eq_true hs
  obtain ⟨v, vm₁, B', -, X', hS, hg, P, st⟩ := callSS X B.1 (y := M'.y) (bytes := M'.b) (maxL := M'.mx) (ret := M'.ret) B.2.2.2.1 (mv B.2.2.2.2.2.2.2.1 w1) (mv B.2.2.2.2.2.2.2.1 w2) (mv B.2.2.2.2.2.2.2.1 w3) (mv B.2.2.2.2.2.2.2.1 w4) hy
    (own_back (W := (rest.map fun v => v.category).sum) hM hsf B.2.2.2.2.2.2.2.1 B.2.2.2.2.2.2.2.2 I w4 w3 q1 q2) (g := mkF m pc Ls.toArray (argsL.reverse ++ rest)) rfl (by rw [B.2.2.1, ← hsz]; simp) (argsL := argsL) (rest := rest) hlen rfl (by show 2 * 0 + _ ≤ _; omega) (hb B.2.1 hd)
    (fun vm₁ _ => ⟨rfl, eT, by show cs' + _ ≤ _; omega, by show sl' + _ ≤ _; omega⟩)
  exact own_called k B hc' hs' eT N I X' hS hg P st
theorem own_special {index : Nat} {a : Addr} {argsL : List Value} (hd : decode M.b pc = .ok (.invokespecial index, 3)) (hp : pc + 3 = pc') (hn : M'.y.name = "<init>") (hrt : M'.ret = none) (w1 : (Jvm.Cond.methodLink M.y.cls index M'.y).before a0 K.Z = true) (w2 : (Jvm.Cond.instanceMethod M'.y).before a0 K.Z = true) (w3 : (Jvm.Cond.initialized M'.y.cls).before a0 K.Z = true) (w4 : (Jvm.Cond.code M'.y M'.b M'.mx M'.ret).before a0 K.Z = true)
    (hy : M'.y.cls ≠ "java/lang/invoke/MethodHandle" ∧ M'.y.cls ≠ "java/lang/invoke/VarHandle") (hsz : Ls.length = M.mx) (hlen : ∀ sig, parseMethodDescriptor M'.y.desc = some sig → argsL.length = sig.parameters.length) (hst : St = argsL.reverse ++ .ref a :: rest)
    (hf : Nat.ble (M'.R.frames + 1) M.R.frames = true) (hl : Nat.ble ((rest.map fun v => v.category).sum + (M'.mx + 11) + M'.R.locals) M.R.locals = true) (hc : Nat.ble (cs + M'.R.cells) M.R.cells = true) (hs : Nat.ble (sl + M'.R.slots) M.R.slots = true)
    (hM : own_Met K M' (.ref a :: argsL).toArray sf' h Q') (hsf : ∀ x ∈ sf', x ∈ sf) (k : ∀ v h' xs, Q' v h' xs → own_WP K M Q pc' Ls (v.toList ++ rest) (xs ++ sf) h' (cs + M'.R.cells) (sl + M'.R.slots)) : own_WP K M Q pc Ls St sf h cs sl := by
  subst hst hp
  intro p e s vm0 k0 m args below meth c T locs cs' sl' B X hc' hs' eT N I
  have q1 := Nat.le_of_ble_eq_true hf
  have q2 := Nat.le_of_ble_eq_true hl
  have q3 := Nat.le_of_ble_eq_true hc
  have q4 := Nat.le_of_ble_eq_true hs
  have w4' : (Jvm.Cond.code M'.y M'.b M'.mx none).before a0 K.Z = true := by rw [← hrt]; exact w4
  obtain ⟨v, vm₁, B', -, X', hS, hg, P, st⟩ := X.specialBackS B.1 (y := M'.y) hn B.2.2.2.1 (mv B.2.2.2.2.2.2.2.1 w1) (mv B.2.2.2.2.2.2.2.1 w2) (bytes := M'.b) (maxL := M'.mx) (mv B.2.2.2.2.2.2.2.1 w4') hy
    (own_back (W := (rest.map fun v => v.category).sum) hM hsf B.2.2.2.2.2.2.2.1 B.2.2.2.2.2.2.2.2 I w4 w3 q1 q2) (g := mkF m pc Ls.toArray (argsL.reverse ++ .ref a :: rest)) rfl (by rw [B.2.2.1, ← hsz]; simp) (Steps.refl _) (a := a) (argsL := argsL) (rest := rest) hlen rfl (by show 2 * 0 + _ ≤ _; omega) (hb B.2.1 hd)
    (fun vm₁ _ => ⟨rfl, eT, by show cs' + _ ≤ _; omega, by show sl' + _ ≤ _; omega⟩)
  exact own_called k B hc' hs' eT N I X' hS hg P st
theorem own_virtual {index : Nat} {a : Addr} {C : String} {argsL : List Value} (hd : decode M.b pc = .ok (.invokevirtual index, 3)) (hp : pc + 3 = pc') (w1 : (Jvm.Cond.methodLink M.y.cls index M'.y).before a0 K.Z = true) (w2 : (Jvm.Cond.declares M'.y).before a0 K.Z = true) (w5 : (Jvm.Cond.selects C M'.y M'.y).before a0 K.Z = true) (w6 : (Jvm.Cond.instanceMethod M'.y).before a0 K.Z = true) (w3 : (Jvm.Cond.initialized M'.y.cls).before a0 K.Z = true) (w4 : (Jvm.Cond.code M'.y M'.b M'.mx M'.ret).before a0 K.Z = true)
    (hy : M'.y.cls ≠ "java/lang/invoke/MethodHandle" ∧ M'.y.cls ≠ "java/lang/invoke/VarHandle") (hsz : Ls.length = M.mx) (hlen : ∀ sig, parseMethodDescriptor M'.y.desc = some sig → argsL.length = sig.parameters.length) (hst : St = argsL.reverse ++ .ref a :: rest)
    (hf : Nat.ble (M'.R.frames + 1) M.R.frames = true) (hl : Nat.ble ((rest.map fun v => v.category).sum + (M'.mx + 11) + M'.R.locals) M.R.locals = true) (hc : Nat.ble (cs + M'.R.cells) M.R.cells = true) (hs : Nat.ble (sl + M'.R.slots) M.R.slots = true)
    (E : Exa K.Z h a C) (hM : own_Met K M' (.ref a :: argsL).toArray sf' h Q') (hsf : ∀ x ∈ sf', x ∈ sf) (k : ∀ v h' xs, Q' v h' xs → own_WP K M Q pc' Ls (v.toList ++ rest) (xs ++ sf) h' (cs + M'.R.cells) (sl + M'.R.slots)) : own_WP K M Q pc Ls St sf h cs sl := by
  subst hst hp
  intro p e s vm0 k0 m args below meth c T locs cs' sl' B X hc' hs' eT N I
  have q1 := Nat.le_of_ble_eq_true hf
  have q2 := Nat.le_of_ble_eq_true hl
  have q3 := Nat.le_of_ble_eq_true hc
  have q4 := Nat.le_of_ble_eq_true hs
  obtain ⟨cB, kB, r1, r2, r3⟩ := isOf (T := T) B.2.2.2.2.2.2.2.1 eT E
  obtain ⟨v, vm₁, B', -, X', hS, hg, P, st⟩ := X.virtualBackS B.1 (y := M'.y) (z := M'.y) B.2.2.2.1 (mv B.2.2.2.2.2.2.2.1 w1) (mv B.2.2.2.2.2.2.2.1 w2) (notFace_of_selects (args := #[]) (mv B.2.2.2.2.2.2.2.1 w5)) (mv B.2.2.2.2.2.2.2.1 w5) (mv B.2.2.2.2.2.2.2.1 w6) hy
    (own_back (W := (rest.map fun v => v.category).sum) hM hsf B.2.2.2.2.2.2.2.1 B.2.2.2.2.2.2.2.2 I w4 w3 q1 q2) r1 r3 (g := mkF m pc Ls.toArray (argsL.reverse ++ .ref a :: rest)) rfl (by rw [B.2.2.1, ← hsz]; simp) (Steps.refl _) (argsL := argsL) (rest := rest) hlen rfl (by show 2 * 0 + _ ≤ _; omega) (hb B.2.1 hd)
    (fun vm₁ _ => ⟨rfl, eT, by show cs' + _ ≤ _; omega, by show sl' + _ ≤ _; omega⟩)
  exact own_called k B hc' hs' eT N I X' hS hg P st
theorem own_static1v {index : Nat} {v0 : Value} {q' : Value → Heap → List Addr → Prop} (hd : decode M.b pc = .ok (.invokestatic index, 3)) (hp : pc + 3 = pc') (w1 : (Jvm.Cond.methodLink M.y.cls index M'.y).before a0 K.Z = true) (w2 : (Jvm.Cond.static M'.y).before a0 K.Z = true) (w3 : (Jvm.Cond.initialized M'.y.cls).before a0 K.Z = true) (w4 : (Jvm.Cond.code M'.y M'.b M'.mx M'.ret).before a0 K.Z = true) (hy : M'.y.cls ≠ "java/lang/invoke/MethodHandle" ∧ M'.y.cls ≠ "java/lang/invoke/VarHandle") (hsz : Ls.length = M.mx) (hlen : ∀ sig, parseMethodDescriptor M'.y.desc = some sig → 1 = sig.parameters.length)
    (hf : Nat.ble (M'.R.frames + 1) M.R.frames = true) (hl : Nat.ble ((rest.map fun v => v.category).sum + (M'.mx + 11) + M'.R.locals) M.R.locals = true) (hc : Nat.ble (cs + M'.R.cells) M.R.cells = true) (hs : Nat.ble (sl + M'.R.slots) M.R.slots = true) (hM : own_Met K M' #[v0] sf' h (own_ret q')) (hsf : ∀ x ∈ sf', x ∈ sf) (k : ∀ w h' xs, q' w h' xs → own_WP K M Q pc' Ls (w :: rest) (xs ++ sf) h' (cs + M'.R.cells) (sl + M'.R.slots)) :
    own_WP K M Q pc Ls (v0 :: rest) sf h cs sl := own_static (argsL := [v0]) hd hp w1 w2 w3 w4 hy hsz hlen rfl hf hl hc hs hM hsf (fun v h' xs ⟨w, e, q⟩ => by subst e; exact k w h' xs q)
theorem own_static2v {index : Nat} {v0 v1 : Value} {q' : Value → Heap → List Addr → Prop} (hd : decode M.b pc = .ok (.invokestatic index, 3)) (hp : pc + 3 = pc') (w1 : (Jvm.Cond.methodLink M.y.cls index M'.y).before a0 K.Z = true) (w2 : (Jvm.Cond.static M'.y).before a0 K.Z = true) (w3 : (Jvm.Cond.initialized M'.y.cls).before a0 K.Z = true) (w4 : (Jvm.Cond.code M'.y M'.b M'.mx M'.ret).before a0 K.Z = true) (hy : M'.y.cls ≠ "java/lang/invoke/MethodHandle" ∧ M'.y.cls ≠ "java/lang/invoke/VarHandle") (hsz : Ls.length = M.mx) (hlen : ∀ sig, parseMethodDescriptor M'.y.desc = some sig → 2 = sig.parameters.length)
    (hf : Nat.ble (M'.R.frames + 1) M.R.frames = true) (hl : Nat.ble ((rest.map fun v => v.category).sum + (M'.mx + 11) + M'.R.locals) M.R.locals = true) (hc : Nat.ble (cs + M'.R.cells) M.R.cells = true) (hs : Nat.ble (sl + M'.R.slots) M.R.slots = true) (hM : own_Met K M' #[v0, v1] sf' h (own_ret q')) (hsf : ∀ x ∈ sf', x ∈ sf) (k : ∀ w h' xs, q' w h' xs → own_WP K M Q pc' Ls (w :: rest) (xs ++ sf) h' (cs + M'.R.cells) (sl + M'.R.slots)) :
    own_WP K M Q pc Ls (v1 :: v0 :: rest) sf h cs sl := own_static (argsL := [v0, v1]) hd hp w1 w2 w3 w4 hy hsz hlen rfl hf hl hc hs hM hsf (fun v h' xs ⟨w, e, q⟩ => by subst e; exact k w h' xs q)
theorem own_static3v {index : Nat} {v0 v1 v2 : Value} {q' : Value → Heap → List Addr → Prop} (hd : decode M.b pc = .ok (.invokestatic index, 3)) (hp : pc + 3 = pc') (w1 : (Jvm.Cond.methodLink M.y.cls index M'.y).before a0 K.Z = true) (w2 : (Jvm.Cond.static M'.y).before a0 K.Z = true) (w3 : (Jvm.Cond.initialized M'.y.cls).before a0 K.Z = true) (w4 : (Jvm.Cond.code M'.y M'.b M'.mx M'.ret).before a0 K.Z = true) (hy : M'.y.cls ≠ "java/lang/invoke/MethodHandle" ∧ M'.y.cls ≠ "java/lang/invoke/VarHandle") (hsz : Ls.length = M.mx) (hlen : ∀ sig, parseMethodDescriptor M'.y.desc = some sig → 3 = sig.parameters.length)
    (hf : Nat.ble (M'.R.frames + 1) M.R.frames = true) (hl : Nat.ble ((rest.map fun v => v.category).sum + (M'.mx + 11) + M'.R.locals) M.R.locals = true) (hc : Nat.ble (cs + M'.R.cells) M.R.cells = true) (hs : Nat.ble (sl + M'.R.slots) M.R.slots = true) (hM : own_Met K M' #[v0, v1, v2] sf' h (own_ret q')) (hsf : ∀ x ∈ sf', x ∈ sf) (k : ∀ w h' xs, q' w h' xs → own_WP K M Q pc' Ls (w :: rest) (xs ++ sf) h' (cs + M'.R.cells) (sl + M'.R.slots)) :
    own_WP K M Q pc Ls (v2 :: v1 :: v0 :: rest) sf h cs sl := own_static (argsL := [v0, v1, v2]) hd hp w1 w2 w3 w4 hy hsz hlen rfl hf hl hc hs hM hsf (fun v h' xs ⟨w, e, q⟩ => by subst e; exact k w h' xs q)
theorem own_static3n {index : Nat} {v0 v1 v2 : Value} {q' : Heap → List Addr → Prop} (hd : decode M.b pc = .ok (.invokestatic index, 3)) (hp : pc + 3 = pc') (w1 : (Jvm.Cond.methodLink M.y.cls index M'.y).before a0 K.Z = true) (w2 : (Jvm.Cond.static M'.y).before a0 K.Z = true) (w3 : (Jvm.Cond.initialized M'.y.cls).before a0 K.Z = true) (w4 : (Jvm.Cond.code M'.y M'.b M'.mx M'.ret).before a0 K.Z = true) (hy : M'.y.cls ≠ "java/lang/invoke/MethodHandle" ∧ M'.y.cls ≠ "java/lang/invoke/VarHandle") (hsz : Ls.length = M.mx) (hlen : ∀ sig, parseMethodDescriptor M'.y.desc = some sig → 3 = sig.parameters.length)
    (hf : Nat.ble (M'.R.frames + 1) M.R.frames = true) (hl : Nat.ble ((rest.map fun v => v.category).sum + (M'.mx + 11) + M'.R.locals) M.R.locals = true) (hc : Nat.ble (cs + M'.R.cells) M.R.cells = true) (hs : Nat.ble (sl + M'.R.slots) M.R.slots = true) (hM : own_Met K M' #[v0, v1, v2] sf' h (own_void q')) (hsf : ∀ x ∈ sf', x ∈ sf) (k : ∀ h' xs, q' h' xs → own_WP K M Q pc' Ls rest (xs ++ sf) h' (cs + M'.R.cells) (sl + M'.R.slots)) :
    own_WP K M Q pc Ls (v2 :: v1 :: v0 :: rest) sf h cs sl := own_static (argsL := [v0, v1, v2]) hd hp w1 w2 w3 w4 hy hsz hlen rfl hf hl hc hs hM hsf (fun v h' xs ⟨e, q⟩ => by subst e; exact k h' xs q)
theorem own_static4v {index : Nat} {v0 v1 v2 v3 : Value} {q' : Value → Heap → List Addr → Prop} (hd : decode M.b pc = .ok (.invokestatic index, 3)) (hp : pc + 3 = pc') (w1 : (Jvm.Cond.methodLink M.y.cls index M'.y).before a0 K.Z = true) (w2 : (Jvm.Cond.static M'.y).before a0 K.Z = true) (w3 : (Jvm.Cond.initialized M'.y.cls).before a0 K.Z = true) (w4 : (Jvm.Cond.code M'.y M'.b M'.mx M'.ret).before a0 K.Z = true) (hy : M'.y.cls ≠ "java/lang/invoke/MethodHandle" ∧ M'.y.cls ≠ "java/lang/invoke/VarHandle") (hsz : Ls.length = M.mx) (hlen : ∀ sig, parseMethodDescriptor M'.y.desc = some sig → 4 = sig.parameters.length)
    (hf : Nat.ble (M'.R.frames + 1) M.R.frames = true) (hl : Nat.ble ((rest.map fun v => v.category).sum + (M'.mx + 11) + M'.R.locals) M.R.locals = true) (hc : Nat.ble (cs + M'.R.cells) M.R.cells = true) (hs : Nat.ble (sl + M'.R.slots) M.R.slots = true) (hM : own_Met K M' #[v0, v1, v2, v3] sf' h (own_ret q')) (hsf : ∀ x ∈ sf', x ∈ sf) (k : ∀ w h' xs, q' w h' xs → own_WP K M Q pc' Ls (w :: rest) (xs ++ sf) h' (cs + M'.R.cells) (sl + M'.R.slots)) :
    own_WP K M Q pc Ls (v3 :: v2 :: v1 :: v0 :: rest) sf h cs sl := own_static (argsL := [v0, v1, v2, v3]) hd hp w1 w2 w3 w4 hy hsz hlen rfl hf hl hc hs hM hsf (fun v h' xs ⟨w, e, q⟩ => by subst e; exact k w h' xs q)
theorem own_static4n {index : Nat} {v0 v1 v2 v3 : Value} {q' : Heap → List Addr → Prop} (hd : decode M.b pc = .ok (.invokestatic index, 3)) (hp : pc + 3 = pc') (w1 : (Jvm.Cond.methodLink M.y.cls index M'.y).before a0 K.Z = true) (w2 : (Jvm.Cond.static M'.y).before a0 K.Z = true) (w3 : (Jvm.Cond.initialized M'.y.cls).before a0 K.Z = true) (w4 : (Jvm.Cond.code M'.y M'.b M'.mx M'.ret).before a0 K.Z = true) (hy : M'.y.cls ≠ "java/lang/invoke/MethodHandle" ∧ M'.y.cls ≠ "java/lang/invoke/VarHandle") (hsz : Ls.length = M.mx) (hlen : ∀ sig, parseMethodDescriptor M'.y.desc = some sig → 4 = sig.parameters.length)
    (hf : Nat.ble (M'.R.frames + 1) M.R.frames = true) (hl : Nat.ble ((rest.map fun v => v.category).sum + (M'.mx + 11) + M'.R.locals) M.R.locals = true) (hc : Nat.ble (cs + M'.R.cells) M.R.cells = true) (hs : Nat.ble (sl + M'.R.slots) M.R.slots = true) (hM : own_Met K M' #[v0, v1, v2, v3] sf' h (own_void q')) (hsf : ∀ x ∈ sf', x ∈ sf) (k : ∀ h' xs, q' h' xs → own_WP K M Q pc' Ls rest (xs ++ sf) h' (cs + M'.R.cells) (sl + M'.R.slots)) :
    own_WP K M Q pc Ls (v3 :: v2 :: v1 :: v0 :: rest) sf h cs sl := own_static (argsL := [v0, v1, v2, v3]) hd hp w1 w2 w3 w4 hy hsz hlen rfl hf hl hc hs hM hsf (fun v h' xs ⟨e, q⟩ => by subst e; exact k h' xs q)
theorem own_static5v {index : Nat} {v0 v1 v2 v3 v4 : Value} {q' : Value → Heap → List Addr → Prop} (hd : decode M.b pc = .ok (.invokestatic index, 3)) (hp : pc + 3 = pc') (w1 : (Jvm.Cond.methodLink M.y.cls index M'.y).before a0 K.Z = true) (w2 : (Jvm.Cond.static M'.y).before a0 K.Z = true) (w3 : (Jvm.Cond.initialized M'.y.cls).before a0 K.Z = true) (w4 : (Jvm.Cond.code M'.y M'.b M'.mx M'.ret).before a0 K.Z = true) (hy : M'.y.cls ≠ "java/lang/invoke/MethodHandle" ∧ M'.y.cls ≠ "java/lang/invoke/VarHandle") (hsz : Ls.length = M.mx) (hlen : ∀ sig, parseMethodDescriptor M'.y.desc = some sig → 5 = sig.parameters.length)
    (hf : Nat.ble (M'.R.frames + 1) M.R.frames = true) (hl : Nat.ble ((rest.map fun v => v.category).sum + (M'.mx + 11) + M'.R.locals) M.R.locals = true) (hc : Nat.ble (cs + M'.R.cells) M.R.cells = true) (hs : Nat.ble (sl + M'.R.slots) M.R.slots = true) (hM : own_Met K M' #[v0, v1, v2, v3, v4] sf' h (own_ret q')) (hsf : ∀ x ∈ sf', x ∈ sf) (k : ∀ w h' xs, q' w h' xs → own_WP K M Q pc' Ls (w :: rest) (xs ++ sf) h' (cs + M'.R.cells) (sl + M'.R.slots)) :
    own_WP K M Q pc Ls (v4 :: v3 :: v2 :: v1 :: v0 :: rest) sf h cs sl := own_static (argsL := [v0, v1, v2, v3, v4]) hd hp w1 w2 w3 w4 hy hsz hlen rfl hf hl hc hs hM hsf (fun v h' xs ⟨w, e, q⟩ => by subst e; exact k w h' xs q)
theorem own_special1n {index : Nat} {a : Addr} {v0 : Value} {q' : Heap → List Addr → Prop} (hd : decode M.b pc = .ok (.invokespecial index, 3)) (hp : pc + 3 = pc') (hn : M'.y.name = "<init>") (hrt : M'.ret = none) (w1 : (Jvm.Cond.methodLink M.y.cls index M'.y).before a0 K.Z = true) (w2 : (Jvm.Cond.instanceMethod M'.y).before a0 K.Z = true) (w3 : (Jvm.Cond.initialized M'.y.cls).before a0 K.Z = true) (w4 : (Jvm.Cond.code M'.y M'.b M'.mx M'.ret).before a0 K.Z = true) (hy : M'.y.cls ≠ "java/lang/invoke/MethodHandle" ∧ M'.y.cls ≠ "java/lang/invoke/VarHandle") (hsz : Ls.length = M.mx) (hlen : ∀ sig, parseMethodDescriptor M'.y.desc = some sig → 1 = sig.parameters.length)
    (hf : Nat.ble (M'.R.frames + 1) M.R.frames = true) (hl : Nat.ble ((rest.map fun v => v.category).sum + (M'.mx + 11) + M'.R.locals) M.R.locals = true) (hc : Nat.ble (cs + M'.R.cells) M.R.cells = true) (hs : Nat.ble (sl + M'.R.slots) M.R.slots = true) (hM : own_Met K M' #[.ref a, v0] sf' h (own_void q')) (hsf : ∀ x ∈ sf', x ∈ sf) (k : ∀ h' xs, q' h' xs → own_WP K M Q pc' Ls rest (xs ++ sf) h' (cs + M'.R.cells) (sl + M'.R.slots)) :
    own_WP K M Q pc Ls (v0 :: .ref a :: rest) sf h cs sl := own_special (argsL := [v0]) hd hp hn hrt w1 w2 w3 w4 hy hsz hlen rfl hf hl hc hs hM hsf (fun v h' xs ⟨e, q⟩ => by subst e; exact k h' xs q)
theorem own_special2n {index : Nat} {a : Addr} {v0 v1 : Value} {q' : Heap → List Addr → Prop} (hd : decode M.b pc = .ok (.invokespecial index, 3)) (hp : pc + 3 = pc') (hn : M'.y.name = "<init>") (hrt : M'.ret = none) (w1 : (Jvm.Cond.methodLink M.y.cls index M'.y).before a0 K.Z = true) (w2 : (Jvm.Cond.instanceMethod M'.y).before a0 K.Z = true) (w3 : (Jvm.Cond.initialized M'.y.cls).before a0 K.Z = true) (w4 : (Jvm.Cond.code M'.y M'.b M'.mx M'.ret).before a0 K.Z = true) (hy : M'.y.cls ≠ "java/lang/invoke/MethodHandle" ∧ M'.y.cls ≠ "java/lang/invoke/VarHandle") (hsz : Ls.length = M.mx) (hlen : ∀ sig, parseMethodDescriptor M'.y.desc = some sig → 2 = sig.parameters.length)
    (hf : Nat.ble (M'.R.frames + 1) M.R.frames = true) (hl : Nat.ble ((rest.map fun v => v.category).sum + (M'.mx + 11) + M'.R.locals) M.R.locals = true) (hc : Nat.ble (cs + M'.R.cells) M.R.cells = true) (hs : Nat.ble (sl + M'.R.slots) M.R.slots = true) (hM : own_Met K M' #[.ref a, v0, v1] sf' h (own_void q')) (hsf : ∀ x ∈ sf', x ∈ sf) (k : ∀ h' xs, q' h' xs → own_WP K M Q pc' Ls rest (xs ++ sf) h' (cs + M'.R.cells) (sl + M'.R.slots)) :
    own_WP K M Q pc Ls (v1 :: v0 :: .ref a :: rest) sf h cs sl := own_special (argsL := [v0, v1]) hd hp hn hrt w1 w2 w3 w4 hy hsz hlen rfl hf hl hc hs hM hsf (fun v h' xs ⟨e, q⟩ => by subst e; exact k h' xs q)
theorem own_special4n {index : Nat} {a : Addr} {v0 v1 v2 v3 : Value} {q' : Heap → List Addr → Prop} (hd : decode M.b pc = .ok (.invokespecial index, 3)) (hp : pc + 3 = pc') (hn : M'.y.name = "<init>") (hrt : M'.ret = none) (w1 : (Jvm.Cond.methodLink M.y.cls index M'.y).before a0 K.Z = true) (w2 : (Jvm.Cond.instanceMethod M'.y).before a0 K.Z = true) (w3 : (Jvm.Cond.initialized M'.y.cls).before a0 K.Z = true) (w4 : (Jvm.Cond.code M'.y M'.b M'.mx M'.ret).before a0 K.Z = true) (hy : M'.y.cls ≠ "java/lang/invoke/MethodHandle" ∧ M'.y.cls ≠ "java/lang/invoke/VarHandle") (hsz : Ls.length = M.mx) (hlen : ∀ sig, parseMethodDescriptor M'.y.desc = some sig → 4 = sig.parameters.length)
    (hf : Nat.ble (M'.R.frames + 1) M.R.frames = true) (hl : Nat.ble ((rest.map fun v => v.category).sum + (M'.mx + 11) + M'.R.locals) M.R.locals = true) (hc : Nat.ble (cs + M'.R.cells) M.R.cells = true) (hs : Nat.ble (sl + M'.R.slots) M.R.slots = true) (hM : own_Met K M' #[.ref a, v0, v1, v2, v3] sf' h (own_void q')) (hsf : ∀ x ∈ sf', x ∈ sf) (k : ∀ h' xs, q' h' xs → own_WP K M Q pc' Ls rest (xs ++ sf) h' (cs + M'.R.cells) (sl + M'.R.slots)) :
    own_WP K M Q pc Ls (v3 :: v2 :: v1 :: v0 :: .ref a :: rest) sf h cs sl := own_special (argsL := [v0, v1, v2, v3]) hd hp hn hrt w1 w2 w3 w4 hy hsz hlen rfl hf hl hc hs hM hsf (fun v h' xs ⟨e, q⟩ => by subst e; exact k h' xs q)
theorem own_virtual0v {index : Nat} {a : Addr} {C : String} {q' : Value → Heap → List Addr → Prop} (hd : decode M.b pc = .ok (.invokevirtual index, 3)) (hp : pc + 3 = pc') (w1 : (Jvm.Cond.methodLink M.y.cls index M'.y).before a0 K.Z = true) (w2 : (Jvm.Cond.declares M'.y).before a0 K.Z = true) (w5 : (Jvm.Cond.selects C M'.y M'.y).before a0 K.Z = true) (w6 : (Jvm.Cond.instanceMethod M'.y).before a0 K.Z = true) (w3 : (Jvm.Cond.initialized M'.y.cls).before a0 K.Z = true) (w4 : (Jvm.Cond.code M'.y M'.b M'.mx M'.ret).before a0 K.Z = true) (hy : M'.y.cls ≠ "java/lang/invoke/MethodHandle" ∧ M'.y.cls ≠ "java/lang/invoke/VarHandle") (hsz : Ls.length = M.mx) (hlen : ∀ sig, parseMethodDescriptor M'.y.desc = some sig → 0 = sig.parameters.length)
    (hf : Nat.ble (M'.R.frames + 1) M.R.frames = true) (hl : Nat.ble ((rest.map fun v => v.category).sum + (M'.mx + 11) + M'.R.locals) M.R.locals = true) (hc : Nat.ble (cs + M'.R.cells) M.R.cells = true) (hs : Nat.ble (sl + M'.R.slots) M.R.slots = true) (E : Exa K.Z h a C) (hM : own_Met K M' #[.ref a] sf' h (own_ret q')) (hsf : ∀ x ∈ sf', x ∈ sf) (k : ∀ w h' xs, q' w h' xs → own_WP K M Q pc' Ls (w :: rest) (xs ++ sf) h' (cs + M'.R.cells) (sl + M'.R.slots)) :
    own_WP K M Q pc Ls (.ref a :: rest) sf h cs sl := own_virtual (argsL := []) hd hp w1 w2 w5 w6 w3 w4 hy hsz hlen rfl hf hl hc hs E hM hsf (fun v h' xs ⟨w, e, q⟩ => by subst e; exact k w h' xs q)
theorem own_virtual1v {index : Nat} {a : Addr} {C : String} {v0 : Value} {q' : Value → Heap → List Addr → Prop} (hd : decode M.b pc = .ok (.invokevirtual index, 3)) (hp : pc + 3 = pc') (w1 : (Jvm.Cond.methodLink M.y.cls index M'.y).before a0 K.Z = true) (w2 : (Jvm.Cond.declares M'.y).before a0 K.Z = true) (w5 : (Jvm.Cond.selects C M'.y M'.y).before a0 K.Z = true) (w6 : (Jvm.Cond.instanceMethod M'.y).before a0 K.Z = true) (w3 : (Jvm.Cond.initialized M'.y.cls).before a0 K.Z = true) (w4 : (Jvm.Cond.code M'.y M'.b M'.mx M'.ret).before a0 K.Z = true) (hy : M'.y.cls ≠ "java/lang/invoke/MethodHandle" ∧ M'.y.cls ≠ "java/lang/invoke/VarHandle") (hsz : Ls.length = M.mx) (hlen : ∀ sig, parseMethodDescriptor M'.y.desc = some sig → 1 = sig.parameters.length)
    (hf : Nat.ble (M'.R.frames + 1) M.R.frames = true) (hl : Nat.ble ((rest.map fun v => v.category).sum + (M'.mx + 11) + M'.R.locals) M.R.locals = true) (hc : Nat.ble (cs + M'.R.cells) M.R.cells = true) (hs : Nat.ble (sl + M'.R.slots) M.R.slots = true) (E : Exa K.Z h a C) (hM : own_Met K M' #[.ref a, v0] sf' h (own_ret q')) (hsf : ∀ x ∈ sf', x ∈ sf) (k : ∀ w h' xs, q' w h' xs → own_WP K M Q pc' Ls (w :: rest) (xs ++ sf) h' (cs + M'.R.cells) (sl + M'.R.slots)) :
    own_WP K M Q pc Ls (v0 :: .ref a :: rest) sf h cs sl := own_virtual (argsL := [v0]) hd hp w1 w2 w5 w6 w3 w4 hy hsz hlen rfl hf hl hc hs E hM hsf (fun v h' xs ⟨w, e, q⟩ => by subst e; exact k w h' xs q)
theorem own_virtual2v {index : Nat} {a : Addr} {C : String} {v0 v1 : Value} {q' : Value → Heap → List Addr → Prop} (hd : decode M.b pc = .ok (.invokevirtual index, 3)) (hp : pc + 3 = pc') (w1 : (Jvm.Cond.methodLink M.y.cls index M'.y).before a0 K.Z = true) (w2 : (Jvm.Cond.declares M'.y).before a0 K.Z = true) (w5 : (Jvm.Cond.selects C M'.y M'.y).before a0 K.Z = true) (w6 : (Jvm.Cond.instanceMethod M'.y).before a0 K.Z = true) (w3 : (Jvm.Cond.initialized M'.y.cls).before a0 K.Z = true) (w4 : (Jvm.Cond.code M'.y M'.b M'.mx M'.ret).before a0 K.Z = true) (hy : M'.y.cls ≠ "java/lang/invoke/MethodHandle" ∧ M'.y.cls ≠ "java/lang/invoke/VarHandle") (hsz : Ls.length = M.mx) (hlen : ∀ sig, parseMethodDescriptor M'.y.desc = some sig → 2 = sig.parameters.length)
    (hf : Nat.ble (M'.R.frames + 1) M.R.frames = true) (hl : Nat.ble ((rest.map fun v => v.category).sum + (M'.mx + 11) + M'.R.locals) M.R.locals = true) (hc : Nat.ble (cs + M'.R.cells) M.R.cells = true) (hs : Nat.ble (sl + M'.R.slots) M.R.slots = true) (E : Exa K.Z h a C) (hM : own_Met K M' #[.ref a, v0, v1] sf' h (own_ret q')) (hsf : ∀ x ∈ sf', x ∈ sf) (k : ∀ w h' xs, q' w h' xs → own_WP K M Q pc' Ls (w :: rest) (xs ++ sf) h' (cs + M'.R.cells) (sl + M'.R.slots)) :
    own_WP K M Q pc Ls (v1 :: v0 :: .ref a :: rest) sf h cs sl := own_virtual (argsL := [v0, v1]) hd hp w1 w2 w5 w6 w3 w4 hy hsz hlen rfl hf hl hc hs E hM hsf (fun v h' xs ⟨w, e, q⟩ => by subst e; exact k w h' xs q)
end Calls
section Plain
variable {K : own_Cx} {M : own_Mi} {Q : own_Q} {pc pc' : Nat} {Ls : List Slot} {St : List Value} {sf : List Addr} {h : Heap} {cs sl : Nat} {a0 : Array Value}
theorem own_get {α : Type} {L : List α} {k : Nat} {v : α} (q : L[k]? = some v) : L.toArray[k]? = some v := by simpa using q
theorem own_aload_n {i : Fin 4} {v : Value} (hp : pc + 1 = pc') (hd : decode M.b pc = .ok (.aload_n i, 1)) (hl : Ls[i.val]? = some (.val v)) (hv : v.isRef = true) (k : own_WP K M Q pc' Ls (v :: St) sf h cs sl) : own_WP K M Q pc Ls St sf h cs sl :=
  own_step k fun p e s m args below meth c T locs cs' sl' B X eT t q => XS.aloadN X.here B.1 rfl (hb B.2.1 hd) (own_get hl) hv (by subst hp; exact q)
theorem own_aload {i : Nat} {v : Value} (hp : pc + 2 = pc') (hd : decode M.b pc = .ok (.aload i, 2)) (hl : Ls[i]? = some (.val v)) (hv : v.isRef = true) (k : own_WP K M Q pc' Ls (v :: St) sf h cs sl) : own_WP K M Q pc Ls St sf h cs sl :=
  own_step k fun p e s m args below meth c T locs cs' sl' B X eT t q => XS.aload X.here B.1 rfl (hb B.2.1 hd) (own_get hl) hv (by subst hp; exact q)
theorem own_iload_n {i : Fin 4} {v : Int32} (hp : pc + 1 = pc') (hd : decode M.b pc = .ok (.iload_n i, 1)) (hl : Ls[i.val]? = some (.val (.int v))) (k : own_WP K M Q pc' Ls (.int v :: St) sf h cs sl) : own_WP K M Q pc Ls St sf h cs sl :=
  own_step k fun p e s m args below meth c T locs cs' sl' B X eT t q => XS.iloadN X.here B.1 rfl (hb B.2.1 hd) (own_get hl) (by subst hp; exact q)
theorem own_iload {i : Nat} {v : Int32} (hp : pc + 2 = pc') (hd : decode M.b pc = .ok (.iload i, 2)) (hl : Ls[i]? = some (.val (.int v))) (k : own_WP K M Q pc' Ls (.int v :: St) sf h cs sl) : own_WP K M Q pc Ls St sf h cs sl :=
  own_step k fun p e s m args below meth c T locs cs' sl' B X eT t q => XS.iload X.here B.1 rfl (hb B.2.1 hd) (own_get hl) (by subst hp; exact q)
theorem own_iconst {i : Int} {v : Int32} (hp : pc + 1 = pc') (hd : decode M.b pc = .ok (.iconst i, 1)) (hv : Int32.ofInt i = v) (k : own_WP K M Q pc' Ls (.int v :: St) sf h cs sl) : own_WP K M Q pc Ls St sf h cs sl :=
  own_step k fun p e s m args below meth c T locs cs' sl' B X eT t q => XS.iconst X.here B.1 rfl (hb B.2.1 hd) (by subst hp hv; exact q)
theorem own_bipush {i : Int} {v : Int32} (hp : pc + 2 = pc') (hd : decode M.b pc = .ok (.bipush i, 2)) (hv : (Int8.ofInt i).toInt32 = v) (k : own_WP K M Q pc' Ls (.int v :: St) sf h cs sl) : own_WP K M Q pc Ls St sf h cs sl :=
  own_step k fun p e s m args below meth c T locs cs' sl' B X eT t q => XS.bipush X.here B.1 rfl (hb B.2.1 hd) (by subst hp hv; exact q)
theorem own_sipush {i : Int} {v : Int32} (hp : pc + 3 = pc') (hd : decode M.b pc = .ok (.sipush i, 3)) (hv : (Int16.ofInt i).toInt32 = v) (k : own_WP K M Q pc' Ls (.int v :: St) sf h cs sl) : own_WP K M Q pc Ls St sf h cs sl :=
  own_step k fun p e s m args below meth c T locs cs' sl' B X eT t q => XS.sipush X.here B.1 rfl (hb B.2.1 hd) (by subst hp hv; exact q)
theorem own_aconst_null (hp : pc + 1 = pc') (hd : decode M.b pc = .ok (.aconst_null, 1)) (k : own_WP K M Q pc' Ls (.null :: St) sf h cs sl) : own_WP K M Q pc Ls St sf h cs sl :=
  own_step k fun p e s m args below meth c T locs cs' sl' B X eT t q => XS.aconstNull X.here B.1 rfl (hb B.2.1 hd) (by subst hp; exact q)
theorem own_iadd {x y : Int32} (hp : pc + 1 = pc') (hd : decode M.b pc = .ok (.iadd, 1)) (k : own_WP K M Q pc' Ls (.int (x + y) :: St) sf h cs sl) : own_WP K M Q pc Ls (.int y :: .int x :: St) sf h cs sl :=
  own_step k fun p e s m args below meth c T locs cs' sl' B X eT t q => XS.iadd X.here B.1 rfl (hb B.2.1 hd) rfl (by subst hp; exact q)
theorem own_isub {x y : Int32} (hp : pc + 1 = pc') (hd : decode M.b pc = .ok (.isub, 1)) (k : own_WP K M Q pc' Ls (.int (x - y) :: St) sf h cs sl) : own_WP K M Q pc Ls (.int y :: .int x :: St) sf h cs sl :=
  own_step k fun p e s m args below meth c T locs cs' sl' B X eT t q => XS.isub X.here B.1 rfl (hb B.2.1 hd) rfl (by subst hp; exact q)
theorem own_iand {x y : Int32} (hp : pc + 1 = pc') (hd : decode M.b pc = .ok (.iand, 1)) (k : own_WP K M Q pc' Ls (.int (x &&& y) :: St) sf h cs sl) : own_WP K M Q pc Ls (.int y :: .int x :: St) sf h cs sl :=
  own_step k fun p e s m args below meth c T locs cs' sl' B X eT t q => XS.iand X.here B.1 rfl (hb B.2.1 hd) rfl (by subst hp; exact q)
theorem own_ior {x y : Int32} (hp : pc + 1 = pc') (hd : decode M.b pc = .ok (.ior, 1)) (k : own_WP K M Q pc' Ls (.int (x ||| y) :: St) sf h cs sl) : own_WP K M Q pc Ls (.int y :: .int x :: St) sf h cs sl :=
  own_step k fun p e s m args below meth c T locs cs' sl' B X eT t q => XS.ior X.here B.1 rfl (hb B.2.1 hd) rfl (by subst hp; exact q)
theorem own_ishl {x y : Int32} (hp : pc + 1 = pc') (hd : decode M.b pc = .ok (.ishl, 1)) (k : own_WP K M Q pc' Ls (.int (x <<< (y &&& 31)) :: St) sf h cs sl) : own_WP K M Q pc Ls (.int y :: .int x :: St) sf h cs sl :=
  own_step k fun p e s m args below meth c T locs cs' sl' B X eT t q => XS.ishl X.here B.1 rfl (hb B.2.1 hd) rfl (by subst hp; exact q)
theorem own_ishr {x y : Int32} (hp : pc + 1 = pc') (hd : decode M.b pc = .ok (.ishr, 1)) (k : own_WP K M Q pc' Ls (.int (x >>> (y &&& 31)) :: St) sf h cs sl) : own_WP K M Q pc Ls (.int y :: .int x :: St) sf h cs sl :=
  own_step k fun p e s m args below meth c T locs cs' sl' B X eT t q => XS.ishr X.here B.1 rfl (hb B.2.1 hd) rfl (by subst hp; exact q)
theorem own_iushr {x y : Int32} (hp : pc + 1 = pc') (hd : decode M.b pc = .ok (.iushr, 1)) (k : own_WP K M Q pc' Ls (.int (XT.ushr x y) :: St) sf h cs sl) : own_WP K M Q pc Ls (.int y :: .int x :: St) sf h cs sl :=
  own_step k fun p e s m args below meth c T locs cs' sl' B X eT t q => XT.iushr X.here B.1 rfl (hb B.2.1 hd) rfl (by subst hp; exact q)
theorem own_i2b {x : Int32} (hp : pc + 1 = pc') (hd : decode M.b pc = .ok (.i2b, 1)) (k : own_WP K M Q pc' Ls (.int (x.toInt8.toInt32) :: St) sf h cs sl) : own_WP K M Q pc Ls (.int x :: St) sf h cs sl :=
  own_step k fun p e s m args below meth c T locs cs' sl' B X eT t q => XS.i2b X.here B.1 rfl (hb B.2.1 hd) rfl (by subst hp; exact q)
theorem own_i2c {x : Int32} (hp : pc + 1 = pc') (hd : decode M.b pc = .ok (.i2c, 1)) (k : own_WP K M Q pc' Ls (.int (x.toUInt32.toUInt16.toUInt32.toInt32) :: St) sf h cs sl) : own_WP K M Q pc Ls (.int x :: St) sf h cs sl :=
  own_step k fun p e s m args below meth c T locs cs' sl' B X eT t q => XS.i2c X.here B.1 rfl (hb B.2.1 hd) rfl (by subst hp; exact q)
theorem own_dup {x : Value} (hp : pc + 1 = pc') (hd : decode M.b pc = .ok (.dup, 1)) (hc : x.category = 1) (k : own_WP K M Q pc' Ls (x :: x :: St) sf h cs sl) : own_WP K M Q pc Ls (x :: St) sf h cs sl :=
  own_step k fun p e s m args below meth c T locs cs' sl' B X eT t q => XS.dup X.here B.1 rfl (hb B.2.1 hd) rfl hc (by subst hp; exact q)
theorem own_pop {x : Value} (hp : pc + 1 = pc') (hd : decode M.b pc = .ok (.pop, 1)) (hc : x.category = 1) (k : own_WP K M Q pc' Ls St sf h cs sl) : own_WP K M Q pc Ls (x :: St) sf h cs sl :=
  own_step k fun p e s m args below meth c T locs cs' sl' B X eT t q => XS.pop X.here B.1 rfl (hb B.2.1 hd) rfl hc (by subst hp; exact q)
theorem own_store {Ls : List Slot} {i : Nat} {v : Value} {o : Slot} (ho : One o) (hv : v.category = 1) (hold : Ls[i]? = some o) : storeLocals Ls.toArray i v = some (Ls.set i (.val v)).toArray := by
  rw [XS.store1 (own_get hold) ho hv]; simp
theorem own_istore_n1 {u0 o : Slot} {r : List Slot} {x : Int32} (hp : pc + 1 = pc') (hd : decode M.b pc = .ok (.istore_n 1, 1)) (ho : One o) (k : own_WP K M Q pc' (u0 :: .val (.int x) :: r) St sf h cs sl) : own_WP K M Q pc (u0 :: o :: r) (.int x :: St) sf h cs sl :=
  own_step k fun p e s m args below meth c T locs cs' sl' B X eT t q => XS.istoreN X.here B.1 rfl (hb B.2.1 hd) rfl (own_store (Ls := u0 :: o :: r) (i := 1) ho rfl rfl) (by subst hp; exact q)
theorem own_iinc_1 {u0 : Slot} {r : List Slot} {x : Int32} {cst : Int} {z : Int32} (hp : pc + 3 = pc') (hd : decode M.b pc = .ok (.iinc 1 cst, 3)) (hz : Int32.ofInt cst = z) (k : own_WP K M Q pc' (u0 :: .val (.int (x + z)) :: r) St sf h cs sl) : own_WP K M Q pc (u0 :: .val (.int x) :: r) St sf h cs sl :=
  own_step k fun p e s m args below meth c T locs cs' sl' B X eT t q => XS.iinc X.here B.1 rfl (hb B.2.1 hd) (x := x) (own_get (L := u0 :: .val (.int x) :: r) (k := 1) rfl) (own_store (Ls := u0 :: .val (.int x) :: r) (i := 1) (One.val rfl) rfl rfl) (by subst hp hz; exact q)
theorem own_istore_n2 {u0 u1 o : Slot} {r : List Slot} {x : Int32} (hp : pc + 1 = pc') (hd : decode M.b pc = .ok (.istore_n 2, 1)) (ho : One o) (k : own_WP K M Q pc' (u0 :: u1 :: .val (.int x) :: r) St sf h cs sl) : own_WP K M Q pc (u0 :: u1 :: o :: r) (.int x :: St) sf h cs sl :=
  own_step k fun p e s m args below meth c T locs cs' sl' B X eT t q => XS.istoreN X.here B.1 rfl (hb B.2.1 hd) rfl (own_store (Ls := u0 :: u1 :: o :: r) (i := 2) ho rfl rfl) (by subst hp; exact q)
theorem own_istore_n3 {u0 u1 u2 o : Slot} {r : List Slot} {x : Int32} (hp : pc + 1 = pc') (hd : decode M.b pc = .ok (.istore_n 3, 1)) (ho : One o) (k : own_WP K M Q pc' (u0 :: u1 :: u2 :: .val (.int x) :: r) St sf h cs sl) : own_WP K M Q pc (u0 :: u1 :: u2 :: o :: r) (.int x :: St) sf h cs sl :=
  own_step k fun p e s m args below meth c T locs cs' sl' B X eT t q => XS.istoreN X.here B.1 rfl (hb B.2.1 hd) rfl (own_store (Ls := u0 :: u1 :: u2 :: o :: r) (i := 3) ho rfl rfl) (by subst hp; exact q)
theorem own_astore_n3 {u0 u1 u2 o : Slot} {r : List Slot} {x : Value} (hp : pc + 1 = pc') (hd : decode M.b pc = .ok (.astore_n 3, 1)) (ho : One o) (hv : x.isRef = true) (k : own_WP K M Q pc' (u0 :: u1 :: u2 :: .val x :: r) St sf h cs sl) : own_WP K M Q pc (u0 :: u1 :: u2 :: o :: r) (x :: St) sf h cs sl :=
  own_step k fun p e s m args below meth c T locs cs' sl' B X eT t q => XS.astoreN X.here B.1 rfl (hb B.2.1 hd) rfl hv (own_store (Ls := u0 :: u1 :: u2 :: o :: r) (i := 3) ho (by rcases ref_cases hv with rfl | ⟨_, rfl⟩ <;> rfl) rfl) (by subst hp; exact q)
theorem own_iinc_3 {u0 u1 u2 : Slot} {r : List Slot} {x : Int32} {cst : Int} {z : Int32} (hp : pc + 3 = pc') (hd : decode M.b pc = .ok (.iinc 3 cst, 3)) (hz : Int32.ofInt cst = z) (k : own_WP K M Q pc' (u0 :: u1 :: u2 :: .val (.int (x + z)) :: r) St sf h cs sl) : own_WP K M Q pc (u0 :: u1 :: u2 :: .val (.int x) :: r) St sf h cs sl :=
  own_step k fun p e s m args below meth c T locs cs' sl' B X eT t q => XS.iinc X.here B.1 rfl (hb B.2.1 hd) (x := x) (own_get (L := u0 :: u1 :: u2 :: .val (.int x) :: r) (k := 3) rfl) (own_store (Ls := u0 :: u1 :: u2 :: .val (.int x) :: r) (i := 3) (One.val rfl) rfl rfl) (by subst hp hz; exact q)
theorem own_istore_4 {u0 u1 u2 u3 o : Slot} {r : List Slot} {x : Int32} (hp : pc + 2 = pc') (hd : decode M.b pc = .ok (.istore 4, 2)) (ho : One o) (k : own_WP K M Q pc' (u0 :: u1 :: u2 :: u3 :: .val (.int x) :: r) St sf h cs sl) : own_WP K M Q pc (u0 :: u1 :: u2 :: u3 :: o :: r) (.int x :: St) sf h cs sl :=
  own_step k fun p e s m args below meth c T locs cs' sl' B X eT t q => XS.istore X.here B.1 rfl (hb B.2.1 hd) rfl (own_store (Ls := u0 :: u1 :: u2 :: u3 :: o :: r) (i := 4) ho rfl rfl) (by subst hp; exact q)
theorem own_iinc_4 {u0 u1 u2 u3 : Slot} {r : List Slot} {x : Int32} {cst : Int} {z : Int32} (hp : pc + 3 = pc') (hd : decode M.b pc = .ok (.iinc 4 cst, 3)) (hz : Int32.ofInt cst = z) (k : own_WP K M Q pc' (u0 :: u1 :: u2 :: u3 :: .val (.int (x + z)) :: r) St sf h cs sl) : own_WP K M Q pc (u0 :: u1 :: u2 :: u3 :: .val (.int x) :: r) St sf h cs sl :=
  own_step k fun p e s m args below meth c T locs cs' sl' B X eT t q => XS.iinc X.here B.1 rfl (hb B.2.1 hd) (x := x) (own_get (L := u0 :: u1 :: u2 :: u3 :: .val (.int x) :: r) (k := 4) rfl) (own_store (Ls := u0 :: u1 :: u2 :: u3 :: .val (.int x) :: r) (i := 4) (One.val rfl) rfl rfl) (by subst hp hz; exact q)
theorem own_istore_5 {u0 u1 u2 u3 u4 o : Slot} {r : List Slot} {x : Int32} (hp : pc + 2 = pc') (hd : decode M.b pc = .ok (.istore 5, 2)) (ho : One o) (k : own_WP K M Q pc' (u0 :: u1 :: u2 :: u3 :: u4 :: .val (.int x) :: r) St sf h cs sl) : own_WP K M Q pc (u0 :: u1 :: u2 :: u3 :: u4 :: o :: r) (.int x :: St) sf h cs sl :=
  own_step k fun p e s m args below meth c T locs cs' sl' B X eT t q => XS.istore X.here B.1 rfl (hb B.2.1 hd) rfl (own_store (Ls := u0 :: u1 :: u2 :: u3 :: u4 :: o :: r) (i := 5) ho rfl rfl) (by subst hp; exact q)
theorem own_astore_5 {u0 u1 u2 u3 u4 o : Slot} {r : List Slot} {x : Value} (hp : pc + 2 = pc') (hd : decode M.b pc = .ok (.astore 5, 2)) (ho : One o) (hv : x.isRef = true) (k : own_WP K M Q pc' (u0 :: u1 :: u2 :: u3 :: u4 :: .val x :: r) St sf h cs sl) : own_WP K M Q pc (u0 :: u1 :: u2 :: u3 :: u4 :: o :: r) (x :: St) sf h cs sl :=
  own_step k fun p e s m args below meth c T locs cs' sl' B X eT t q => XS.astore X.here B.1 rfl (hb B.2.1 hd) rfl hv (own_store (Ls := u0 :: u1 :: u2 :: u3 :: u4 :: o :: r) (i := 5) ho (by rcases ref_cases hv with rfl | ⟨_, rfl⟩ <;> rfl) rfl) (by subst hp; exact q)
theorem own_iinc_5 {u0 u1 u2 u3 u4 : Slot} {r : List Slot} {x : Int32} {cst : Int} {z : Int32} (hp : pc + 3 = pc') (hd : decode M.b pc = .ok (.iinc 5 cst, 3)) (hz : Int32.ofInt cst = z) (k : own_WP K M Q pc' (u0 :: u1 :: u2 :: u3 :: u4 :: .val (.int (x + z)) :: r) St sf h cs sl) : own_WP K M Q pc (u0 :: u1 :: u2 :: u3 :: u4 :: .val (.int x) :: r) St sf h cs sl :=
  own_step k fun p e s m args below meth c T locs cs' sl' B X eT t q => XS.iinc X.here B.1 rfl (hb B.2.1 hd) (x := x) (own_get (L := u0 :: u1 :: u2 :: u3 :: u4 :: .val (.int x) :: r) (k := 5) rfl) (own_store (Ls := u0 :: u1 :: u2 :: u3 :: u4 :: .val (.int x) :: r) (i := 5) (One.val rfl) rfl rfl) (by subst hp hz; exact q)
theorem own_istore_6 {u0 u1 u2 u3 u4 u5 o : Slot} {r : List Slot} {x : Int32} (hp : pc + 2 = pc') (hd : decode M.b pc = .ok (.istore 6, 2)) (ho : One o) (k : own_WP K M Q pc' (u0 :: u1 :: u2 :: u3 :: u4 :: u5 :: .val (.int x) :: r) St sf h cs sl) : own_WP K M Q pc (u0 :: u1 :: u2 :: u3 :: u4 :: u5 :: o :: r) (.int x :: St) sf h cs sl :=
  own_step k fun p e s m args below meth c T locs cs' sl' B X eT t q => XS.istore X.here B.1 rfl (hb B.2.1 hd) rfl (own_store (Ls := u0 :: u1 :: u2 :: u3 :: u4 :: u5 :: o :: r) (i := 6) ho rfl rfl) (by subst hp; exact q)
theorem own_astore_6 {u0 u1 u2 u3 u4 u5 o : Slot} {r : List Slot} {x : Value} (hp : pc + 2 = pc') (hd : decode M.b pc = .ok (.astore 6, 2)) (ho : One o) (hv : x.isRef = true) (k : own_WP K M Q pc' (u0 :: u1 :: u2 :: u3 :: u4 :: u5 :: .val x :: r) St sf h cs sl) : own_WP K M Q pc (u0 :: u1 :: u2 :: u3 :: u4 :: u5 :: o :: r) (x :: St) sf h cs sl :=
  own_step k fun p e s m args below meth c T locs cs' sl' B X eT t q => XS.astore X.here B.1 rfl (hb B.2.1 hd) rfl hv (own_store (Ls := u0 :: u1 :: u2 :: u3 :: u4 :: u5 :: o :: r) (i := 6) ho (by rcases ref_cases hv with rfl | ⟨_, rfl⟩ <;> rfl) rfl) (by subst hp; exact q)
theorem own_astore_7 {u0 u1 u2 u3 u4 u5 u6 o : Slot} {r : List Slot} {x : Value} (hp : pc + 2 = pc') (hd : decode M.b pc = .ok (.astore 7, 2)) (ho : One o) (hv : x.isRef = true) (k : own_WP K M Q pc' (u0 :: u1 :: u2 :: u3 :: u4 :: u5 :: u6 :: .val x :: r) St sf h cs sl) : own_WP K M Q pc (u0 :: u1 :: u2 :: u3 :: u4 :: u5 :: u6 :: o :: r) (x :: St) sf h cs sl :=
  own_step k fun p e s m args below meth c T locs cs' sl' B X eT t q => XS.astore X.here B.1 rfl (hb B.2.1 hd) rfl hv (own_store (Ls := u0 :: u1 :: u2 :: u3 :: u4 :: u5 :: u6 :: o :: r) (i := 7) ho (by rcases ref_cases hv with rfl | ⟨_, rfl⟩ <;> rfl) rfl) (by subst hp; exact q)
theorem own_istore_8 {u0 u1 u2 u3 u4 u5 u6 u7 o : Slot} {r : List Slot} {x : Int32} (hp : pc + 2 = pc') (hd : decode M.b pc = .ok (.istore 8, 2)) (ho : One o) (k : own_WP K M Q pc' (u0 :: u1 :: u2 :: u3 :: u4 :: u5 :: u6 :: u7 :: .val (.int x) :: r) St sf h cs sl) : own_WP K M Q pc (u0 :: u1 :: u2 :: u3 :: u4 :: u5 :: u6 :: u7 :: o :: r) (.int x :: St) sf h cs sl :=
  own_step k fun p e s m args below meth c T locs cs' sl' B X eT t q => XS.istore X.here B.1 rfl (hb B.2.1 hd) rfl (own_store (Ls := u0 :: u1 :: u2 :: u3 :: u4 :: u5 :: u6 :: u7 :: o :: r) (i := 8) ho rfl rfl) (by subst hp; exact q)
theorem own_astore_9 {u0 u1 u2 u3 u4 u5 u6 u7 u8 o : Slot} {r : List Slot} {x : Value} (hp : pc + 2 = pc') (hd : decode M.b pc = .ok (.astore 9, 2)) (ho : One o) (hv : x.isRef = true) (k : own_WP K M Q pc' (u0 :: u1 :: u2 :: u3 :: u4 :: u5 :: u6 :: u7 :: u8 :: .val x :: r) St sf h cs sl) : own_WP K M Q pc (u0 :: u1 :: u2 :: u3 :: u4 :: u5 :: u6 :: u7 :: u8 :: o :: r) (x :: St) sf h cs sl :=
  own_step k fun p e s m args below meth c T locs cs' sl' B X eT t q => XS.astore X.here B.1 rfl (hb B.2.1 hd) rfl hv (own_store (Ls := u0 :: u1 :: u2 :: u3 :: u4 :: u5 :: u6 :: u7 :: u8 :: o :: r) (i := 9) ho (by rcases ref_cases hv with rfl | ⟨_, rfl⟩ <;> rfl) rfl) (by subst hp; exact q)
theorem own_istore_10 {u0 u1 u2 u3 u4 u5 u6 u7 u8 u9 o : Slot} {r : List Slot} {x : Int32} (hp : pc + 2 = pc') (hd : decode M.b pc = .ok (.istore 10, 2)) (ho : One o) (k : own_WP K M Q pc' (u0 :: u1 :: u2 :: u3 :: u4 :: u5 :: u6 :: u7 :: u8 :: u9 :: .val (.int x) :: r) St sf h cs sl) : own_WP K M Q pc (u0 :: u1 :: u2 :: u3 :: u4 :: u5 :: u6 :: u7 :: u8 :: u9 :: o :: r) (.int x :: St) sf h cs sl :=
  own_step k fun p e s m args below meth c T locs cs' sl' B X eT t q => XS.istore X.here B.1 rfl (hb B.2.1 hd) rfl (own_store (Ls := u0 :: u1 :: u2 :: u3 :: u4 :: u5 :: u6 :: u7 :: u8 :: u9 :: o :: r) (i := 10) ho rfl rfl) (by subst hp; exact q)
theorem own_astore_11 {u0 u1 u2 u3 u4 u5 u6 u7 u8 u9 u10 o : Slot} {r : List Slot} {x : Value} (hp : pc + 2 = pc') (hd : decode M.b pc = .ok (.astore 11, 2)) (ho : One o) (hv : x.isRef = true) (k : own_WP K M Q pc' (u0 :: u1 :: u2 :: u3 :: u4 :: u5 :: u6 :: u7 :: u8 :: u9 :: u10 :: .val x :: r) St sf h cs sl) : own_WP K M Q pc (u0 :: u1 :: u2 :: u3 :: u4 :: u5 :: u6 :: u7 :: u8 :: u9 :: u10 :: o :: r) (x :: St) sf h cs sl :=
  own_step k fun p e s m args below meth c T locs cs' sl' B X eT t q => XS.astore X.here B.1 rfl (hb B.2.1 hd) rfl hv (own_store (Ls := u0 :: u1 :: u2 :: u3 :: u4 :: u5 :: u6 :: u7 :: u8 :: u9 :: u10 :: o :: r) (i := 11) ho (by rcases ref_cases hv with rfl | ⟨_, rfl⟩ <;> rfl) rfl) (by subst hp; exact q)
theorem own_istore_12 {u0 u1 u2 u3 u4 u5 u6 u7 u8 u9 u10 u11 o : Slot} {r : List Slot} {x : Int32} (hp : pc + 2 = pc') (hd : decode M.b pc = .ok (.istore 12, 2)) (ho : One o) (k : own_WP K M Q pc' (u0 :: u1 :: u2 :: u3 :: u4 :: u5 :: u6 :: u7 :: u8 :: u9 :: u10 :: u11 :: .val (.int x) :: r) St sf h cs sl) : own_WP K M Q pc (u0 :: u1 :: u2 :: u3 :: u4 :: u5 :: u6 :: u7 :: u8 :: u9 :: u10 :: u11 :: o :: r) (.int x :: St) sf h cs sl :=
  own_step k fun p e s m args below meth c T locs cs' sl' B X eT t q => XS.istore X.here B.1 rfl (hb B.2.1 hd) rfl (own_store (Ls := u0 :: u1 :: u2 :: u3 :: u4 :: u5 :: u6 :: u7 :: u8 :: u9 :: u10 :: u11 :: o :: r) (i := 12) ho rfl rfl) (by subst hp; exact q)
theorem own_goto {o : Int} (hd : decode M.b pc = .ok (.goto o, 3)) (ho : 0 ≤ (pc : Int) + o) (hp : ((pc : Int) + o).toNat = pc') (k : own_WP K M Q pc' Ls St sf h cs sl) : own_WP K M Q pc Ls St sf h cs sl :=
  own_step k fun p e s m args below meth c T locs cs' sl' B X eT t q => XS.goto X.here B.1 rfl (pc0 := pc) rfl (hb B.2.1 hd) ho hp q
theorem own_if {cd : ClassFile.Cond} {o : Int} {x : Int32} {pcT pcF : Nat} (hd : decode M.b pc = .ok (.ifCond cd o, 3)) (ho : 0 ≤ (pc : Int) + o) (hp : ((pc : Int) + o).toNat = pcT) (hp' : pc + 3 = pcF)
    (kT : ifCond.holds cd x = true → own_WP K M Q pcT Ls St sf h cs sl) (kF : ifCond.holds cd x = false → own_WP K M Q pcF Ls St sf h cs sl) : own_WP K M Q pc Ls (.int x :: St) sf h cs sl := by
  cases hc : ifCond.holds cd x
  · exact own_step (kF hc) fun p e s m args below meth c T locs cs' sl' B X eT t q => XS.ifNo X.here B.1 rfl (hb B.2.1 hd) rfl hc (by subst hp'; exact q)
  · exact own_step (kT hc) fun p e s m args below meth c T locs cs' sl' B X eT t q => XS.ifYes X.here B.1 rfl (pc0 := pc) rfl (hb B.2.1 hd) rfl hc ho hp q
theorem own_icmp {cd : ClassFile.Cond} {o : Int} {x y : Int32} {pcT pcF : Nat} (hd : decode M.b pc = .ok (.if_icmp cd o, 3)) (ho : 0 ≤ (pc : Int) + o) (hp : ((pc : Int) + o).toNat = pcT) (hp' : pc + 3 = pcF)
    (kT : if_icmp.holds cd x y = true → own_WP K M Q pcT Ls St sf h cs sl) (kF : if_icmp.holds cd x y = false → own_WP K M Q pcF Ls St sf h cs sl) : own_WP K M Q pc Ls (.int y :: .int x :: St) sf h cs sl := by
  cases hc : if_icmp.holds cd x y
  · exact own_step (kF hc) fun p e s m args below meth c T locs cs' sl' B X eT t q => XS.icmpNo X.here B.1 rfl (hb B.2.1 hd) rfl hc (by subst hp'; exact q)
  · exact own_step (kT hc) fun p e s m args below meth c T locs cs' sl' B X eT t q => XS.icmpYes X.here B.1 rfl (pc0 := pc) rfl (hb B.2.1 hd) rfl hc ho hp q
theorem own_ifeq {o : Int} {x : Int32} {pcT pcF : Nat} (hd : decode M.b pc = .ok (.ifCond .eq o, 3)) (ho : 0 ≤ (pc : Int) + o) (hp : ((pc : Int) + o).toNat = pcT) (hp' : pc + 3 = pcF) (kT : x = 0 → own_WP K M Q pcT Ls St sf h cs sl) (kF : ¬ x = 0 → own_WP K M Q pcF Ls St sf h cs sl) : own_WP K M Q pc Ls (.int x :: St) sf h cs sl := by
  refine own_if hd ho hp hp' (fun c => ?_) (fun c => ?_)
  · rw [if0] at c; by_cases q : x = 0
    · exact kT q
    · have z := (feq q).1; rw [z] at c; cases c
  · rw [if0] at c; by_cases q : x = 0
    · have z := (teq q).1; rw [z] at c; cases c
    · exact kF q
theorem own_icmpeq {o : Int} {x y : Int32} {pcT pcF : Nat} (hd : decode M.b pc = .ok (.if_icmp .eq o, 3)) (ho : 0 ≤ (pc : Int) + o) (hp : ((pc : Int) + o).toNat = pcT) (hp' : pc + 3 = pcF) (kT : x = y → own_WP K M Q pcT Ls St sf h cs sl) (kF : ¬ x = y → own_WP K M Q pcF Ls St sf h cs sl) : own_WP K M Q pc Ls (.int y :: .int x :: St) sf h cs sl := by
  refine own_icmp hd ho hp hp' (fun c => ?_) (fun c => ?_)
  · by_cases q : x = y
    · exact kT q
    · have z := (feq q).1; rw [z] at c; cases c
  · by_cases q : x = y
    · have z := (teq q).1; rw [z] at c; cases c
    · exact kF q
theorem own_ifne {o : Int} {x : Int32} {pcT pcF : Nat} (hd : decode M.b pc = .ok (.ifCond .ne o, 3)) (ho : 0 ≤ (pc : Int) + o) (hp : ((pc : Int) + o).toNat = pcT) (hp' : pc + 3 = pcF) (kT : ¬ x = 0 → own_WP K M Q pcT Ls St sf h cs sl) (kF : x = 0 → own_WP K M Q pcF Ls St sf h cs sl) : own_WP K M Q pc Ls (.int x :: St) sf h cs sl := by
  refine own_if hd ho hp hp' (fun c => ?_) (fun c => ?_)
  · rw [if0] at c; by_cases q : x = 0
    · have z := (teq q).2; rw [z] at c; cases c
    · exact kT q
  · rw [if0] at c; by_cases q : x = 0
    · exact kF q
    · have z := (feq q).2; rw [z] at c; cases c
theorem own_icmpne {o : Int} {x y : Int32} {pcT pcF : Nat} (hd : decode M.b pc = .ok (.if_icmp .ne o, 3)) (ho : 0 ≤ (pc : Int) + o) (hp : ((pc : Int) + o).toNat = pcT) (hp' : pc + 3 = pcF) (kT : ¬ x = y → own_WP K M Q pcT Ls St sf h cs sl) (kF : x = y → own_WP K M Q pcF Ls St sf h cs sl) : own_WP K M Q pc Ls (.int y :: .int x :: St) sf h cs sl := by
  refine own_icmp hd ho hp hp' (fun c => ?_) (fun c => ?_)
  · by_cases q : x = y
    · have z := (teq q).2; rw [z] at c; cases c
    · exact kT q
  · by_cases q : x = y
    · exact kF q
    · have z := (feq q).2; rw [z] at c; cases c
theorem own_iflt {o : Int} {x : Int32} {pcT pcF : Nat} (hd : decode M.b pc = .ok (.ifCond .lt o, 3)) (ho : 0 ≤ (pc : Int) + o) (hp : ((pc : Int) + o).toNat = pcT) (hp' : pc + 3 = pcF) (kT : x < 0 → own_WP K M Q pcT Ls St sf h cs sl) (kF : ¬ x < 0 → own_WP K M Q pcF Ls St sf h cs sl) : own_WP K M Q pc Ls (.int x :: St) sf h cs sl := by
  refine own_if hd ho hp hp' (fun c => ?_) (fun c => ?_)
  · rw [if0] at c; by_cases q : x < 0
    · exact kT q
    · have z := (flt q).1; rw [z] at c; cases c
  · rw [if0] at c; by_cases q : x < 0
    · have z := (tlt q).1; rw [z] at c; cases c
    · exact kF q
theorem own_icmplt {o : Int} {x y : Int32} {pcT pcF : Nat} (hd : decode M.b pc = .ok (.if_icmp .lt o, 3)) (ho : 0 ≤ (pc : Int) + o) (hp : ((pc : Int) + o).toNat = pcT) (hp' : pc + 3 = pcF) (kT : x < y → own_WP K M Q pcT Ls St sf h cs sl) (kF : ¬ x < y → own_WP K M Q pcF Ls St sf h cs sl) : own_WP K M Q pc Ls (.int y :: .int x :: St) sf h cs sl := by
  refine own_icmp hd ho hp hp' (fun c => ?_) (fun c => ?_)
  · by_cases q : x < y
    · exact kT q
    · have z := (flt q).1; rw [z] at c; cases c
  · by_cases q : x < y
    · have z := (tlt q).1; rw [z] at c; cases c
    · exact kF q
theorem own_ifge {o : Int} {x : Int32} {pcT pcF : Nat} (hd : decode M.b pc = .ok (.ifCond .ge o, 3)) (ho : 0 ≤ (pc : Int) + o) (hp : ((pc : Int) + o).toNat = pcT) (hp' : pc + 3 = pcF) (kT : ¬ x < 0 → own_WP K M Q pcT Ls St sf h cs sl) (kF : x < 0 → own_WP K M Q pcF Ls St sf h cs sl) : own_WP K M Q pc Ls (.int x :: St) sf h cs sl := by
  refine own_if hd ho hp hp' (fun c => ?_) (fun c => ?_)
  · rw [if0] at c; by_cases q : x < 0
    · have z := (tlt q).2.1; rw [z] at c; cases c
    · exact kT q
  · rw [if0] at c; by_cases q : x < 0
    · exact kF q
    · have z := (flt q).2.1; rw [z] at c; cases c
theorem own_icmpge {o : Int} {x y : Int32} {pcT pcF : Nat} (hd : decode M.b pc = .ok (.if_icmp .ge o, 3)) (ho : 0 ≤ (pc : Int) + o) (hp : ((pc : Int) + o).toNat = pcT) (hp' : pc + 3 = pcF) (kT : ¬ x < y → own_WP K M Q pcT Ls St sf h cs sl) (kF : x < y → own_WP K M Q pcF Ls St sf h cs sl) : own_WP K M Q pc Ls (.int y :: .int x :: St) sf h cs sl := by
  refine own_icmp hd ho hp hp' (fun c => ?_) (fun c => ?_)
  · by_cases q : x < y
    · have z := (tlt q).2.1; rw [z] at c; cases c
    · exact kT q
  · by_cases q : x < y
    · exact kF q
    · have z := (flt q).2.1; rw [z] at c; cases c
theorem own_icmpgt {o : Int} {x y : Int32} {pcT pcF : Nat} (hd : decode M.b pc = .ok (.if_icmp .gt o, 3)) (ho : 0 ≤ (pc : Int) + o) (hp : ((pc : Int) + o).toNat = pcT) (hp' : pc + 3 = pcF) (kT : y < x → own_WP K M Q pcT Ls St sf h cs sl) (kF : ¬ y < x → own_WP K M Q pcF Ls St sf h cs sl) : own_WP K M Q pc Ls (.int y :: .int x :: St) sf h cs sl := by
  refine own_icmp hd ho hp hp' (fun c => ?_) (fun c => ?_)
  · by_cases q : y < x
    · exact kT q
    · have z := (flt q).2.2.1; rw [z] at c; cases c
  · by_cases q : y < x
    · have z := (tlt q).2.2.1; rw [z] at c; cases c
    · exact kF q
theorem own_ifle {o : Int} {x : Int32} {pcT pcF : Nat} (hd : decode M.b pc = .ok (.ifCond .le o, 3)) (ho : 0 ≤ (pc : Int) + o) (hp : ((pc : Int) + o).toNat = pcT) (hp' : pc + 3 = pcF) (kT : ¬ 0 < x → own_WP K M Q pcT Ls St sf h cs sl) (kF : 0 < x → own_WP K M Q pcF Ls St sf h cs sl) : own_WP K M Q pc Ls (.int x :: St) sf h cs sl := by
  refine own_if hd ho hp hp' (fun c => ?_) (fun c => ?_)
  · rw [if0] at c; by_cases q : 0 < x
    · have z := (tlt q).2.2.2; rw [z] at c; cases c
    · exact kT q
  · rw [if0] at c; by_cases q : 0 < x
    · exact kF q
    · have z := (flt q).2.2.2; rw [z] at c; cases c
theorem own_icmple {o : Int} {x y : Int32} {pcT pcF : Nat} (hd : decode M.b pc = .ok (.if_icmp .le o, 3)) (ho : 0 ≤ (pc : Int) + o) (hp : ((pc : Int) + o).toNat = pcT) (hp' : pc + 3 = pcF) (kT : ¬ y < x → own_WP K M Q pcT Ls St sf h cs sl) (kF : y < x → own_WP K M Q pcF Ls St sf h cs sl) : own_WP K M Q pc Ls (.int y :: .int x :: St) sf h cs sl := by
  refine own_icmp hd ho hp hp' (fun c => ?_) (fun c => ?_)
  · by_cases q : y < x
    · have z := (tlt q).2.2.2; rw [z] at c; cases c
    · exact kT q
  · by_cases q : y < x
    · exact kF q
    · have z := (flt q).2.2.2; rw [z] at c; cases c
theorem own_ifnonnull_y {o : Int} {b : Addr} (hd : decode M.b pc = .ok (.ifnonnull o, 3)) (ho : 0 ≤ (pc : Int) + o) (hp : ((pc : Int) + o).toNat = pc') (k : own_WP K M Q pc' Ls St sf h cs sl) : own_WP K M Q pc Ls (.ref b :: St) sf h cs sl :=
  own_step k fun p e s m args below meth c T locs cs' sl' B X eT t q => XS.ifnonnullYes X.here B.1 rfl (pc0 := pc) rfl (hb B.2.1 hd) rfl ho hp q
theorem own_ifnonnull_n {o : Int} (hp : pc + 3 = pc') (hd : decode M.b pc = .ok (.ifnonnull o, 3)) (k : own_WP K M Q pc' Ls St sf h cs sl) : own_WP K M Q pc Ls (.null :: St) sf h cs sl :=
  own_step k fun p e s m args below meth c T locs cs' sl' B X eT t q => XS.ifnonnullNo X.here B.1 rfl (hb B.2.1 hd) rfl (by subst hp; exact q)
/-- returns -/
theorem own_return {qn : Heap → List Addr → Prop} (hr : M.ret = none) (hd : decode M.b pc = .ok (.return_, 1)) (hc : Nat.ble cs M.R.cells = true) (hs : Nat.ble sl M.R.slots = true) (q : qn h sf) : own_WP K M (own_void qn) pc Ls [] sf h cs sl :=
  own_leave (v := none) (fun _ => rfl) (Nat.le_of_ble_eq_true hc) (Nat.le_of_ble_eq_true hs) ⟨rfl, q⟩ fun p e s m args below meth c T locs cs' sl' B X fs hl => X.returnOut B.1 (by rw [B.2.2.2.2.2.1, hr]) (hb B.2.1 hd) hl
theorem own_ireturn {qv : Value → Heap → List Addr → Prop} {z : Int32} (hr : M.ret = some .int) (hd : decode M.b pc = .ok (.ireturn, 1)) (hc : Nat.ble cs M.R.cells = true) (hs : Nat.ble sl M.R.slots = true) (q : qv (.int z) h sf) : own_WP K M (own_ret qv) pc Ls (.int z :: St) sf h cs sl :=
  own_leave (v := some (.int z)) (fun n => by rw [hr] at n; cases n) (Nat.le_of_ble_eq_true hc) (Nat.le_of_ble_eq_true hs) ⟨_, rfl, q⟩ fun p e s m args below meth c T locs cs' sl' B X fs hl => retOut X B.1 (t := .int) (by rw [B.2.2.2.2.2.1, hr]) rfl (Or.inl ⟨rfl, Or.inl rfl, z, rfl⟩) (hb B.2.1 hd) hl
theorem own_ireturnN {qv : Value → Heap → List Addr → Prop} {t : FieldType} {z z' : Int32} (hr : M.ret = some t) (ht : t = .boolean ∨ t = .byte ∨ t = .char ∨ t = .short) (hz : nar t z = z') (hd : decode M.b pc = .ok (.ireturn, 1)) (hc : Nat.ble cs M.R.cells = true) (hs : Nat.ble sl M.R.slots = true) (q : qv (.int z') h sf) : own_WP K M (own_ret qv) pc Ls (.int z :: St) sf h cs sl :=
  own_leave (v := some (.int z')) (fun n => by rw [hr] at n; cases n) (Nat.le_of_ble_eq_true hc) (Nat.le_of_ble_eq_true hs) ⟨_, rfl, q⟩ fun p e s m args below meth c T locs cs' sl' B X fs hl => retN X B.1 (t := t) (by rw [B.2.2.2.2.2.1, hr]) ht (hb B.2.1 hd) (by rw [hz]; exact hl)
theorem own_areturn {qv : Value → Heap → List Addr → Prop} {t : FieldType} {v : Value} (hr : M.ret = some t) (ht : t.isReference = true) (hv : v.isRef = true) (hd : decode M.b pc = .ok (.areturn, 1)) (hc : Nat.ble cs M.R.cells = true) (hs : Nat.ble sl M.R.slots = true) (q : qv v h sf) : own_WP K M (own_ret qv) pc Ls (v :: St) sf h cs sl :=
  own_leave (v := some v) (fun n => by rw [hr] at n; cases n) (Nat.le_of_ble_eq_true hc) (Nat.le_of_ble_eq_true hs) ⟨_, rfl, q⟩ fun p e s m args below meth c T locs cs' sl' B X fs hl => retOut X B.1 (t := t) (by rw [B.2.2.2.2.2.1, hr]) (by cases t <;> first | (cases ht; done) | (rcases ref_cases hv with rfl | ⟨_, rfl⟩ <;> rfl)) (Or.inr (Or.inr (Or.inr (Or.inr ⟨rfl, ht, hv⟩)))) (hb B.2.1 hd) hl
/-- constants of the pool, fields, statics, new objects and arrays -/
theorem own_ldcI {index : Nat} {v : Int32} (hp : pc + 2 = pc') (hd : decode M.b pc = .ok (.ldc index, 2)) (w : (Jvm.Cond.constant M.y.cls index v).before a0 K.Z = true) (k : own_WP K M Q pc' Ls (.int v :: St) sf h cs sl) : own_WP K M Q pc Ls St sf h cs sl :=
  own_step k fun p e s m args below meth c T locs cs' sl' B X eT t q => X.ldcInt B.1 B.2.2.2.1 (mv B.2.2.2.2.2.2.2.1 w) (g := mkF m pc Ls.toArray St) rfl (hb B.2.1 hd) t (by subst hp; exact q)
theorem own_getF {index : Nat} {R0 O n d : String} {a : Addr} {v : Value} (hp : pc + 3 = pc') (hd : decode M.b pc = .ok (.getfield index, 3)) (w : (Jvm.Cond.fieldLink M.y.cls index R0 n d).before a0 K.Z = true) (via : Via K.Z R0 O n d) (F : Fld K.Z h a O n d v) (k : own_WP K M Q pc' Ls (v :: St) sf h cs sl) : own_WP K M Q pc Ls (.ref a :: St) sf h cs sl := by
  subst hp
  exact own_move k fun p e s m args below meth c T locs cs' sl' B X eT hE => getF X B.1 B.2.2.2.2.2.2.2.1 (host := "") B.2.2.2.1 (Or.inl w) via eT F (g := mkF m pc Ls.toArray (.ref a :: St)) rfl rfl (hb B.2.1 hd)
theorem own_getS {index : Nat} {R0 O n d : String} {v : Value} (hp : pc + 3 = pc') (hd : decode M.b pc = .ok (.getstatic index, 3)) (w : (Jvm.Cond.fieldLink M.y.cls index R0 n d).before a0 K.Z = true) (via : Via K.Z R0 O n d) (F : Sta K.Z K.Z.heap O n d v) (k : own_WP K M Q pc' Ls (v :: St) sf h cs sl) : own_WP K M Q pc Ls St sf h cs sl := by
  subst hp
  exact own_move k fun p e s m args below meth c T locs cs' sl' B X eT hE => getS X B.1 B.2.2.2.2.2.2.2.1 (host := "") B.2.2.2.1 w via eT (F.ext hE) (g := mkF m pc Ls.toArray St) rfl (hb B.2.1 hd)
theorem own_new {index n : Nat} {C : String} (hp : pc + 3 = pc') (hd : decode M.b pc = .ok (.new index, 3)) (w : (Jvm.Cond.classLink M.y.cls index C).before a0 K.Z = true) (wi : (Jvm.Cond.instantiable C n).before a0 K.Z = true) (wz : (Jvm.Cond.initialized C).before a0 K.Z = true) (hc : Nat.ble (cs + 1) M.R.cells = true) (hs : Nat.ble (sl + n) M.R.slots = true)
    (k : ∀ (a : Addr) (h' : Heap), @Eq Nat a h.size → Ext h h' → Exa K.Z h' a C → (∀ {O nm d : String} {ty : FieldType}, Laid K.Z a0 C O nm d → parseFieldDescriptor d = some ty → Fld K.Z h' a O nm d (defaultValue ty)) → own_WP K M Q pc' Ls (.ref a :: St) (a :: sf) h' (cs + 1) (sl + n)) : own_WP K M Q pc Ls St sf h cs sl := by
  subst hp
  refine own_grow (P := fun h' => Exa K.Z h' h.size C ∧ (∀ {O nm d : String} {ty : FieldType}, Laid K.Z a0 C O nm d → parseFieldDescriptor d = some ty → Fld K.Z h' h.size O nm d (defaultValue ty))) (Nat.le_of_ble_eq_true hc) (Nat.le_of_ble_eq_true hs) (fun h' E P => k _ h' rfl E P.1 P.2) ?_
  intro p e s m args below meth c T locs cs' sl' B X hc' hs' eT
  obtain ⟨T', h', X', e', E, A, D, -, st⟩ := newO X B.1 B.2.2.2.2.2.2.2.1 B.2.2.2.1 w wi wz eT (g := mkF m pc Ls.toArray St) rfl (hb B.2.1 hd) hc' hs'
  exact ⟨T', h', X', e', E, A.lt, ⟨A, D⟩, st⟩
theorem own_putF {index kk : Nat} {R0 O n d C : String} {ty : FieldType} {a : Addr} {v v' old : Value} (hp : pc + 3 = pc') (hd : decode M.b pc = .ok (.putfield index, 3)) (w : (Jvm.Cond.fieldLink M.y.cls index R0 n d).before a0 K.Z = true) (via : Via K.Z R0 O n d)
    (L : (Jvm.Cond.lays C O n d).before a0 K.Z = true ∨ ((Jvm.Cond.laysFinal C O n d).before a0 K.Z = true ∧ M.y.cls = O ∧ M.y.name = "<init>")) (wi : (Jvm.Cond.instantiable C kk).before a0 K.Z = true) (hty : parseFieldDescriptor d = some ty) (hn : narrow ty v = v') (hf : fits ty v' = true) (F : Fld K.Z h a O n d old) (E : Exa K.Z h a C) (ha : a ∈ sf)
    (k : ∀ h', Wr h h' a (RoadKit.slotOf K.Z O n d) v' → own_WP K M Q pc' Ls St sf h' cs sl) : own_WP K M Q pc Ls (v :: .ref a :: St) sf h cs sl := by
  subst hp
  exact own_write ha k fun p e s m args below meth c T locs cs' sl' B X eT => putFN X B.1 B.2.2.2.2.2.2.2.1 B.2.2.2.1 w via eT F E (L.imp id fun q => ⟨q.1, q.2.1, by rw [B.2.2.2.2.1]; exact q.2.2⟩) wi hty hn hf (g := mkF m pc Ls.toArray (v :: .ref a :: St)) rfl rfl (hb B.2.1 hd)
theorem own_initO {index : Nat} {a : Addr} (hp : pc + 3 = pc') (hd : decode M.b pc = .ok (.invokespecial index, 3)) (w1 : (Jvm.Cond.methodLink M.y.cls index Lib.objectInit).before a0 K.Z = true) (w2 : (Jvm.Cond.instanceMethod Lib.objectInit).before a0 K.Z = true) (w3 : (Jvm.Cond.code Lib.objectInit ⟨#[0xb1]⟩ 1 none).before a0 K.Z = true) (hsz : Ls.length = M.mx) (hf : Nat.ble 1 M.R.frames = true) (hl : Nat.ble ((St.map fun v => v.category).sum + 12) M.R.locals = true)
    (k : own_WP K M Q pc' Ls St sf h cs sl) : own_WP K M Q pc Ls (.ref a :: St) sf h cs sl := by
  subst hp
  exact own_move k fun p e s m args below meth c T locs cs' sl' B X eT hE => initO X B.1 B.2.2.2.2.2.2.2.1 B.2.2.2.1 w1 w2 w3 eT (g := mkF m pc Ls.toArray (.ref a :: St)) rfl (by rw [B.2.2.1, ← hsz]; simp) rfl (hb B.2.1 hd) (Nat.le_of_ble_eq_true hf) (W := (St.map fun v => v.category).sum) (by show 2 * 0 + _ ≤ _; omega) (Nat.le_of_ble_eq_true hl)
end Plain
section Arrays
/-- the array at a holds just vs -/
def own_Ary (Z : State) (h : Heap) (a : Addr) (ty : FieldType) (vs : List Value) : Prop := ∃ c : Cell, Arr Z h a c ty ∧ c.slots = vs.toArray ∧ vs.length < 2 ^ 31
variable {K : own_Cx} {M : own_Mi} {Q : own_Q} {pc pc' : Nat} {Ls : List Slot} {St : List Value} {sf : List Addr} {h h' : Heap} {cs sl : Nat} {a0 : Array Value} {Z : State} {a b : Addr} {ty : FieldType} {vs : List Value}
theorem own_Ary.ext (F : own_Ary Z h a ty vs) (E : Ext h h') : own_Ary Z h' a ty vs := by obtain ⟨c, A, r⟩ := F; exact ⟨c, A.ext E, r⟩
theorem own_Ary.lt (F : own_Ary Z h a ty vs) : a < h.size := by obtain ⟨c, A, r⟩ := F; exact A.lt
theorem own_Ary.keep {ws : List Addr} (F : own_Ary Z h a ty vs) (k : Keep h h' ws) (q : a ∉ ws) : own_Ary Z h' a ty vs := by obtain ⟨c, A, r⟩ := F; exact ⟨c, ⟨k.2.1 a c A.1 q, A.2⟩, r⟩
theorem own_Ary.other {i : Nat} {v : Value} (F : own_Ary Z h b ty vs) (W : Wr h h' a i v) (q : b ≠ a) : own_Ary Z h' b ty vs := by obtain ⟨c, A, r⟩ := F; exact ⟨c, A.other W q, r⟩
theorem own_Ary.same {i : Nat} {v : Value} (F : own_Ary Z h a ty vs) (W : Wr h h' a i v) : own_Ary Z h' a ty (vs.set i v) := by
  obtain ⟨c, A, r1, r2⟩ := F
  refine ⟨c.setSlot i v, A.same W, ?_, by simpa using r2⟩
  simp [Cell.setSlot, r1]
theorem own_idx {j : Int32} {i n : Nat} (hj : j.toInt = i) (hi : i < n) : ¬ (j < 0 ∨ n ≤ j.toNatClampNeg) ∧ j.toNatClampNeg = i := by
  have q : j.toNatClampNeg = i := by
    have : j.toNatClampNeg = j.toInt.toNat := rfl
    rw [this, hj]; rfl
  refine ⟨fun z => ?_, q⟩
  rcases z with z | z
  · rw [Int32.lt_iff_toInt_lt, hj] at z
    have : (0 : Int32).toInt = 0 := rfl
    omega
  · omega
theorem own_len {n : Nat} (q : n < 2 ^ 31) : (n.toInt32).toInt = n := Int32.toInt_ofNat_small q
theorem own_arrlen {z : Int32} (hp : pc + 1 = pc') (hd : decode M.b pc = .ok (.arraylength, 1)) (F : own_Ary K.Z h a ty vs) (hz : z.toInt = vs.length) (k : own_WP K M Q pc' Ls (.int z :: St) sf h cs sl) : own_WP K M Q pc Ls (.ref a :: St) sf h cs sl := by
  obtain ⟨cl, A, r1, r2⟩ := F
  have e1 : cl.slots.size.toInt32 = z := by
    apply Int32.toInt_inj.mp
    rw [hz, r1]; simpa using own_len r2
  exact own_step k fun p e s m args below meth c T locs cs' sl' B X eT t q => X.arraylength B.1 (by rw [eT]; exact A.1) (State.isArrayOf_alike B.2.2.2.2.2.2.2.1.alike A.2.1) (g := mkF m pc Ls.toArray (.ref a :: St)) rfl rfl (hb B.2.1 hd) t (by subst hp; rw [e1]; exact q)
theorem own_caload {i : Nat} {j : Int32} {v : Value} (hp : pc + 1 = pc') (hd : decode M.b pc = .ok (.caload, 1)) (F : own_Ary K.Z h a .char vs) (hj : j.toInt = i) (hv : vs[i]? = some v) (k : own_WP K M Q pc' Ls (v :: St) sf h cs sl) : own_WP K M Q pc Ls (.int j :: .ref a :: St) sf h cs sl := by
  obtain ⟨cl, A, r1, r2⟩ := F
  have hi : i < vs.length := (List.getElem?_eq_some_iff.mp hv).1
  have hsz : cl.slots.size = vs.length := by rw [r1]; simp
  obtain ⟨q1, q2⟩ := own_idx (n := cl.slots.size) hj (by rw [hsz]; exact hi)
  exact own_step k fun p e s m args below meth c T locs cs' sl' B X eT t q => X.caload B.1 (j := j) (v := v) (by rw [eT]; exact A.1) (State.isArrayOf_alike B.2.2.2.2.2.2.2.1.alike A.2.1) A.2.2 q1 (by rw [q2, r1]; simpa using hv) (g := mkF m pc Ls.toArray (.int j :: .ref a :: St)) rfl rfl (hb B.2.1 hd) t (by subst hp; exact q)
theorem own_baload {i : Nat} {j : Int32} {v : Value} (hp : pc + 1 = pc') (hd : decode M.b pc = .ok (.baload, 1)) (F : own_Ary K.Z h a .byte vs) (hj : j.toInt = i) (hv : vs[i]? = some v) (k : own_WP K M Q pc' Ls (v :: St) sf h cs sl) : own_WP K M Q pc Ls (.int j :: .ref a :: St) sf h cs sl := by
  obtain ⟨cl, A, r1, r2⟩ := F
  have hi : i < vs.length := (List.getElem?_eq_some_iff.mp hv).1
  have hsz : cl.slots.size = vs.length := by rw [r1]; simp
  obtain ⟨q1, q2⟩ := own_idx (n := cl.slots.size) hj (by rw [hsz]; exact hi)
  exact own_step k fun p e s m args below meth c T locs cs' sl' B X eT t q => X.baloadBytes B.1 (j := j) (v := v) (by rw [eT]; exact A.1) (State.isArrayOf_alike B.2.2.2.2.2.2.2.1.alike A.2.1) A.2.2 q1 (by rw [q2, r1]; simpa using hv) (g := mkF m pc Ls.toArray (.int j :: .ref a :: St)) rfl rfl (hb B.2.1 hd) t (by subst hp; exact q)
theorem own_castore {i : Nat} {j x x' : Int32} (hp : pc + 1 = pc') (hd : decode M.b pc = .ok (.castore, 1)) (F : own_Ary K.Z h a .char vs) (hj : j.toInt = i) (hi : i < vs.length) (hx : nar .char x = x') (ha : a ∈ sf) (k : ∀ h', Keep h h' [a] → own_Ary K.Z h' a .char (vs.set i (.int x')) → own_WP K M Q pc' Ls St sf h' cs sl) : own_WP K M Q pc Ls (.int x :: .int j :: .ref a :: St) sf h cs sl := by
  subst hp hx
  have F' := F
  obtain ⟨cl, A, r1, r2⟩ := F
  have hsz : cl.slots.size = vs.length := by rw [r1]; simp
  obtain ⟨q1, q2⟩ := own_idx (n := cl.slots.size) hj (by rw [hsz]; exact hi)
  refine own_write ha (i := j.toNatClampNeg) (fun h' W => k h' (Keep.of_wr W) (by rw [← q2]; exact F'.same W)) ?_
  exact fun p e s m args below meth c T locs cs' sl' B X eT => stC X B.1 B.2.2.2.2.2.2.2.1 eT A (j := j) q1 (g := mkF m pc Ls.toArray (.int x :: .int j :: .ref a :: St)) rfl rfl (hb B.2.1 hd)
theorem own_bastore {i : Nat} {j x x' : Int32} (hp : pc + 1 = pc') (hd : decode M.b pc = .ok (.bastore, 1)) (F : own_Ary K.Z h a .byte vs) (hj : j.toInt = i) (hi : i < vs.length) (hx : nar .byte x = x') (ha : a ∈ sf) (k : ∀ h', Keep h h' [a] → own_Ary K.Z h' a .byte (vs.set i (.int x')) → own_WP K M Q pc' Ls St sf h' cs sl) : own_WP K M Q pc Ls (.int x :: .int j :: .ref a :: St) sf h cs sl := by
  subst hp hx
  have F' := F
  obtain ⟨cl, A, r1, r2⟩ := F
  have hsz : cl.slots.size = vs.length := by rw [r1]; simp
  obtain ⟨q1, q2⟩ := own_idx (n := cl.slots.size) hj (by rw [hsz]; exact hi)
  refine own_write ha (i := j.toNatClampNeg) (fun h' W => k h' (Keep.of_wr W) (by rw [← q2]; exact F'.same W)) ?_
  exact fun p e s m args below meth c T locs cs' sl' B X eT => stB X B.1 B.2.2.2.2.2.2.2.1 eT A (j := j) q1 (g := mkF m pc Ls.toArray (.int x :: .int j :: .ref a :: St)) rfl rfl (hb B.2.1 hd)
theorem own_newarray {aty : ArrayType} {n : Int32} {N cap : Nat} (hp : pc + 2 = pc') (hd : decode M.b pc = .ok (.newarray aty, 2)) (w : (Jvm.Cond.arrayClass (newarray.typeOf aty)).before a0 K.Z = true) (hn : n.toInt = N) (hcap : N ≤ cap) (hb' : Nat.ble (cap * 8) 536870912 = true) (hc : Nat.ble (cs + 1) M.R.cells = true) (hs : Nat.ble (sl + cap) M.R.slots = true)
    (k : ∀ (a : Addr) (h' : Heap), @Eq Nat a h.size → Ext h h' → own_Ary K.Z h' a (newarray.typeOf aty) (List.replicate N (defaultValue (newarray.typeOf aty))) → own_WP K M Q pc' Ls (.ref a :: St) (a :: sf) h' (cs + 1) (sl + cap)) : own_WP K M Q pc Ls (.int n :: St) sf h cs sl := by
  subst hp
  have hN : n.toNatClampNeg = N := by
    have : n.toNatClampNeg = n.toInt.toNat := rfl
    rw [this, hn]; rfl
  have h0 : ¬ n < 0 := fun z => by
    rw [Int32.lt_iff_toInt_lt, hn] at z
    have : (0 : Int32).toInt = 0 := rfl
    omega
  refine own_grow (P := fun h' => own_Ary K.Z h' h.size (newarray.typeOf aty) (List.replicate N (defaultValue (newarray.typeOf aty)))) (Nat.le_of_ble_eq_true hc) (Nat.le_of_ble_eq_true hs) (fun h' E P => k _ h' rfl E P) ?_
  intro p e s m args below meth c T locs cs' sl' B X hc' hs' eT
  obtain ⟨T', h', cA, X', e', E, A, st⟩ := newP X B.1 B.2.2.2.2.2.2.2.1 w eT (g := mkF m pc Ls.toArray (.int n :: St)) rfl (hb B.2.1 hd) rfl h0 (cap := cap) (by omega) (Nat.le_of_ble_eq_true hb') hc' hs'
  have hlt := (back32 h0).2
  exact ⟨T', h', X', e', E, A.lt, ⟨_, A, by simp [newA, hN], by rw [List.length_replicate, ← hN]; exact hlt⟩, st⟩
end Arrays
theorem own_lenOf {d : String} {ps : List FieldType} {r : Option FieldType} (hd : parseMethodDescriptor d = some ⟨ps, r⟩) {n : Nat} (hl : n = ps.length) : ∀ sig, parseMethodDescriptor d = some sig → n = sig.parameters.length := fun sig q => by cases hd.symm.trans q; exact hl
theorem own_cat {v : Value} (q : v.isRef = true) : v.category = 1 := by rcases ref_cases q with rfl | ⟨_, rfl⟩ <;> rfl
theorem own_ne {a b : Addr} (q : @Ne Nat a b) : a ≠ b := q
theorem own_nb0 : nar .boolean 0 = 0 := rfl
theorem own_nb1 : nar .boolean 1 = 1 := rfl
theorem own_ints_get {cs : List Int32} {i : Nat} {c : Int32} (hc : cs[i]? = some c) : (cs.map Value.int)[i]? = some (.int c) := by simp [hc]
theorem own_ints_getM {cs : List Int32} {f : Int32 → Int32} {i : Nat} {c : Int32} (hc : cs[i]? = some c) : ((cs.map f).map Value.int)[i]? = some (.int (f c)) := by simp [hc]
theorem tw_0 {a0 : Array Value} {Z : State} (hw : ∀ d ∈ tables_1, d.before a0 Z = true) : (Jvm.Cond.methodLink "com/example/table_to_topic/tabletotopic/TextCheckColumnPinLaw" (7 : Nat) ({ cls := "java/lang/String", name := "valueOf", desc := "(C)Ljava/lang/String;" } : Jvm.MethodName)).before a0 Z = true := hw _ (List.mem_of_getElem? (i := 0) rfl)
theorem tw_1 {a0 : Array Value} {Z : State} (hw : ∀ d ∈ tables_1, d.before a0 Z = true) : (Jvm.Cond.static ({ cls := "java/lang/String", name := "valueOf", desc := "(C)Ljava/lang/String;" } : Jvm.MethodName)).before a0 Z = true := hw _ (List.mem_of_getElem? (i := 1) rfl)
theorem tw_2 {a0 : Array Value} {Z : State} (hw : ∀ d ∈ tables_1, d.before a0 Z = true) : (Jvm.Cond.initialized "java/lang/String").before a0 Z = true := hw _ (List.mem_of_getElem? (i := 2) rfl)
theorem tw_3 {a0 : Array Value} {Z : State} (hw : ∀ d ∈ tables_1, d.before a0 Z = true) : (Jvm.Cond.code ({ cls := "java/lang/String", name := "valueOf", desc := "(C)Ljava/lang/String;" } : Jvm.MethodName) jdk_42_method_139_code (1 : Nat) (Option.some (Jvm.ClassFile.FieldType.object "java/lang/String"))).before a0 Z = true := hw _ (List.mem_of_getElem? (i := 3) rfl)
theorem tw_4 {a0 : Array Value} {Z : State} (hw : ∀ d ∈ tables_1, d.before a0 Z = true) : (Jvm.Cond.fieldLink "java/lang/String" (38 : Nat) "java/lang/String" "COMPACT_STRINGS" "Z").before a0 Z = true := hw _ (List.mem_of_getElem? (i := 4) rfl)
theorem tw_5 {a0 : Array Value} {Z : State} (hw : ∀ d ∈ tables_1, d.before a0 Z = true) : (Jvm.Cond.methodLink "java/lang/String" (1015 : Nat) ({ cls := "java/lang/StringLatin1", name := "canEncode", desc := "(C)Z" } : Jvm.MethodName)).before a0 Z = true := hw _ (List.mem_of_getElem? (i := 5) rfl)
theorem tw_6 {a0 : Array Value} {Z : State} (hw : ∀ d ∈ tables_1, d.before a0 Z = true) : (Jvm.Cond.static ({ cls := "java/lang/StringLatin1", name := "canEncode", desc := "(C)Z" } : Jvm.MethodName)).before a0 Z = true := hw _ (List.mem_of_getElem? (i := 6) rfl)
theorem tw_7 {a0 : Array Value} {Z : State} (hw : ∀ d ∈ tables_1, d.before a0 Z = true) : (Jvm.Cond.initialized "java/lang/StringLatin1").before a0 Z = true := hw _ (List.mem_of_getElem? (i := 7) rfl)
theorem tw_8 {a0 : Array Value} {Z : State} (hw : ∀ d ∈ tables_1, d.before a0 Z = true) : (Jvm.Cond.code ({ cls := "java/lang/StringLatin1", name := "canEncode", desc := "(C)Z" } : Jvm.MethodName) jdk_43_method_3_code (1 : Nat) (Option.some Jvm.ClassFile.FieldType.boolean)).before a0 Z = true := hw _ (List.mem_of_getElem? (i := 8) rfl)
theorem tw_9 {a0 : Array Value} {Z : State} (hw : ∀ d ∈ tables_1, d.before a0 Z = true) : (Jvm.Cond.classLink "java/lang/String" (10 : Nat) "java/lang/String").before a0 Z = true := hw _ (List.mem_of_getElem? (i := 9) rfl)
theorem tw_10 {a0 : Array Value} {Z : State} (hw : ∀ d ∈ tables_1, d.before a0 Z = true) : (Jvm.Cond.instantiable "java/lang/String" (4 : Nat)).before a0 Z = true := hw _ (List.mem_of_getElem? (i := 10) rfl)
theorem tw_11 {a0 : Array Value} {Z : State} (hw : ∀ d ∈ tables_1, d.before a0 Z = true) : (Jvm.Cond.methodLink "java/lang/String" (1018 : Nat) ({ cls := "java/lang/StringLatin1", name := "toBytes", desc := "(C)[B" } : Jvm.MethodName)).before a0 Z = true := hw _ (List.mem_of_getElem? (i := 11) rfl)
theorem tw_12 {a0 : Array Value} {Z : State} (hw : ∀ d ∈ tables_1, d.before a0 Z = true) : (Jvm.Cond.static ({ cls := "java/lang/StringLatin1", name := "toBytes", desc := "(C)[B" } : Jvm.MethodName)).before a0 Z = true := hw _ (List.mem_of_getElem? (i := 12) rfl)
theorem tw_13 {a0 : Array Value} {Z : State} (hw : ∀ d ∈ tables_1, d.before a0 Z = true) : (Jvm.Cond.code ({ cls := "java/lang/StringLatin1", name := "toBytes", desc := "(C)[B" } : Jvm.MethodName) jdk_43_method_46_code (1 : Nat) (Option.some (Jvm.ClassFile.FieldType.array Jvm.ClassFile.FieldType.byte))).before a0 Z = true := hw _ (List.mem_of_getElem? (i := 13) rfl)
theorem tw_14 {a0 : Array Value} {Z : State} (hw : ∀ d ∈ tables_1, d.before a0 Z = true) : (Jvm.Cond.arrayClass Jvm.ClassFile.FieldType.byte).before a0 Z = true := hw _ (List.mem_of_getElem? (i := 14) rfl)
theorem tw_15 {a0 : Array Value} {Z : State} (hw : ∀ d ∈ tables_1, d.before a0 Z = true) : (Jvm.Cond.methodLink "java/lang/String" (209 : Nat) ({ cls := "java/lang/String", name := "<init>", desc := "([BB)V" } : Jvm.MethodName)).before a0 Z = true := hw _ (List.mem_of_getElem? (i := 15) rfl)
theorem tw_16 {a0 : Array Value} {Z : State} (hw : ∀ d ∈ tables_1, d.before a0 Z = true) : (Jvm.Cond.instanceMethod ({ cls := "java/lang/String", name := "<init>", desc := "([BB)V" } : Jvm.MethodName)).before a0 Z = true := hw _ (List.mem_of_getElem? (i := 16) rfl)
theorem tw_18 {a0 : Array Value} {Z : State} (hw : ∀ d ∈ tables_1, d.before a0 Z = true) : (Jvm.Cond.code ({ cls := "java/lang/String", name := "<init>", desc := "([BB)V" } : Jvm.MethodName) jdk_42_method_151_code (3 : Nat) (Option.none : Option Jvm.ClassFile.FieldType)).before a0 Z = true := hw _ (List.mem_of_getElem? (i := 18) rfl)
theorem tw_19 {a0 : Array Value} {Z : State} (hw : ∀ d ∈ tables_1, d.before a0 Z = true) : (Jvm.Cond.methodLink "java/lang/String" (1 : Nat) ({ cls := "java/lang/Object", name := "<init>", desc := "()V" } : Jvm.MethodName)).before a0 Z = true := hw _ (List.mem_of_getElem? (i := 19) rfl)
theorem tw_20 {a0 : Array Value} {Z : State} (hw : ∀ d ∈ tables_1, d.before a0 Z = true) : (Jvm.Cond.instanceMethod ({ cls := "java/lang/Object", name := "<init>", desc := "()V" } : Jvm.MethodName)).before a0 Z = true := hw _ (List.mem_of_getElem? (i := 20) rfl)
theorem tw_21 {a0 : Array Value} {Z : State} (hw : ∀ d ∈ tables_1, d.before a0 Z = true) : (Jvm.Cond.code ({ cls := "java/lang/Object", name := "<init>", desc := "()V" } : Jvm.MethodName) object_method_1_code (1 : Nat) (Option.none : Option Jvm.ClassFile.FieldType)).before a0 Z = true := hw _ (List.mem_of_getElem? (i := 21) rfl)
theorem tw_22 {a0 : Array Value} {Z : State} (hw : ∀ d ∈ tables_1, d.before a0 Z = true) : (Jvm.Cond.fieldLink "java/lang/String" (9 : Nat) "java/lang/String" "value" "[B").before a0 Z = true := hw _ (List.mem_of_getElem? (i := 22) rfl)
theorem tw_23 {a0 : Array Value} {Z : State} (hw : ∀ d ∈ tables_1, d.before a0 Z = true) : (Jvm.Cond.laysFinal "java/lang/String" "java/lang/String" "value" "[B").before a0 Z = true := hw _ (List.mem_of_getElem? (i := 23) rfl)
theorem tw_24 {a0 : Array Value} {Z : State} (hw : ∀ d ∈ tables_1, d.before a0 Z = true) : (Jvm.Cond.fieldLink "java/lang/String" (15 : Nat) "java/lang/String" "coder" "B").before a0 Z = true := hw _ (List.mem_of_getElem? (i := 24) rfl)
theorem tw_25 {a0 : Array Value} {Z : State} (hw : ∀ d ∈ tables_1, d.before a0 Z = true) : (Jvm.Cond.laysFinal "java/lang/String" "java/lang/String" "coder" "B").before a0 Z = true := hw _ (List.mem_of_getElem? (i := 25) rfl)
theorem tw_26 {a0 : Array Value} {Z : State} (hw : ∀ d ∈ tables_1, d.before a0 Z = true) : (Jvm.Cond.arrayClass Jvm.ClassFile.FieldType.char).before a0 Z = true := hw _ (List.mem_of_getElem? (i := 26) rfl)
theorem tw_27 {a0 : Array Value} {Z : State} (hw : ∀ d ∈ tables_1, d.before a0 Z = true) : (Jvm.Cond.methodLink "com/example/table_to_topic/tabletotopic/TextCheckColumnPinLaw" (19 : Nat) ({ cls := "com/example/table_to_topic/tabletotopic/TextCheckColumnPinLaw", name := "put", desc := "([CIIZ)I" } : Jvm.MethodName)).before a0 Z = true := hw _ (List.mem_of_getElem? (i := 27) rfl)
theorem tw_28 {a0 : Array Value} {Z : State} (hw : ∀ d ∈ tables_1, d.before a0 Z = true) : (Jvm.Cond.static ({ cls := "com/example/table_to_topic/tabletotopic/TextCheckColumnPinLaw", name := "put", desc := "([CIIZ)I" } : Jvm.MethodName)).before a0 Z = true := hw _ (List.mem_of_getElem? (i := 28) rfl)
theorem tw_29 {a0 : Array Value} {Z : State} (hw : ∀ d ∈ tables_1, d.before a0 Z = true) : (Jvm.Cond.initialized "com/example/table_to_topic/tabletotopic/TextCheckColumnPinLaw").before a0 Z = true := hw _ (List.mem_of_getElem? (i := 29) rfl)
theorem tw_30 {a0 : Array Value} {Z : State} (hw : ∀ d ∈ tables_1, d.before a0 Z = true) : (Jvm.Cond.code ({ cls := "com/example/table_to_topic/tabletotopic/TextCheckColumnPinLaw", name := "put", desc := "([CIIZ)I" } : Jvm.MethodName) method_3_code (5 : Nat) (Option.some Jvm.ClassFile.FieldType.int)).before a0 Z = true := hw _ (List.mem_of_getElem? (i := 30) rfl)
theorem tw_31 {a0 : Array Value} {Z : State} (hw : ∀ d ∈ tables_1, d.before a0 Z = true) : (Jvm.Cond.constant "com/example/table_to_topic/tabletotopic/TextCheckColumnPinLaw" (37 : Nat) (65535 : Int32)).before a0 Z = true := hw _ (List.mem_of_getElem? (i := 31) rfl)
theorem tw_32 {a0 : Array Value} {Z : State} (hw : ∀ d ∈ tables_1, d.before a0 Z = true) : (Jvm.Cond.constant "com/example/table_to_topic/tabletotopic/TextCheckColumnPinLaw" (35 : Nat) (55296 : Int32)).before a0 Z = true := hw _ (List.mem_of_getElem? (i := 32) rfl)
theorem tw_33 {a0 : Array Value} {Z : State} (hw : ∀ d ∈ tables_1, d.before a0 Z = true) : (Jvm.Cond.methodLink "com/example/table_to_topic/tabletotopic/TextCheckColumnPinLaw" (25 : Nat) ({ cls := "com/example/table_to_topic/tabletotopic/TextCheckColumnPinLaw", name := "take", desc := "([CI)Ljava/lang/String;" } : Jvm.MethodName)).before a0 Z = true := hw _ (List.mem_of_getElem? (i := 33) rfl)
theorem tw_34 {a0 : Array Value} {Z : State} (hw : ∀ d ∈ tables_1, d.before a0 Z = true) : (Jvm.Cond.static ({ cls := "com/example/table_to_topic/tabletotopic/TextCheckColumnPinLaw", name := "take", desc := "([CI)Ljava/lang/String;" } : Jvm.MethodName)).before a0 Z = true := hw _ (List.mem_of_getElem? (i := 34) rfl)
theorem tw_35 {a0 : Array Value} {Z : State} (hw : ∀ d ∈ tables_1, d.before a0 Z = true) : (Jvm.Cond.code ({ cls := "com/example/table_to_topic/tabletotopic/TextCheckColumnPinLaw", name := "take", desc := "([CI)Ljava/lang/String;" } : Jvm.MethodName) method_4_code (2 : Nat) (Option.some (Jvm.ClassFile.FieldType.object "java/lang/String"))).before a0 Z = true := hw _ (List.mem_of_getElem? (i := 35) rfl)
theorem tw_36 {a0 : Array Value} {Z : State} (hw : ∀ d ∈ tables_1, d.before a0 Z = true) : (Jvm.Cond.classLink "com/example/table_to_topic/tabletotopic/TextCheckColumnPinLaw" (8 : Nat) "java/lang/String").before a0 Z = true := hw _ (List.mem_of_getElem? (i := 36) rfl)
theorem tw_37 {a0 : Array Value} {Z : State} (hw : ∀ d ∈ tables_1, d.before a0 Z = true) : (Jvm.Cond.methodLink "com/example/table_to_topic/tabletotopic/TextCheckColumnPinLaw" (39 : Nat) ({ cls := "java/lang/String", name := "<init>", desc := "([C)V" } : Jvm.MethodName)).before a0 Z = true := hw _ (List.mem_of_getElem? (i := 37) rfl)
theorem tw_38 {a0 : Array Value} {Z : State} (hw : ∀ d ∈ tables_1, d.before a0 Z = true) : (Jvm.Cond.instanceMethod ({ cls := "java/lang/String", name := "<init>", desc := "([C)V" } : Jvm.MethodName)).before a0 Z = true := hw _ (List.mem_of_getElem? (i := 38) rfl)
theorem tw_39 {a0 : Array Value} {Z : State} (hw : ∀ d ∈ tables_1, d.before a0 Z = true) : (Jvm.Cond.code ({ cls := "java/lang/String", name := "<init>", desc := "([C)V" } : Jvm.MethodName) jdk_42_method_3_code (2 : Nat) (Option.none : Option Jvm.ClassFile.FieldType)).before a0 Z = true := hw _ (List.mem_of_getElem? (i := 39) rfl)
theorem tw_40 {a0 : Array Value} {Z : State} (hw : ∀ d ∈ tables_1, d.before a0 Z = true) : (Jvm.Cond.methodLink "java/lang/String" (27 : Nat) ({ cls := "java/lang/String", name := "<init>", desc := "([CIILjava/lang/Void;)V" } : Jvm.MethodName)).before a0 Z = true := hw _ (List.mem_of_getElem? (i := 40) rfl)
theorem tw_41 {a0 : Array Value} {Z : State} (hw : ∀ d ∈ tables_1, d.before a0 Z = true) : (Jvm.Cond.instanceMethod ({ cls := "java/lang/String", name := "<init>", desc := "([CIILjava/lang/Void;)V" } : Jvm.MethodName)).before a0 Z = true := hw _ (List.mem_of_getElem? (i := 41) rfl)
theorem tw_42 {a0 : Array Value} {Z : State} (hw : ∀ d ∈ tables_1, d.before a0 Z = true) : (Jvm.Cond.code ({ cls := "java/lang/String", name := "<init>", desc := "([CIILjava/lang/Void;)V" } : Jvm.MethodName) jdk_42_method_149_code (6 : Nat) (Option.none : Option Jvm.ClassFile.FieldType)).before a0 Z = true := hw _ (List.mem_of_getElem? (i := 42) rfl)
theorem tw_43 {a0 : Array Value} {Z : State} (hw : ∀ d ∈ tables_1, d.before a0 Z = true) : (Jvm.Cond.methodLink "java/lang/String" (177 : Nat) ({ cls := "java/lang/StringUTF16", name := "compress", desc := "([CII)[B" } : Jvm.MethodName)).before a0 Z = true := hw _ (List.mem_of_getElem? (i := 43) rfl)
theorem tw_44 {a0 : Array Value} {Z : State} (hw : ∀ d ∈ tables_1, d.before a0 Z = true) : (Jvm.Cond.static ({ cls := "java/lang/StringUTF16", name := "compress", desc := "([CII)[B" } : Jvm.MethodName)).before a0 Z = true := hw _ (List.mem_of_getElem? (i := 44) rfl)
theorem tw_45 {a0 : Array Value} {Z : State} (hw : ∀ d ∈ tables_1, d.before a0 Z = true) : (Jvm.Cond.initialized "java/lang/StringUTF16").before a0 Z = true := hw _ (List.mem_of_getElem? (i := 45) rfl)
theorem tw_46 {a0 : Array Value} {Z : State} (hw : ∀ d ∈ tables_1, d.before a0 Z = true) : (Jvm.Cond.code ({ cls := "java/lang/StringUTF16", name := "compress", desc := "([CII)[B" } : Jvm.MethodName) jdk_52_method_16_code (6 : Nat) (Option.some (Jvm.ClassFile.FieldType.array Jvm.ClassFile.FieldType.byte))).before a0 Z = true := hw _ (List.mem_of_getElem? (i := 46) rfl)
theorem tw_47 {a0 : Array Value} {Z : State} (hw : ∀ d ∈ tables_1, d.before a0 Z = true) : (Jvm.Cond.methodLink "java/lang/StringUTF16" (115 : Nat) ({ cls := "java/lang/StringUTF16", name := "compress", desc := "([CI[BII)I" } : Jvm.MethodName)).before a0 Z = true := hw _ (List.mem_of_getElem? (i := 47) rfl)
theorem tw_48 {a0 : Array Value} {Z : State} (hw : ∀ d ∈ tables_1, d.before a0 Z = true) : (Jvm.Cond.static ({ cls := "java/lang/StringUTF16", name := "compress", desc := "([CI[BII)I" } : Jvm.MethodName)).before a0 Z = true := hw _ (List.mem_of_getElem? (i := 48) rfl)
theorem tw_49 {a0 : Array Value} {Z : State} (hw : ∀ d ∈ tables_1, d.before a0 Z = true) : (Jvm.Cond.code ({ cls := "java/lang/StringUTF16", name := "compress", desc := "([CI[BII)I" } : Jvm.MethodName) jdk_52_method_21_code (7 : Nat) (Option.some Jvm.ClassFile.FieldType.int)).before a0 Z = true := hw _ (List.mem_of_getElem? (i := 49) rfl)
theorem tw_50 {a0 : Array Value} {Z : State} (hw : ∀ d ∈ tables_1, d.before a0 Z = true) : (Jvm.Cond.methodLink "java/lang/String" (47 : Nat) ({ cls := "java/lang/StringUTF16", name := "coderFromArrayLen", desc := "([BI)B" } : Jvm.MethodName)).before a0 Z = true := hw _ (List.mem_of_getElem? (i := 50) rfl)
theorem tw_51 {a0 : Array Value} {Z : State} (hw : ∀ d ∈ tables_1, d.before a0 Z = true) : (Jvm.Cond.static ({ cls := "java/lang/StringUTF16", name := "coderFromArrayLen", desc := "([BI)B" } : Jvm.MethodName)).before a0 Z = true := hw _ (List.mem_of_getElem? (i := 51) rfl)
theorem tw_52 {a0 : Array Value} {Z : State} (hw : ∀ d ∈ tables_1, d.before a0 Z = true) : (Jvm.Cond.code ({ cls := "java/lang/StringUTF16", name := "coderFromArrayLen", desc := "([BI)B" } : Jvm.MethodName) jdk_52_method_15_code (2 : Nat) (Option.some Jvm.ClassFile.FieldType.byte)).before a0 Z = true := hw _ (List.mem_of_getElem? (i := 52) rfl)
theorem tw_53 {a0 : Array Value} {Z : State} (hw : ∀ d ∈ tables_1, d.before a0 Z = true) : (Jvm.Cond.methodLink "com/example/table_to_topic/tabletotopic/TextCheckColumnPinLaw" (29 : Nat) ({ cls := "java/lang/Math", name := "max", desc := "(II)I" } : Jvm.MethodName)).before a0 Z = true := hw _ (List.mem_of_getElem? (i := 53) rfl)
theorem tw_54 {a0 : Array Value} {Z : State} (hw : ∀ d ∈ tables_1, d.before a0 Z = true) : (Jvm.Cond.static ({ cls := "java/lang/Math", name := "max", desc := "(II)I" } : Jvm.MethodName)).before a0 Z = true := hw _ (List.mem_of_getElem? (i := 54) rfl)
theorem tw_55 {a0 : Array Value} {Z : State} (hw : ∀ d ∈ tables_1, d.before a0 Z = true) : (Jvm.Cond.initialized "java/lang/Math").before a0 Z = true := hw _ (List.mem_of_getElem? (i := 55) rfl)
theorem tw_56 {a0 : Array Value} {Z : State} (hw : ∀ d ∈ tables_1, d.before a0 Z = true) : (Jvm.Cond.code ({ cls := "java/lang/Math", name := "max", desc := "(II)I" } : Jvm.MethodName) jdk_29_method_65_code (2 : Nat) (Option.some Jvm.ClassFile.FieldType.int)).before a0 Z = true := hw _ (List.mem_of_getElem? (i := 56) rfl)
theorem tw_57 {a0 : Array Value} {Z : State} (hw : ∀ d ∈ tables_1, d.before a0 Z = true) : (Jvm.Cond.methodLink "com/example/table_to_topic/tabletotopic/TextCheckColumnPinLaw" (13 : Nat) ({ cls := "com/example/table_to_topic/tabletotopic/Text", name := "checkColumn", desc := "(Ljava/lang/String;Ljava/lang/String;Ljava/lang/String;I)V" } : Jvm.MethodName)).before a0 Z = true := hw _ (List.mem_of_getElem? (i := 57) rfl)
theorem tw_58 {a0 : Array Value} {Z : State} (hw : ∀ d ∈ tables_1, d.before a0 Z = true) : (Jvm.Cond.static ({ cls := "com/example/table_to_topic/tabletotopic/Text", name := "checkColumn", desc := "(Ljava/lang/String;Ljava/lang/String;Ljava/lang/String;I)V" } : Jvm.MethodName)).before a0 Z = true := hw _ (List.mem_of_getElem? (i := 58) rfl)
theorem tw_59 {a0 : Array Value} {Z : State} (hw : ∀ d ∈ tables_1, d.before a0 Z = true) : (Jvm.Cond.initialized "com/example/table_to_topic/tabletotopic/Text").before a0 Z = true := hw _ (List.mem_of_getElem? (i := 59) rfl)
theorem tw_60 {a0 : Array Value} {Z : State} (hw : ∀ d ∈ tables_1, d.before a0 Z = true) : (Jvm.Cond.code ({ cls := "com/example/table_to_topic/tabletotopic/Text", name := "checkColumn", desc := "(Ljava/lang/String;Ljava/lang/String;Ljava/lang/String;I)V" } : Jvm.MethodName) prog_16_method_5_code (6 : Nat) (Option.none : Option Jvm.ClassFile.FieldType)).before a0 Z = true := hw _ (List.mem_of_getElem? (i := 60) rfl)
theorem tw_61 {a0 : Array Value} {Z : State} (hw : ∀ d ∈ tables_1, d.before a0 Z = true) : (Jvm.Cond.methodLink "com/example/table_to_topic/tabletotopic/Text" (38 : Nat) ({ cls := "java/lang/String", name := "length", desc := "()I" } : Jvm.MethodName)).before a0 Z = true := hw _ (List.mem_of_getElem? (i := 61) rfl)
theorem tw_62 {a0 : Array Value} {Z : State} (hw : ∀ d ∈ tables_1, d.before a0 Z = true) : (Jvm.Cond.declares ({ cls := "java/lang/String", name := "length", desc := "()I" } : Jvm.MethodName)).before a0 Z = true := hw _ (List.mem_of_getElem? (i := 62) rfl)
theorem tw_63 {a0 : Array Value} {Z : State} (hw : ∀ d ∈ tables_1, d.before a0 Z = true) : (Jvm.Cond.instanceMethod ({ cls := "java/lang/String", name := "length", desc := "()I" } : Jvm.MethodName)).before a0 Z = true := hw _ (List.mem_of_getElem? (i := 63) rfl)
theorem tw_64 {a0 : Array Value} {Z : State} (hw : ∀ d ∈ tables_1, d.before a0 Z = true) : (Jvm.Cond.selects "java/lang/String" ({ cls := "java/lang/String", name := "length", desc := "()I" } : Jvm.MethodName) ({ cls := "java/lang/String", name := "length", desc := "()I" } : Jvm.MethodName)).before a0 Z = true := hw _ (List.mem_of_getElem? (i := 64) rfl)
theorem tw_65 {a0 : Array Value} {Z : State} (hw : ∀ d ∈ tables_1, d.before a0 Z = true) : (Jvm.Cond.code ({ cls := "java/lang/String", name := "length", desc := "()I" } : Jvm.MethodName) jdk_42_method_54_code (1 : Nat) (Option.some Jvm.ClassFile.FieldType.int)).before a0 Z = true := hw _ (List.mem_of_getElem? (i := 65) rfl)
theorem tw_66 {a0 : Array Value} {Z : State} (hw : ∀ d ∈ tables_1, d.before a0 Z = true) : (Jvm.Cond.methodLink "java/lang/String" (335 : Nat) ({ cls := "java/lang/String", name := "coder", desc := "()B" } : Jvm.MethodName)).before a0 Z = true := hw _ (List.mem_of_getElem? (i := 66) rfl)
theorem tw_67 {a0 : Array Value} {Z : State} (hw : ∀ d ∈ tables_1, d.before a0 Z = true) : (Jvm.Cond.declares ({ cls := "java/lang/String", name := "coder", desc := "()B" } : Jvm.MethodName)).before a0 Z = true := hw _ (List.mem_of_getElem? (i := 67) rfl)
theorem tw_68 {a0 : Array Value} {Z : State} (hw : ∀ d ∈ tables_1, d.before a0 Z = true) : (Jvm.Cond.instanceMethod ({ cls := "java/lang/String", name := "coder", desc := "()B" } : Jvm.MethodName)).before a0 Z = true := hw _ (List.mem_of_getElem? (i := 68) rfl)
theorem tw_69 {a0 : Array Value} {Z : State} (hw : ∀ d ∈ tables_1, d.before a0 Z = true) : (Jvm.Cond.selects "java/lang/String" ({ cls := "java/lang/String", name := "coder", desc := "()B" } : Jvm.MethodName) ({ cls := "java/lang/String", name := "coder", desc := "()B" } : Jvm.MethodName)).before a0 Z = true := hw _ (List.mem_of_getElem? (i := 69) rfl)
theorem tw_70 {a0 : Array Value} {Z : State} (hw : ∀ d ∈ tables_1, d.before a0 Z = true) : (Jvm.Cond.code ({ cls := "java/lang/String", name := "coder", desc := "()B" } : Jvm.MethodName) jdk_42_method_152_code (1 : Nat) (Option.some Jvm.ClassFile.FieldType.byte)).before a0 Z = true := hw _ (List.mem_of_getElem? (i := 70) rfl)
theorem tw_71 {a0 : Array Value} {Z : State} (hw : ∀ d ∈ tables_1, d.before a0 Z = true) : (Jvm.Cond.methodLink "com/example/table_to_topic/tabletotopic/Text" (78 : Nat) ({ cls := "java/lang/String", name := "codePointCount", desc := "(II)I" } : Jvm.MethodName)).before a0 Z = true := hw _ (List.mem_of_getElem? (i := 71) rfl)
theorem tw_72 {a0 : Array Value} {Z : State} (hw : ∀ d ∈ tables_1, d.before a0 Z = true) : (Jvm.Cond.declares ({ cls := "java/lang/String", name := "codePointCount", desc := "(II)I" } : Jvm.MethodName)).before a0 Z = true := hw _ (List.mem_of_getElem? (i := 72) rfl)
theorem tw_73 {a0 : Array Value} {Z : State} (hw : ∀ d ∈ tables_1, d.before a0 Z = true) : (Jvm.Cond.instanceMethod ({ cls := "java/lang/String", name := "codePointCount", desc := "(II)I" } : Jvm.MethodName)).before a0 Z = true := hw _ (List.mem_of_getElem? (i := 73) rfl)
theorem tw_74 {a0 : Array Value} {Z : State} (hw : ∀ d ∈ tables_1, d.before a0 Z = true) : (Jvm.Cond.selects "java/lang/String" ({ cls := "java/lang/String", name := "codePointCount", desc := "(II)I" } : Jvm.MethodName) ({ cls := "java/lang/String", name := "codePointCount", desc := "(II)I" } : Jvm.MethodName)).before a0 Z = true := hw _ (List.mem_of_getElem? (i := 74) rfl)
theorem tw_75 {a0 : Array Value} {Z : State} (hw : ∀ d ∈ tables_1, d.before a0 Z = true) : (Jvm.Cond.code ({ cls := "java/lang/String", name := "codePointCount", desc := "(II)I" } : Jvm.MethodName) jdk_42_method_59_code (3 : Nat) (Option.some Jvm.ClassFile.FieldType.int)).before a0 Z = true := hw _ (List.mem_of_getElem? (i := 75) rfl)
theorem tw_76 {a0 : Array Value} {Z : State} (hw : ∀ d ∈ tables_1, d.before a0 Z = true) : (Jvm.Cond.methodLink "java/lang/String" (505 : Nat) ({ cls := "java/lang/String", name := "length", desc := "()I" } : Jvm.MethodName)).before a0 Z = true := hw _ (List.mem_of_getElem? (i := 76) rfl)
theorem tw_77 {a0 : Array Value} {Z : State} (hw : ∀ d ∈ tables_1, d.before a0 Z = true) : (Jvm.Cond.methodLink "java/lang/String" (511 : Nat) ({ cls := "java/util/Objects", name := "checkFromToIndex", desc := "(III)I" } : Jvm.MethodName)).before a0 Z = true := hw _ (List.mem_of_getElem? (i := 77) rfl)
theorem tw_78 {a0 : Array Value} {Z : State} (hw : ∀ d ∈ tables_1, d.before a0 Z = true) : (Jvm.Cond.static ({ cls := "java/util/Objects", name := "checkFromToIndex", desc := "(III)I" } : Jvm.MethodName)).before a0 Z = true := hw _ (List.mem_of_getElem? (i := 78) rfl)
theorem tw_79 {a0 : Array Value} {Z : State} (hw : ∀ d ∈ tables_1, d.before a0 Z = true) : (Jvm.Cond.initialized "java/util/Objects").before a0 Z = true := hw _ (List.mem_of_getElem? (i := 79) rfl)
theorem tw_80 {a0 : Array Value} {Z : State} (hw : ∀ d ∈ tables_1, d.before a0 Z = true) : (Jvm.Cond.code ({ cls := "java/util/Objects", name := "checkFromToIndex", desc := "(III)I" } : Jvm.MethodName) jdk_31_method_18_code (3 : Nat) (Option.some Jvm.ClassFile.FieldType.int)).before a0 Z = true := hw _ (List.mem_of_getElem? (i := 80) rfl)
theorem tw_81 {a0 : Array Value} {Z : State} (hw : ∀ d ∈ tables_1, d.before a0 Z = true) : (Jvm.Cond.methodLink "java/util/Objects" (111 : Nat) ({ cls := "jdk/internal/util/Preconditions", name := "checkFromToIndex", desc := "(IIILjava/util/function/BiFunction;)I" } : Jvm.MethodName)).before a0 Z = true := hw _ (List.mem_of_getElem? (i := 81) rfl)
theorem tw_82 {a0 : Array Value} {Z : State} (hw : ∀ d ∈ tables_1, d.before a0 Z = true) : (Jvm.Cond.static ({ cls := "jdk/internal/util/Preconditions", name := "checkFromToIndex", desc := "(IIILjava/util/function/BiFunction;)I" } : Jvm.MethodName)).before a0 Z = true := hw _ (List.mem_of_getElem? (i := 82) rfl)
theorem tw_83 {a0 : Array Value} {Z : State} (hw : ∀ d ∈ tables_1, d.before a0 Z = true) : (Jvm.Cond.initialized "jdk/internal/util/Preconditions").before a0 Z = true := hw _ (List.mem_of_getElem? (i := 83) rfl)
theorem tw_84 {a0 : Array Value} {Z : State} (hw : ∀ d ∈ tables_1, d.before a0 Z = true) : (Jvm.Cond.code ({ cls := "jdk/internal/util/Preconditions", name := "checkFromToIndex", desc := "(IIILjava/util/function/BiFunction;)I" } : Jvm.MethodName) jdk_41_method_12_code (4 : Nat) (Option.some Jvm.ClassFile.FieldType.int)).before a0 Z = true := hw _ (List.mem_of_getElem? (i := 84) rfl)
theorem tw_85 {a0 : Array Value} {Z : State} (hw : ∀ d ∈ tables_1, d.before a0 Z = true) : (Jvm.Cond.methodLink "java/lang/String" (492 : Nat) ({ cls := "java/lang/String", name := "isLatin1", desc := "()Z" } : Jvm.MethodName)).before a0 Z = true := hw _ (List.mem_of_getElem? (i := 85) rfl)
theorem tw_86 {a0 : Array Value} {Z : State} (hw : ∀ d ∈ tables_1, d.before a0 Z = true) : (Jvm.Cond.declares ({ cls := "java/lang/String", name := "isLatin1", desc := "()Z" } : Jvm.MethodName)).before a0 Z = true := hw _ (List.mem_of_getElem? (i := 86) rfl)
theorem tw_87 {a0 : Array Value} {Z : State} (hw : ∀ d ∈ tables_1, d.before a0 Z = true) : (Jvm.Cond.instanceMethod ({ cls := "java/lang/String", name := "isLatin1", desc := "()Z" } : Jvm.MethodName)).before a0 Z = true := hw _ (List.mem_of_getElem? (i := 87) rfl)
theorem tw_88 {a0 : Array Value} {Z : State} (hw : ∀ d ∈ tables_1, d.before a0 Z = true) : (Jvm.Cond.selects "java/lang/String" ({ cls := "java/lang/String", name := "isLatin1", desc := "()Z" } : Jvm.MethodName) ({ cls := "java/lang/String", name := "isLatin1", desc := "()Z" } : Jvm.MethodName)).before a0 Z = true := hw _ (List.mem_of_getElem? (i := 88) rfl)
theorem tw_89 {a0 : Array Value} {Z : State} (hw : ∀ d ∈ tables_1, d.before a0 Z = true) : (Jvm.Cond.code ({ cls := "java/lang/String", name := "isLatin1", desc := "()Z" } : Jvm.MethodName) jdk_42_method_154_code (1 : Nat) (Option.some Jvm.ClassFile.FieldType.boolean)).before a0 Z = true := hw _ (List.mem_of_getElem? (i := 89) rfl)
theorem tw_90 {a0 : Array Value} {Z : State} (hw : ∀ d ∈ tables_1, d.before a0 Z = true) : (Jvm.Cond.methodLink "com/example/table_to_topic/tabletotopic/Text" (89 : Nat) ({ cls := "java/lang/String", name := "indexOf", desc := "(I)I" } : Jvm.MethodName)).before a0 Z = true := hw _ (List.mem_of_getElem? (i := 90) rfl)
theorem tw_91 {a0 : Array Value} {Z : State} (hw : ∀ d ∈ tables_1, d.before a0 Z = true) : (Jvm.Cond.declares ({ cls := "java/lang/String", name := "indexOf", desc := "(I)I" } : Jvm.MethodName)).before a0 Z = true := hw _ (List.mem_of_getElem? (i := 91) rfl)
theorem tw_92 {a0 : Array Value} {Z : State} (hw : ∀ d ∈ tables_1, d.before a0 Z = true) : (Jvm.Cond.instanceMethod ({ cls := "java/lang/String", name := "indexOf", desc := "(I)I" } : Jvm.MethodName)).before a0 Z = true := hw _ (List.mem_of_getElem? (i := 92) rfl)
theorem tw_93 {a0 : Array Value} {Z : State} (hw : ∀ d ∈ tables_1, d.before a0 Z = true) : (Jvm.Cond.selects "java/lang/String" ({ cls := "java/lang/String", name := "indexOf", desc := "(I)I" } : Jvm.MethodName) ({ cls := "java/lang/String", name := "indexOf", desc := "(I)I" } : Jvm.MethodName)).before a0 Z = true := hw _ (List.mem_of_getElem? (i := 93) rfl)
theorem tw_94 {a0 : Array Value} {Z : State} (hw : ∀ d ∈ tables_1, d.before a0 Z = true) : (Jvm.Cond.code ({ cls := "java/lang/String", name := "indexOf", desc := "(I)I" } : Jvm.MethodName) jdk_42_method_79_code (2 : Nat) (Option.some Jvm.ClassFile.FieldType.int)).before a0 Z = true := hw _ (List.mem_of_getElem? (i := 94) rfl)
theorem tw_95 {a0 : Array Value} {Z : State} (hw : ∀ d ∈ tables_1, d.before a0 Z = true) : (Jvm.Cond.methodLink "java/lang/String" (633 : Nat) ({ cls := "java/lang/String", name := "indexOf", desc := "(II)I" } : Jvm.MethodName)).before a0 Z = true := hw _ (List.mem_of_getElem? (i := 95) rfl)
theorem tw_96 {a0 : Array Value} {Z : State} (hw : ∀ d ∈ tables_1, d.before a0 Z = true) : (Jvm.Cond.declares ({ cls := "java/lang/String", name := "indexOf", desc := "(II)I" } : Jvm.MethodName)).before a0 Z = true := hw _ (List.mem_of_getElem? (i := 96) rfl)
theorem tw_97 {a0 : Array Value} {Z : State} (hw : ∀ d ∈ tables_1, d.before a0 Z = true) : (Jvm.Cond.instanceMethod ({ cls := "java/lang/String", name := "indexOf", desc := "(II)I" } : Jvm.MethodName)).before a0 Z = true := hw _ (List.mem_of_getElem? (i := 97) rfl)
theorem tw_98 {a0 : Array Value} {Z : State} (hw : ∀ d ∈ tables_1, d.before a0 Z = true) : (Jvm.Cond.selects "java/lang/String" ({ cls := "java/lang/String", name := "indexOf", desc := "(II)I" } : Jvm.MethodName) ({ cls := "java/lang/String", name := "indexOf", desc := "(II)I" } : Jvm.MethodName)).before a0 Z = true := hw _ (List.mem_of_getElem? (i := 98) rfl)
theorem tw_99 {a0 : Array Value} {Z : State} (hw : ∀ d ∈ tables_1, d.before a0 Z = true) : (Jvm.Cond.code ({ cls := "java/lang/String", name := "indexOf", desc := "(II)I" } : Jvm.MethodName) jdk_42_method_80_code (3 : Nat) (Option.some Jvm.ClassFile.FieldType.int)).before a0 Z = true := hw _ (List.mem_of_getElem? (i := 99) rfl)
theorem tw_100 {a0 : Array Value} {Z : State} (hw : ∀ d ∈ tables_1, d.before a0 Z = true) : (Jvm.Cond.methodLink "java/lang/String" (637 : Nat) ({ cls := "java/lang/StringLatin1", name := "indexOf", desc := "([BIII)I" } : Jvm.MethodName)).before a0 Z = true := hw _ (List.mem_of_getElem? (i := 100) rfl)
theorem tw_101 {a0 : Array Value} {Z : State} (hw : ∀ d ∈ tables_1, d.before a0 Z = true) : (Jvm.Cond.static ({ cls := "java/lang/StringLatin1", name := "indexOf", desc := "([BIII)I" } : Jvm.MethodName)).before a0 Z = true := hw _ (List.mem_of_getElem? (i := 101) rfl)
theorem tw_102 {a0 : Array Value} {Z : State} (hw : ∀ d ∈ tables_1, d.before a0 Z = true) : (Jvm.Cond.code ({ cls := "java/lang/StringLatin1", name := "indexOf", desc := "([BIII)I" } : Jvm.MethodName) jdk_43_method_22_code (4 : Nat) (Option.some Jvm.ClassFile.FieldType.int)).before a0 Z = true := hw _ (List.mem_of_getElem? (i := 102) rfl)
theorem tw_103 {a0 : Array Value} {Z : State} (hw : ∀ d ∈ tables_1, d.before a0 Z = true) : (Jvm.Cond.methodLink "java/lang/StringLatin1" (88 : Nat) ({ cls := "java/lang/StringLatin1", name := "canEncode", desc := "(I)Z" } : Jvm.MethodName)).before a0 Z = true := hw _ (List.mem_of_getElem? (i := 103) rfl)
theorem tw_104 {a0 : Array Value} {Z : State} (hw : ∀ d ∈ tables_1, d.before a0 Z = true) : (Jvm.Cond.static ({ cls := "java/lang/StringLatin1", name := "canEncode", desc := "(I)Z" } : Jvm.MethodName)).before a0 Z = true := hw _ (List.mem_of_getElem? (i := 104) rfl)
theorem tw_105 {a0 : Array Value} {Z : State} (hw : ∀ d ∈ tables_1, d.before a0 Z = true) : (Jvm.Cond.code ({ cls := "java/lang/StringLatin1", name := "canEncode", desc := "(I)Z" } : Jvm.MethodName) jdk_43_method_4_code (1 : Nat) (Option.some Jvm.ClassFile.FieldType.boolean)).before a0 Z = true := hw _ (List.mem_of_getElem? (i := 105) rfl)
theorem tw_106 {a0 : Array Value} {Z : State} (hw : ∀ d ∈ tables_1, d.before a0 Z = true) : (Jvm.Cond.methodLink "java/lang/StringLatin1" (92 : Nat) ({ cls := "java/lang/Math", name := "max", desc := "(II)I" } : Jvm.MethodName)).before a0 Z = true := hw _ (List.mem_of_getElem? (i := 106) rfl)
theorem tw_107 {a0 : Array Value} {Z : State} (hw : ∀ d ∈ tables_1, d.before a0 Z = true) : (Jvm.Cond.methodLink "java/lang/StringLatin1" (38 : Nat) ({ cls := "java/lang/Math", name := "min", desc := "(II)I" } : Jvm.MethodName)).before a0 Z = true := hw _ (List.mem_of_getElem? (i := 107) rfl)
theorem tw_108 {a0 : Array Value} {Z : State} (hw : ∀ d ∈ tables_1, d.before a0 Z = true) : (Jvm.Cond.static ({ cls := "java/lang/Math", name := "min", desc := "(II)I" } : Jvm.MethodName)).before a0 Z = true := hw _ (List.mem_of_getElem? (i := 108) rfl)
theorem tw_109 {a0 : Array Value} {Z : State} (hw : ∀ d ∈ tables_1, d.before a0 Z = true) : (Jvm.Cond.code ({ cls := "java/lang/Math", name := "min", desc := "(II)I" } : Jvm.MethodName) jdk_29_method_69_code (2 : Nat) (Option.some Jvm.ClassFile.FieldType.int)).before a0 Z = true := hw _ (List.mem_of_getElem? (i := 109) rfl)
theorem tw_110 {a0 : Array Value} {Z : State} (hw : ∀ d ∈ tables_1, d.before a0 Z = true) : (Jvm.Cond.methodLink "java/lang/StringLatin1" (95 : Nat) ({ cls := "java/lang/StringLatin1", name := "indexOfChar", desc := "([BIII)I" } : Jvm.MethodName)).before a0 Z = true := hw _ (List.mem_of_getElem? (i := 110) rfl)
theorem tw_111 {a0 : Array Value} {Z : State} (hw : ∀ d ∈ tables_1, d.before a0 Z = true) : (Jvm.Cond.static ({ cls := "java/lang/StringLatin1", name := "indexOfChar", desc := "([BIII)I" } : Jvm.MethodName)).before a0 Z = true := hw _ (List.mem_of_getElem? (i := 111) rfl)
theorem tw_112 {a0 : Array Value} {Z : State} (hw : ∀ d ∈ tables_1, d.before a0 Z = true) : (Jvm.Cond.code ({ cls := "java/lang/StringLatin1", name := "indexOfChar", desc := "([BIII)I" } : Jvm.MethodName) jdk_43_method_23_code (6 : Nat) (Option.some Jvm.ClassFile.FieldType.int)).before a0 Z = true := hw _ (List.mem_of_getElem? (i := 112) rfl)
theorem tw_113 {a0 : Array Value} {Z : State} (hw : ∀ d ∈ tables_1, d.before a0 Z = true) : (Jvm.Cond.constant "com/example/table_to_topic/tabletotopic/TextCheckColumnPinLaw" (36 : Nat) (56320 : Int32)).before a0 Z = true := hw _ (List.mem_of_getElem? (i := 113) rfl)
theorem tw_114 {a0 : Array Value} {Z : State} (hw : ∀ d ∈ tables_1, d.before a0 Z = true) : (Jvm.Cond.methodLink "java/lang/StringUTF16" (119 : Nat) ({ cls := "java/lang/StringUTF16", name := "toBytes", desc := "([CII)[B" } : Jvm.MethodName)).before a0 Z = true := hw _ (List.mem_of_getElem? (i := 114) rfl)
theorem tw_115 {a0 : Array Value} {Z : State} (hw : ∀ d ∈ tables_1, d.before a0 Z = true) : (Jvm.Cond.static ({ cls := "java/lang/StringUTF16", name := "toBytes", desc := "([CII)[B" } : Jvm.MethodName)).before a0 Z = true := hw _ (List.mem_of_getElem? (i := 115) rfl)
theorem tw_116 {a0 : Array Value} {Z : State} (hw : ∀ d ∈ tables_1, d.before a0 Z = true) : (Jvm.Cond.code ({ cls := "java/lang/StringUTF16", name := "toBytes", desc := "([CII)[B" } : Jvm.MethodName) jdk_52_method_14_code (5 : Nat) (Option.some (Jvm.ClassFile.FieldType.array Jvm.ClassFile.FieldType.byte))).before a0 Z = true := hw _ (List.mem_of_getElem? (i := 116) rfl)
theorem tw_117 {a0 : Array Value} {Z : State} (hw : ∀ d ∈ tables_1, d.before a0 Z = true) : (Jvm.Cond.methodLink "java/lang/StringUTF16" (107 : Nat) ({ cls := "java/lang/StringUTF16", name := "newBytesFor", desc := "(I)[B" } : Jvm.MethodName)).before a0 Z = true := hw _ (List.mem_of_getElem? (i := 117) rfl)
theorem tw_118 {a0 : Array Value} {Z : State} (hw : ∀ d ∈ tables_1, d.before a0 Z = true) : (Jvm.Cond.static ({ cls := "java/lang/StringUTF16", name := "newBytesFor", desc := "(I)[B" } : Jvm.MethodName)).before a0 Z = true := hw _ (List.mem_of_getElem? (i := 118) rfl)
theorem tw_119 {a0 : Array Value} {Z : State} (hw : ∀ d ∈ tables_1, d.before a0 Z = true) : (Jvm.Cond.code ({ cls := "java/lang/StringUTF16", name := "newBytesFor", desc := "(I)[B" } : Jvm.MethodName) jdk_52_method_2_code (1 : Nat) (Option.some (Jvm.ClassFile.FieldType.array Jvm.ClassFile.FieldType.byte))).before a0 Z = true := hw _ (List.mem_of_getElem? (i := 119) rfl)
theorem tw_120 {a0 : Array Value} {Z : State} (hw : ∀ d ∈ tables_1, d.before a0 Z = true) : (Jvm.Cond.methodLink "java/lang/StringUTF16" (11 : Nat) ({ cls := "java/lang/StringUTF16", name := "newBytesLength", desc := "(I)I" } : Jvm.MethodName)).before a0 Z = true := hw _ (List.mem_of_getElem? (i := 120) rfl)
theorem tw_121 {a0 : Array Value} {Z : State} (hw : ∀ d ∈ tables_1, d.before a0 Z = true) : (Jvm.Cond.static ({ cls := "java/lang/StringUTF16", name := "newBytesLength", desc := "(I)I" } : Jvm.MethodName)).before a0 Z = true := hw _ (List.mem_of_getElem? (i := 121) rfl)
theorem tw_122 {a0 : Array Value} {Z : State} (hw : ∀ d ∈ tables_1, d.before a0 Z = true) : (Jvm.Cond.code ({ cls := "java/lang/StringUTF16", name := "newBytesLength", desc := "(I)I" } : Jvm.MethodName) jdk_52_method_3_code (1 : Nat) (Option.some Jvm.ClassFile.FieldType.int)).before a0 Z = true := hw _ (List.mem_of_getElem? (i := 122) rfl)
theorem tw_123 {a0 : Array Value} {Z : State} (hw : ∀ d ∈ tables_1, d.before a0 Z = true) : (Jvm.Cond.constant "java/lang/StringUTF16" (20 : Nat) (1073741823 : Int32)).before a0 Z = true := hw _ (List.mem_of_getElem? (i := 123) rfl)
theorem tw_124 {a0 : Array Value} {Z : State} (hw : ∀ d ∈ tables_1, d.before a0 Z = true) : (Jvm.Cond.methodLink "java/lang/StringUTF16" (111 : Nat) ({ cls := "java/lang/StringUTF16", name := "putChar", desc := "([BII)V" } : Jvm.MethodName)).before a0 Z = true := hw _ (List.mem_of_getElem? (i := 124) rfl)
theorem tw_125 {a0 : Array Value} {Z : State} (hw : ∀ d ∈ tables_1, d.before a0 Z = true) : (Jvm.Cond.static ({ cls := "java/lang/StringUTF16", name := "putChar", desc := "([BII)V" } : Jvm.MethodName)).before a0 Z = true := hw _ (List.mem_of_getElem? (i := 125) rfl)
theorem tw_126 {a0 : Array Value} {Z : State} (hw : ∀ d ∈ tables_1, d.before a0 Z = true) : (Jvm.Cond.code ({ cls := "java/lang/StringUTF16", name := "putChar", desc := "([BII)V" } : Jvm.MethodName) jdk_52_method_4_code (3 : Nat) (Option.none : Option Jvm.ClassFile.FieldType)).before a0 Z = true := hw _ (List.mem_of_getElem? (i := 126) rfl)
theorem tw_127 {a0 : Array Value} {Z : State} (hw : ∀ d ∈ tables_1, d.before a0 Z = true) : (Jvm.Cond.fieldLink "java/lang/StringUTF16" (44 : Nat) "java/lang/StringUTF16" "$assertionsDisabled" "Z").before a0 Z = true := hw _ (List.mem_of_getElem? (i := 127) rfl)
theorem tw_128 {a0 : Array Value} {Z : State} (hw : ∀ d ∈ tables_1, d.before a0 Z = true) : (Jvm.Cond.fieldLink "java/lang/StringUTF16" (59 : Nat) "java/lang/StringUTF16" "HI_BYTE_SHIFT" "I").before a0 Z = true := hw _ (List.mem_of_getElem? (i := 128) rfl)
theorem tw_129 {a0 : Array Value} {Z : State} (hw : ∀ d ∈ tables_1, d.before a0 Z = true) : (Jvm.Cond.fieldLink "java/lang/StringUTF16" (63 : Nat) "java/lang/StringUTF16" "LO_BYTE_SHIFT" "I").before a0 Z = true := hw _ (List.mem_of_getElem? (i := 129) rfl)
theorem tw_130 {a0 : Array Value} {Z : State} (hw : ∀ d ∈ tables_1, d.before a0 Z = true) : (Jvm.Cond.methodLink "java/lang/StringUTF16" (71 : Nat) ({ cls := "java/lang/StringUTF16", name := "getChar", desc := "([BI)C" } : Jvm.MethodName)).before a0 Z = true := hw _ (List.mem_of_getElem? (i := 130) rfl)
theorem tw_131 {a0 : Array Value} {Z : State} (hw : ∀ d ∈ tables_1, d.before a0 Z = true) : (Jvm.Cond.static ({ cls := "java/lang/StringUTF16", name := "getChar", desc := "([BI)C" } : Jvm.MethodName)).before a0 Z = true := hw _ (List.mem_of_getElem? (i := 131) rfl)
theorem tw_132 {a0 : Array Value} {Z : State} (hw : ∀ d ∈ tables_1, d.before a0 Z = true) : (Jvm.Cond.code ({ cls := "java/lang/StringUTF16", name := "getChar", desc := "([BI)C" } : Jvm.MethodName) jdk_52_method_5_code (2 : Nat) (Option.some Jvm.ClassFile.FieldType.char)).before a0 Z = true := hw _ (List.mem_of_getElem? (i := 132) rfl)
theorem tw_133 {a0 : Array Value} {Z : State} (hw : ∀ d ∈ tables_1, d.before a0 Z = true) : (Jvm.Cond.methodLink "java/lang/String" (514 : Nat) ({ cls := "java/lang/StringUTF16", name := "codePointCount", desc := "([BII)I" } : Jvm.MethodName)).before a0 Z = true := hw _ (List.mem_of_getElem? (i := 133) rfl)
theorem tw_134 {a0 : Array Value} {Z : State} (hw : ∀ d ∈ tables_1, d.before a0 Z = true) : (Jvm.Cond.static ({ cls := "java/lang/StringUTF16", name := "codePointCount", desc := "([BII)I" } : Jvm.MethodName)).before a0 Z = true := hw _ (List.mem_of_getElem? (i := 134) rfl)
theorem tw_135 {a0 : Array Value} {Z : State} (hw : ∀ d ∈ tables_1, d.before a0 Z = true) : (Jvm.Cond.code ({ cls := "java/lang/StringUTF16", name := "codePointCount", desc := "([BII)I" } : Jvm.MethodName) jdk_52_method_12_code (3 : Nat) (Option.some Jvm.ClassFile.FieldType.int)).before a0 Z = true := hw _ (List.mem_of_getElem? (i := 135) rfl)
theorem tw_136 {a0 : Array Value} {Z : State} (hw : ∀ d ∈ tables_1, d.before a0 Z = true) : (Jvm.Cond.methodLink "java/lang/StringUTF16" (100 : Nat) ({ cls := "java/lang/StringUTF16", name := "codePointCount", desc := "([BIIZ)I" } : Jvm.MethodName)).before a0 Z = true := hw _ (List.mem_of_getElem? (i := 136) rfl)
theorem tw_137 {a0 : Array Value} {Z : State} (hw : ∀ d ∈ tables_1, d.before a0 Z = true) : (Jvm.Cond.static ({ cls := "java/lang/StringUTF16", name := "codePointCount", desc := "([BIIZ)I" } : Jvm.MethodName)).before a0 Z = true := hw _ (List.mem_of_getElem? (i := 137) rfl)
theorem tw_138 {a0 : Array Value} {Z : State} (hw : ∀ d ∈ tables_1, d.before a0 Z = true) : (Jvm.Cond.code ({ cls := "java/lang/StringUTF16", name := "codePointCount", desc := "([BIIZ)I" } : Jvm.MethodName) jdk_52_method_11_code (6 : Nat) (Option.some Jvm.ClassFile.FieldType.int)).before a0 Z = true := hw _ (List.mem_of_getElem? (i := 138) rfl)
theorem tw_139 {a0 : Array Value} {Z : State} (hw : ∀ d ∈ tables_1, d.before a0 Z = true) : (Jvm.Cond.methodLink "java/lang/StringUTF16" (75 : Nat) ({ cls := "java/lang/Character", name := "isHighSurrogate", desc := "(C)Z" } : Jvm.MethodName)).before a0 Z = true := hw _ (List.mem_of_getElem? (i := 139) rfl)
theorem tw_140 {a0 : Array Value} {Z : State} (hw : ∀ d ∈ tables_1, d.before a0 Z = true) : (Jvm.Cond.static ({ cls := "java/lang/Character", name := "isHighSurrogate", desc := "(C)Z" } : Jvm.MethodName)).before a0 Z = true := hw _ (List.mem_of_getElem? (i := 140) rfl)
theorem tw_141 {a0 : Array Value} {Z : State} (hw : ∀ d ∈ tables_1, d.before a0 Z = true) : (Jvm.Cond.initialized "java/lang/Character").before a0 Z = true := hw _ (List.mem_of_getElem? (i := 141) rfl)
theorem tw_142 {a0 : Array Value} {Z : State} (hw : ∀ d ∈ tables_1, d.before a0 Z = true) : (Jvm.Cond.code ({ cls := "java/lang/Character", name := "isHighSurrogate", desc := "(C)Z" } : Jvm.MethodName) jdk_89_method_14_code (1 : Nat) (Option.some Jvm.ClassFile.FieldType.boolean)).before a0 Z = true := hw _ (List.mem_of_getElem? (i := 142) rfl)
theorem tw_143 {a0 : Array Value} {Z : State} (hw : ∀ d ∈ tables_1, d.before a0 Z = true) : (Jvm.Cond.constant "java/lang/Character" (75 : Nat) (55296 : Int32)).before a0 Z = true := hw _ (List.mem_of_getElem? (i := 143) rfl)
theorem tw_144 {a0 : Array Value} {Z : State} (hw : ∀ d ∈ tables_1, d.before a0 Z = true) : (Jvm.Cond.constant "java/lang/Character" (76 : Nat) (56320 : Int32)).before a0 Z = true := hw _ (List.mem_of_getElem? (i := 144) rfl)
theorem tw_145 {a0 : Array Value} {Z : State} (hw : ∀ d ∈ tables_1, d.before a0 Z = true) : (Jvm.Cond.methodLink "java/lang/StringUTF16" (81 : Nat) ({ cls := "java/lang/Character", name := "isLowSurrogate", desc := "(C)Z" } : Jvm.MethodName)).before a0 Z = true := hw _ (List.mem_of_getElem? (i := 145) rfl)
theorem tw_146 {a0 : Array Value} {Z : State} (hw : ∀ d ∈ tables_1, d.before a0 Z = true) : (Jvm.Cond.static ({ cls := "java/lang/Character", name := "isLowSurrogate", desc := "(C)Z" } : Jvm.MethodName)).before a0 Z = true := hw _ (List.mem_of_getElem? (i := 146) rfl)
theorem tw_147 {a0 : Array Value} {Z : State} (hw : ∀ d ∈ tables_1, d.before a0 Z = true) : (Jvm.Cond.code ({ cls := "java/lang/Character", name := "isLowSurrogate", desc := "(C)Z" } : Jvm.MethodName) jdk_89_method_15_code (1 : Nat) (Option.some Jvm.ClassFile.FieldType.boolean)).before a0 Z = true := hw _ (List.mem_of_getElem? (i := 147) rfl)
theorem tw_148 {a0 : Array Value} {Z : State} (hw : ∀ d ∈ tables_1, d.before a0 Z = true) : (Jvm.Cond.constant "java/lang/Character" (77 : Nat) (57344 : Int32)).before a0 Z = true := hw _ (List.mem_of_getElem? (i := 148) rfl)
theorem tw_149 {a0 : Array Value} {Z : State} (hw : ∀ d ∈ tables_1, d.before a0 Z = true) : (Jvm.Cond.methodLink "java/lang/String" (640 : Nat) ({ cls := "java/lang/StringUTF16", name := "indexOf", desc := "([BIII)I" } : Jvm.MethodName)).before a0 Z = true := hw _ (List.mem_of_getElem? (i := 149) rfl)
theorem tw_150 {a0 : Array Value} {Z : State} (hw : ∀ d ∈ tables_1, d.before a0 Z = true) : (Jvm.Cond.static ({ cls := "java/lang/StringUTF16", name := "indexOf", desc := "([BIII)I" } : Jvm.MethodName)).before a0 Z = true := hw _ (List.mem_of_getElem? (i := 150) rfl)
theorem tw_151 {a0 : Array Value} {Z : State} (hw : ∀ d ∈ tables_1, d.before a0 Z = true) : (Jvm.Cond.code ({ cls := "java/lang/StringUTF16", name := "indexOf", desc := "([BIII)I" } : Jvm.MethodName) jdk_52_method_40_code (4 : Nat) (Option.some Jvm.ClassFile.FieldType.int)).before a0 Z = true := hw _ (List.mem_of_getElem? (i := 151) rfl)
theorem tw_152 {a0 : Array Value} {Z : State} (hw : ∀ d ∈ tables_1, d.before a0 Z = true) : (Jvm.Cond.methodLink "java/lang/StringUTF16" (224 : Nat) ({ cls := "java/lang/Math", name := "max", desc := "(II)I" } : Jvm.MethodName)).before a0 Z = true := hw _ (List.mem_of_getElem? (i := 152) rfl)
theorem tw_153 {a0 : Array Value} {Z : State} (hw : ∀ d ∈ tables_1, d.before a0 Z = true) : (Jvm.Cond.methodLink "java/lang/StringUTF16" (183 : Nat) ({ cls := "java/lang/Math", name := "min", desc := "(II)I" } : Jvm.MethodName)).before a0 Z = true := hw _ (List.mem_of_getElem? (i := 153) rfl)
theorem tw_154 {a0 : Array Value} {Z : State} (hw : ∀ d ∈ tables_1, d.before a0 Z = true) : (Jvm.Cond.constant "java/lang/StringUTF16" (227 : Nat) (65536 : Int32)).before a0 Z = true := hw _ (List.mem_of_getElem? (i := 154) rfl)
theorem tw_155 {a0 : Array Value} {Z : State} (hw : ∀ d ∈ tables_1, d.before a0 Z = true) : (Jvm.Cond.methodLink "java/lang/StringUTF16" (228 : Nat) ({ cls := "java/lang/StringUTF16", name := "indexOfChar", desc := "([BIII)I" } : Jvm.MethodName)).before a0 Z = true := hw _ (List.mem_of_getElem? (i := 155) rfl)
theorem tw_156 {a0 : Array Value} {Z : State} (hw : ∀ d ∈ tables_1, d.before a0 Z = true) : (Jvm.Cond.static ({ cls := "java/lang/StringUTF16", name := "indexOfChar", desc := "([BIII)I" } : Jvm.MethodName)).before a0 Z = true := hw _ (List.mem_of_getElem? (i := 156) rfl)
theorem tw_157 {a0 : Array Value} {Z : State} (hw : ∀ d ∈ tables_1, d.before a0 Z = true) : (Jvm.Cond.code ({ cls := "java/lang/StringUTF16", name := "indexOfChar", desc := "([BIII)I" } : Jvm.MethodName) jdk_52_method_47_code (4 : Nat) (Option.some Jvm.ClassFile.FieldType.int)).before a0 Z = true := hw _ (List.mem_of_getElem? (i := 157) rfl)
theorem tw_158 {a0 : Array Value} {Z : State} (hw : ∀ d ∈ tables_1, d.before a0 Z = true) : (Jvm.Cond.methodLink "java/lang/StringUTF16" (96 : Nat) ({ cls := "java/lang/StringUTF16", name := "checkBoundsBeginEnd", desc := "(II[B)V" } : Jvm.MethodName)).before a0 Z = true := hw _ (List.mem_of_getElem? (i := 158) rfl)
theorem tw_159 {a0 : Array Value} {Z : State} (hw : ∀ d ∈ tables_1, d.before a0 Z = true) : (Jvm.Cond.static ({ cls := "java/lang/StringUTF16", name := "checkBoundsBeginEnd", desc := "(II[B)V" } : Jvm.MethodName)).before a0 Z = true := hw _ (List.mem_of_getElem? (i := 159) rfl)
theorem tw_160 {a0 : Array Value} {Z : State} (hw : ∀ d ∈ tables_1, d.before a0 Z = true) : (Jvm.Cond.code ({ cls := "java/lang/StringUTF16", name := "checkBoundsBeginEnd", desc := "(II[B)V" } : Jvm.MethodName) jdk_52_method_93_code (3 : Nat) (Option.none : Option Jvm.ClassFile.FieldType)).before a0 Z = true := hw _ (List.mem_of_getElem? (i := 160) rfl)
theorem tw_161 {a0 : Array Value} {Z : State} (hw : ∀ d ∈ tables_1, d.before a0 Z = true) : (Jvm.Cond.methodLink "java/lang/StringUTF16" (48 : Nat) ({ cls := "java/lang/StringUTF16", name := "length", desc := "([B)I" } : Jvm.MethodName)).before a0 Z = true := hw _ (List.mem_of_getElem? (i := 161) rfl)
theorem tw_162 {a0 : Array Value} {Z : State} (hw : ∀ d ∈ tables_1, d.before a0 Z = true) : (Jvm.Cond.static ({ cls := "java/lang/StringUTF16", name := "length", desc := "([B)I" } : Jvm.MethodName)).before a0 Z = true := hw _ (List.mem_of_getElem? (i := 162) rfl)
theorem tw_163 {a0 : Array Value} {Z : State} (hw : ∀ d ∈ tables_1, d.before a0 Z = true) : (Jvm.Cond.code ({ cls := "java/lang/StringUTF16", name := "length", desc := "([B)I" } : Jvm.MethodName) jdk_52_method_6_code (1 : Nat) (Option.some Jvm.ClassFile.FieldType.int)).before a0 Z = true := hw _ (List.mem_of_getElem? (i := 163) rfl)
theorem tw_164 {a0 : Array Value} {Z : State} (hw : ∀ d ∈ tables_1, d.before a0 Z = true) : (Jvm.Cond.methodLink "java/lang/StringUTF16" (241 : Nat) ({ cls := "java/lang/String", name := "checkBoundsBeginEnd", desc := "(III)V" } : Jvm.MethodName)).before a0 Z = true := hw _ (List.mem_of_getElem? (i := 164) rfl)
theorem tw_165 {a0 : Array Value} {Z : State} (hw : ∀ d ∈ tables_1, d.before a0 Z = true) : (Jvm.Cond.static ({ cls := "java/lang/String", name := "checkBoundsBeginEnd", desc := "(III)V" } : Jvm.MethodName)).before a0 Z = true := hw _ (List.mem_of_getElem? (i := 165) rfl)
theorem tw_166 {a0 : Array Value} {Z : State} (hw : ∀ d ∈ tables_1, d.before a0 Z = true) : (Jvm.Cond.code ({ cls := "java/lang/String", name := "checkBoundsBeginEnd", desc := "(III)V" } : Jvm.MethodName) jdk_42_method_158_code (3 : Nat) (Option.none : Option Jvm.ClassFile.FieldType)).before a0 Z = true := hw _ (List.mem_of_getElem? (i := 166) rfl)
theorem tw_167 {a0 : Array Value} {Z : State} (hw : ∀ d ∈ tables_1, d.before a0 Z = true) : (Jvm.Cond.fieldLink "java/lang/String" (1053 : Nat) "jdk/internal/util/Preconditions" "SIOOBE_FORMATTER" "Ljava/util/function/BiFunction;").before a0 Z = true := hw _ (List.mem_of_getElem? (i := 167) rfl)
theorem tw_168 {a0 : Array Value} {Z : State} (hw : ∀ d ∈ tables_1, d.before a0 Z = true) : (Jvm.Cond.methodLink "java/lang/String" (1062 : Nat) ({ cls := "jdk/internal/util/Preconditions", name := "checkFromToIndex", desc := "(IIILjava/util/function/BiFunction;)I" } : Jvm.MethodName)).before a0 Z = true := hw _ (List.mem_of_getElem? (i := 168) rfl)
theorem tw_169 {a0 : Array Value} {Z : State} (hw : ∀ d ∈ tables_1, d.before a0 Z = true) : (Jvm.Cond.methodLink "java/lang/StringUTF16" (244 : Nat) ({ cls := "java/lang/StringUTF16", name := "indexOfCharUnsafe", desc := "([BIII)I" } : Jvm.MethodName)).before a0 Z = true := hw _ (List.mem_of_getElem? (i := 169) rfl)
theorem tw_170 {a0 : Array Value} {Z : State} (hw : ∀ d ∈ tables_1, d.before a0 Z = true) : (Jvm.Cond.static ({ cls := "java/lang/StringUTF16", name := "indexOfCharUnsafe", desc := "([BIII)I" } : Jvm.MethodName)).before a0 Z = true := hw _ (List.mem_of_getElem? (i := 170) rfl)
theorem tw_171 {a0 : Array Value} {Z : State} (hw : ∀ d ∈ tables_1, d.before a0 Z = true) : (Jvm.Cond.code ({ cls := "java/lang/StringUTF16", name := "indexOfCharUnsafe", desc := "([BIII)I" } : Jvm.MethodName) jdk_52_method_48_code (5 : Nat) (Option.some Jvm.ClassFile.FieldType.int)).before a0 Z = true := hw _ (List.mem_of_getElem? (i := 171) rfl)
theorem tw_173 {a0 : Array Value} {Z : State} (hw : ∀ d ∈ tables_1, d.before a0 Z = true) : (Jvm.Cond.soleField "java/lang/String" "value").before a0 Z = true := hw _ (List.mem_of_getElem? (i := 173) rfl)
theorem tw_174 {a0 : Array Value} {Z : State} (hw : ∀ d ∈ tables_1, d.before a0 Z = true) : (Jvm.Cond.soleField "java/lang/String" "coder").before a0 Z = true := hw _ (List.mem_of_getElem? (i := 174) rfl)
theorem tw_175 {a0 : Array Value} {Z : State} (hw : ∀ d ∈ tables_1, d.before a0 Z = true) : (Jvm.Cond.constant "com/example/table_to_topic/tabletotopic/TextCheckColumnPinLaw" (38 : Nat) (57343 : Int32)).before a0 Z = true := hw _ (List.mem_of_getElem? (i := 175) rfl)
theorem pd_0 : parseMethodDescriptor "(I)I" = some ⟨[.int], some .int⟩ := by decide +kernel
theorem pd_1 : parseMethodDescriptor "(I)[B" = some ⟨[.int], some (.array .byte)⟩ := by decide +kernel
theorem pd_2 : parseMethodDescriptor "([BII)V" = some ⟨[(.array .byte), .int, .int], none⟩ := by decide +kernel
theorem pd_3 : parseMethodDescriptor "([CI[BII)I" = some ⟨[(.array .char), .int, (.array .byte), .int, .int], some .int⟩ := by decide +kernel
theorem pd_4 : parseMethodDescriptor "([CII)[B" = some ⟨[(.array .char), .int, .int], some (.array .byte)⟩ := by decide +kernel
theorem pd_5 : parseMethodDescriptor "([BI)C" = some ⟨[(.array .byte), .int], some .char⟩ := by decide +kernel
theorem pd_6 : parseMethodDescriptor "([BI)B" = some ⟨[(.array .byte), .int], some .byte⟩ := by decide +kernel
theorem pd_7 : parseMethodDescriptor "([CIILjava/lang/Void;)V" = some ⟨[(.array .char), .int, .int, (.object "java/lang/Void")], none⟩ := by decide +kernel
theorem pd_8 : parseMethodDescriptor "()B" = some ⟨[], some .byte⟩ := by decide +kernel
theorem pd_9 : parseMethodDescriptor "(C)Z" = some ⟨[.char], some .boolean⟩ := by decide +kernel
theorem pd_10 : parseMethodDescriptor "(C)[B" = some ⟨[.char], some (.array .byte)⟩ := by decide +kernel
theorem pd_11 : parseMethodDescriptor "([BB)V" = some ⟨[(.array .byte), .byte], none⟩ := by decide +kernel
theorem pd_12 : parseMethodDescriptor "(I)Z" = some ⟨[.int], some .boolean⟩ := by decide +kernel
theorem pd_13 : parseMethodDescriptor "(II)I" = some ⟨[.int, .int], some .int⟩ := by decide +kernel
theorem pd_14 : parseMethodDescriptor "([BIII)I" = some ⟨[(.array .byte), .int, .int, .int], some .int⟩ := by decide +kernel
theorem pd_15 : parseMethodDescriptor "(IIILjava/util/function/BiFunction;)I" = some ⟨[.int, .int, .int, (.object "java/util/function/BiFunction")], some .int⟩ := by decide +kernel
theorem pd_16 : parseMethodDescriptor "([B)I" = some ⟨[(.array .byte)], some .int⟩ := by decide +kernel
theorem pd_17 : parseMethodDescriptor "(III)V" = some ⟨[.int, .int, .int], none⟩ := by decide +kernel
theorem pd_18 : parseMethodDescriptor "(II[B)V" = some ⟨[.int, .int, (.array .byte)], none⟩ := by decide +kernel
theorem pd_19 : parseMethodDescriptor "()Z" = some ⟨[], some .boolean⟩ := by decide +kernel
theorem pd_20 : parseMethodDescriptor "()I" = some ⟨[], some .int⟩ := by decide +kernel
theorem pd_21 : parseMethodDescriptor "([BIIZ)I" = some ⟨[(.array .byte), .int, .int, .boolean], some .int⟩ := by decide +kernel
theorem pd_22 : parseMethodDescriptor "(III)I" = some ⟨[.int, .int, .int], some .int⟩ := by decide +kernel
theorem pd_23 : parseMethodDescriptor "([BII)I" = some ⟨[(.array .byte), .int, .int], some .int⟩ := by decide +kernel
theorem pd_24 : parseMethodDescriptor "([C)V" = some ⟨[(.array .char)], none⟩ := by decide +kernel
theorem pd_25 : parseMethodDescriptor "(C)Ljava/lang/String;" = some ⟨[.char], some (.object "java/lang/String")⟩ := by decide +kernel
theorem pd_26 : parseMethodDescriptor "([CIIZ)I" = some ⟨[(.array .char), .int, .int, .boolean], some .int⟩ := by decide +kernel
theorem pd_27 : parseMethodDescriptor "([CI)Ljava/lang/String;" = some ⟨[(.array .char), .int], some (.object "java/lang/String")⟩ := by decide +kernel
theorem pd_28 : parseMethodDescriptor "(Ljava/lang/String;Ljava/lang/String;Ljava/lang/String;I)V" = some ⟨[(.object "java/lang/String"), (.object "java/lang/String"), (.object "java/lang/String"), .int], none⟩ := by decide +kernel
theorem own_met_1_0 {K : own_Cx} {M : own_Mi} {Q : own_Q} {sf : List Addr} {h : Heap} {v0 : Value} (hpn : plainFor M.y = true) (hm : M.mx = 1) (c0 : v0.category = 1) (k : own_WP K M Q 0 [.val v0] [] sf h 0 0) : own_Met K M #[v0] sf h Q := own_met hpn (fun m => by rw [hm]; simp [entryFrame, mkF, argsToLocals, c0, List.replicate, Array.replicate]) k
theorem own_met_2_0 {K : own_Cx} {M : own_Mi} {Q : own_Q} {sf : List Addr} {h : Heap} {v0 v1 : Value} (hpn : plainFor M.y = true) (hm : M.mx = 2) (c0 : v0.category = 1) (c1 : v1.category = 1) (k : own_WP K M Q 0 [.val v0, .val v1] [] sf h 0 0) : own_Met K M #[v0, v1] sf h Q := own_met hpn (fun m => by rw [hm]; simp [entryFrame, mkF, argsToLocals, c0, c1, List.replicate, Array.replicate]) k
theorem own_met_3_0 {K : own_Cx} {M : own_Mi} {Q : own_Q} {sf : List Addr} {h : Heap} {v0 v1 v2 : Value} (hpn : plainFor M.y = true) (hm : M.mx = 3) (c0 : v0.category = 1) (c1 : v1.category = 1) (c2 : v2.category = 1) (k : own_WP K M Q 0 [.val v0, .val v1, .val v2] [] sf h 0 0) : own_Met K M #[v0, v1, v2] sf h Q := own_met hpn (fun m => by rw [hm]; simp [entryFrame, mkF, argsToLocals, c0, c1, c2, List.replicate, Array.replicate]) k
theorem own_met_3_2 {K : own_Cx} {M : own_Mi} {Q : own_Q} {sf : List Addr} {h : Heap} {v0 v1 v2 : Value} (hpn : plainFor M.y = true) (hm : M.mx = 5) (c0 : v0.category = 1) (c1 : v1.category = 1) (c2 : v2.category = 1) (k : own_WP K M Q 0 [.val v0, .val v1, .val v2, .unset, .unset] [] sf h 0 0) : own_Met K M #[v0, v1, v2] sf h Q := own_met hpn (fun m => by rw [hm]; simp [entryFrame, mkF, argsToLocals, c0, c1, c2, List.replicate, Array.replicate]) k
theorem own_met_3_3 {K : own_Cx} {M : own_Mi} {Q : own_Q} {sf : List Addr} {h : Heap} {v0 v1 v2 : Value} (hpn : plainFor M.y = true) (hm : M.mx = 6) (c0 : v0.category = 1) (c1 : v1.category = 1) (c2 : v2.category = 1) (k : own_WP K M Q 0 [.val v0, .val v1, .val v2, .unset, .unset, .unset] [] sf h 0 0) : own_Met K M #[v0, v1, v2] sf h Q := own_met hpn (fun m => by rw [hm]; simp [entryFrame, mkF, argsToLocals, c0, c1, c2, List.replicate, Array.replicate]) k
theorem own_met_4_0 {K : own_Cx} {M : own_Mi} {Q : own_Q} {sf : List Addr} {h : Heap} {v0 v1 v2 v3 : Value} (hpn : plainFor M.y = true) (hm : M.mx = 4) (c0 : v0.category = 1) (c1 : v1.category = 1) (c2 : v2.category = 1) (c3 : v3.category = 1) (k : own_WP K M Q 0 [.val v0, .val v1, .val v2, .val v3] [] sf h 0 0) : own_Met K M #[v0, v1, v2, v3] sf h Q := own_met hpn (fun m => by rw [hm]; simp [entryFrame, mkF, argsToLocals, c0, c1, c2, c3, List.replicate, Array.replicate]) k
theorem own_met_4_1 {K : own_Cx} {M : own_Mi} {Q : own_Q} {sf : List Addr} {h : Heap} {v0 v1 v2 v3 : Value} (hpn : plainFor M.y = true) (hm : M.mx = 5) (c0 : v0.category = 1) (c1 : v1.category = 1) (c2 : v2.category = 1) (c3 : v3.category = 1) (k : own_WP K M Q 0 [.val v0, .val v1, .val v2, .val v3, .unset] [] sf h 0 0) : own_Met K M #[v0, v1, v2, v3] sf h Q := own_met hpn (fun m => by rw [hm]; simp [entryFrame, mkF, argsToLocals, c0, c1, c2, c3, List.replicate, Array.replicate]) k
theorem own_met_4_2 {K : own_Cx} {M : own_Mi} {Q : own_Q} {sf : List Addr} {h : Heap} {v0 v1 v2 v3 : Value} (hpn : plainFor M.y = true) (hm : M.mx = 6) (c0 : v0.category = 1) (c1 : v1.category = 1) (c2 : v2.category = 1) (c3 : v3.category = 1) (k : own_WP K M Q 0 [.val v0, .val v1, .val v2, .val v3, .unset, .unset] [] sf h 0 0) : own_Met K M #[v0, v1, v2, v3] sf h Q := own_met hpn (fun m => by rw [hm]; simp [entryFrame, mkF, argsToLocals, c0, c1, c2, c3, List.replicate, Array.replicate]) k
theorem own_met_5_1 {K : own_Cx} {M : own_Mi} {Q : own_Q} {sf : List Addr} {h : Heap} {v0 v1 v2 v3 v4 : Value} (hpn : plainFor M.y = true) (hm : M.mx = 6) (c0 : v0.category = 1) (c1 : v1.category = 1) (c2 : v2.category = 1) (c3 : v3.category = 1) (c4 : v4.category = 1) (k : own_WP K M Q 0 [.val v0, .val v1, .val v2, .val v3, .val v4, .unset] [] sf h 0 0) : own_Met K M #[v0, v1, v2, v3, v4] sf h Q := own_met hpn (fun m => by rw [hm]; simp [entryFrame, mkF, argsToLocals, c0, c1, c2, c3, c4, List.replicate, Array.replicate]) k
theorem own_met_5_2 {K : own_Cx} {M : own_Mi} {Q : own_Q} {sf : List Addr} {h : Heap} {v0 v1 v2 v3 v4 : Value} (hpn : plainFor M.y = true) (hm : M.mx = 7) (c0 : v0.category = 1) (c1 : v1.category = 1) (c2 : v2.category = 1) (c3 : v3.category = 1) (c4 : v4.category = 1) (k : own_WP K M Q 0 [.val v0, .val v1, .val v2, .val v3, .val v4, .unset, .unset] [] sf h 0 0) : own_Met K M #[v0, v1, v2, v3, v4] sf h Q := own_met hpn (fun m => by rw [hm]; simp [entryFrame, mkF, argsToLocals, c0, c1, c2, c3, c4, List.replicate, Array.replicate]) k
theorem own_met_6_7 {K : own_Cx} {M : own_Mi} {Q : own_Q} {sf : List Addr} {h : Heap} {v0 v1 v2 v3 v4 v5 : Value} (hpn : plainFor M.y = true) (hm : M.mx = 13) (c0 : v0.category = 1) (c1 : v1.category = 1) (c2 : v2.category = 1) (c3 : v3.category = 1) (c4 : v4.category = 1) (c5 : v5.category = 1) (k : own_WP K M Q 0 [.val v0, .val v1, .val v2, .val v3, .val v4, .val v5, .unset, .unset, .unset, .unset, .unset, .unset, .unset] [] sf h 0 0) : own_Met K M #[v0, v1, v2, v3, v4, v5] sf h Q := own_met hpn (fun m => by rw [hm]; simp [entryFrame, mkF, argsToLocals, c0, c1, c2, c3, c4, c5, List.replicate, Array.replicate]) k
/-! STRINGS: chars as ints of 0 to 65535; what a String's bytes spell -/
abbrev own_Chs (cs : List Int32) : Prop := ∀ c ∈ cs, 0 ≤ c.toInt ∧ c.toInt < 65536
def own_lat (cs : List Int32) : Bool := cs.all fun c => decide (c.toInt < 256)
def own_bt (c : Int32) : Int32 := c.toInt8.toInt32
def own_hb (c : Int32) : Int32 := (c >>> ((8 : Int32) &&& 31)).toInt8.toInt32
def own_two (cs : List Int32) : List Int32 := cs.flatMap fun c => [own_bt c, own_hb c]
def own_enc (cs : List Int32) : List Int32 := if own_lat cs then cs.map own_bt else own_two cs
def own_cod (cs : List Int32) : Int32 := if own_lat cs then 0 else 1
abbrev own_ints (xs : List Int32) : List Value := xs.map Value.int
def own_Str (Z : State) (h : Heap) (a : Addr) (cs : List Int32) : Prop := Exa Z h a "java/lang/String" ∧ own_Chs cs ∧ cs.length < 2 ^ 30 ∧ ∃ b : Addr, Fld Z h a "java/lang/String" "value" "[B" (.ref b) ∧ Fld Z h a "java/lang/String" "coder" "B" (.int (own_cod cs)) ∧ own_Ary Z h b .byte (own_ints (own_enc cs))
theorem own_Str.ext {Z : State} {h h' : Heap} {a : Addr} {cs : List Int32} (F : own_Str Z h a cs) (E : Ext h h') : own_Str Z h' a cs := by
  obtain ⟨h1, h2, h3, b, h4, h5, h6⟩ := F
  exact ⟨h1.ext E, h2, h3, b, h4.ext E, h5.ext E, h6.ext E⟩
theorem own_Str.keepO {Z : State} {h h' : Heap} {a t : Addr} {cs : List Int32} {C : String} {kk : Nat} {a0 : Array Value} (F : own_Str Z h a cs) (k : Keep h h' [t]) (E : Exa Z h t C) (hC : C ≠ "java/lang/String") (wi : (Jvm.Cond.instantiable C kk).before a0 Z = true) : own_Str Z h' a cs := by
  obtain ⟨h1, h2, h3, b, h4, h5, h6⟩ := F
  have n1 : a ∉ [t] := ninS (ne_exa h1 E (Ne.symm hC)) nin0
  have n2 : b ∉ [t] := ninS (fun q => by obtain ⟨c, A, -⟩ := h6; exact ne_arr E wi A q.symm) nin0
  exact ⟨h1.keep k, h2, h3, b, h4.keep k n1, h5.keep k n1, h6.keep k n2⟩
theorem own_Str.lt {Z : State} {h : Heap} {a : Addr} {cs : List Int32} (F : own_Str Z h a cs) : a < h.size := F.1.lt
theorem own_ext_keep {h0 h h' : Heap} {ws : List Addr} (E : Ext h0 h) (k : Keep h h' ws) (q : ∀ x ∈ ws, h0.size ≤ x) : Ext h0 h' :=
  ⟨Nat.le_trans E.1 k.1, fun x c z => k.2.1 x c (E.2 x c z) fun m => by
    have := q x m
    have := (Array.getElem?_eq_some_iff.mp z).1
    omega⟩
theorem own_lit (n : Nat) (q : n < 2 ^ 31) : (n.toInt32).toInt = n := Int32.toInt_ofNat_small q
theorem own_add {x y : Int32} {a b : Int} (hx : x.toInt = a) (hy : y.toInt = b) (h1 : -2147483648 ≤ a + b) (h2 : a + b < 2147483648) : (x + y).toInt = a + b := by
  have := c_iadd x y
  have := rng32 (x + y)
  omega
theorem own_sub {x y : Int32} {a b : Int} (hx : x.toInt = a) (hy : y.toInt = b) (h1 : -2147483648 ≤ a - b) (h2 : a - b < 2147483648) : (x - y).toInt = a - b := by
  have := c_isub x y
  have := rng32 (x - y)
  omega
theorem own_setmid {α : Type} (L : List α) (z v : α) (k : Nat) : (L ++ List.replicate (k + 1) z).set L.length v = (L ++ [v]) ++ List.replicate k z := by
  simp [List.replicate_succ]
theorem own_bt_nar (c : Int32) : nar .byte (c.toInt8.toInt32) = own_bt c := by
  show (c.toInt8.toInt32).toInt8.toInt32 = c.toInt8.toInt32
  simp
theorem own_lat_get {cs : List Int32} (q : own_lat cs = true) {i : Nat} {c : Int32} (hc : cs[i]? = some c) : c.toInt < 256 := by
  have := List.all_eq_true.mp q c (List.mem_of_getElem? hc)
  simpa using this
theorem own_lat_snoc {cs : List Int32} {i : Nat} {c : Int32} (hc : cs[i]? = some c) (q : own_lat (cs.take i) = true) (hl : c.toInt < 256) : own_lat (cs.take (i + 1)) = true := by
  have e : cs.take (i + 1) = cs.take i ++ [c] := by rw [List.take_add_one, hc]; rfl
  rw [e]
  simp only [own_lat, List.all_append, Bool.and_eq_true] at q ⊢
  exact ⟨q, by simp [hl]⟩
theorem own_lat_no {cs : List Int32} {i : Nat} {c : Int32} (hc : cs[i]? = some c) (hl : ¬ c.toInt < 256) : own_lat cs = false := by
  cases q : own_lat cs
  · rfl
  · exact absurd (own_lat_get q hc) hl
theorem own_cod_byte (cs : List Int32) : narrow .byte (.int (own_cod cs)) = .int (own_cod cs) ∧ fits .byte (.int (own_cod cs)) = true := by
  unfold own_cod; split <;> exact ⟨rfl, rfl⟩
theorem own_enc_lat {cs : List Int32} (q : own_lat cs = true) : own_enc cs = cs.map own_bt ∧ own_cod cs = 0 := by simp [own_enc, own_cod, q]
theorem own_enc_utf {cs : List Int32} (q : own_lat cs = false) : own_enc cs = own_two cs ∧ own_cod cs = 1 := by simp [own_enc, own_cod, q]
theorem own_two_len (cs : List Int32) : (own_two cs).length = 2 * cs.length := by
  induction cs with
  | nil => rfl
  | cons c r ih => simp [own_two] at ih ⊢; omega
theorem own_ushr31 {x : Int32} (q : x.toInt < 0) : XT.ushr x 31 = 1 := by
  apply Int32.toInt_inj.mp
  have := c_iushr x 31 31 (by decide) (by decide)
  have r := rng32 x
  have e : (XT.ushr x 31).toInt = (x.toInt % 4294967296) / (2 ^ 31 : Nat) := this
  rw [e]
  have : (1 : Int32).toInt = 1 := rfl
  omega
theorem own_shl1 {x : Int32} {N : Nat} (hx : x.toInt = N) (hN : N < 2 ^ 29) : (x <<< ((1 : Int32) &&& 31)).toInt = ((2 * N : Nat) : Int) := by
  have := c_ishl x 1 1 (by decide)
  have := rng32 (x <<< ((1 : Int32) &&& 31))
  omega
theorem own_shr0 (x : Int32) : x >>> ((0 : Int32) &&& 31) = x := by
  apply Int32.toInt_inj.mp
  have := c_ishr x 0 0 (by decide)
  rw [this]; simp
theorem own_shl0 (x : Int32) : x <<< ((0 : Int32) &&& 31) = x := by
  apply Int32.toInt_inj.mp
  have := c_ishl x 0 0 (by decide)
  have := rng32 (x <<< ((0 : Int32) &&& 31))
  have := rng32 x
  omega
theorem own_i2c_id {x : Int32} (h0 : 0 ≤ x.toInt) (h1 : x.toInt < 65536) : x.toUInt32.toUInt16.toUInt32.toInt32 = x := by
  apply Int32.toInt_inj.mp
  have := c_i2c x
  omega
theorem own_join {c : Int32} (h0 : 0 ≤ c.toInt) (h1 : c.toInt < 65536) : ((own_bt c &&& 255) <<< ((0 : Int32) &&& 31)) ||| ((own_hb c &&& 255) <<< ((8 : Int32) &&& 31)) = c := by
  rw [own_shl0]
  have b1 := c_mask (own_bt c) 255 8 (by decide) (by decide)
  have b2 := (c_i2b c).1
  have s1 := c_ishr c 8 8 (by decide)
  have b3 := c_mask (own_hb c) 255 8 (by decide) (by decide)
  have b4 := (c_i2b (c >>> ((8 : Int32) &&& 31))).1
  have s2 := c_ishl (own_hb c &&& 255) 8 8 (by decide)
  have r2 := rng32 ((own_hb c &&& 255) <<< ((8 : Int32) &&& 31))
  have e1 : (own_bt c &&& 255).toInt = c.toInt % 256 := by
    have : (own_bt c).toInt = c.toInt8.toInt32.toInt := rfl
    omega
  have e2 : (own_hb c &&& 255).toInt = c.toInt / 256 := by
    have : (own_hb c).toInt = (c >>> ((8 : Int32) &&& 31)).toInt8.toInt32.toInt := rfl
    omega
  have e3 : ((own_hb c &&& 255) <<< ((8 : Int32) &&& 31)).toInt = c.toInt / 256 * 256 := by omega
  have o := c_or ((own_hb c &&& 255) <<< ((8 : Int32) &&& 31)) (own_bt c &&& 255) 8 (by decide) 256 (by decide) (by omega) (by omega) (by omega)
  rw [Int32.or_comm] at o
  apply Int32.toInt_inj.mp
  have r := rng32 ((own_bt c &&& 255) ||| (own_hb c &&& 255) <<< ((8 : Int32) &&& 31))
  omega
theorem own_two_get {cs : List Int32} : ∀ {i : Nat} {c : Int32}, cs[i]? = some c → (own_two cs)[2 * i]? = some (own_bt c) ∧ (own_two cs)[2 * i + 1]? = some (own_hb c) := by
  induction cs with
  | nil => intro i c hc; simp at hc
  | cons d r ih =>
    intro i c hc
    have e : own_two (d :: r) = own_bt d :: own_hb d :: own_two r := rfl
    cases i with
    | zero => simp at hc; subst hc; rw [e]; exact ⟨rfl, rfl⟩
    | succ i =>
      simp at hc
      have := ih hc
      rw [e, show 2 * (i + 1) = 2 * i + 2 by omega]
      exact ⟨by simpa using this.1, by simpa using this.2⟩
theorem own_settwo {α : Type} (L : List α) (z x y : α) (k : Nat) : ((L ++ List.replicate (2 * (k + 1)) z).set L.length x).set (L.length + 1) y = (L ++ [x, y]) ++ List.replicate (2 * k) z := by
  have e : List.replicate (2 * (k + 1)) z = z :: z :: List.replicate (2 * k) z := by
    rw [show 2 * (k + 1) = 2 * k + 1 + 1 by omega, List.replicate_succ, List.replicate_succ]
  rw [e]
  induction L with
  | nil => rfl
  | cons a r ih => simpa using ih
theorem own_two_snoc {cs : List Int32} {i : Nat} {c : Int32} (hc : cs[i]? = some c) : own_two (cs.take (i + 1)) = own_two (cs.take i) ++ [own_bt c, own_hb c] := by
  have e : cs.take (i + 1) = cs.take i ++ [c] := by rw [List.take_add_one, hc]; rfl
  rw [e]; simp [own_two]
theorem d_cp5_0 : decode jdk_52_method_21_code 0 = .ok (.iconst 0, 1) := by decide +kernel
theorem d_cp5_1 : decode jdk_52_method_21_code 1 = .ok (.istore 5, 2) := by decide +kernel
theorem d_cp5_3 : decode jdk_52_method_21_code 3 = .ok (.iload 5, 2) := by decide +kernel
theorem d_cp5_5 : decode jdk_52_method_21_code 5 = .ok (.iload 4, 2) := by decide +kernel
theorem d_cp5_7 : decode jdk_52_method_21_code 7 = .ok (.if_icmp .ge 37, 3) := by decide +kernel
theorem d_cp5_10 : decode jdk_52_method_21_code 10 = .ok (.aload_n 0, 1) := by decide +kernel
theorem d_cp5_11 : decode jdk_52_method_21_code 11 = .ok (.iload_n 1, 1) := by decide +kernel
theorem d_cp5_12 : decode jdk_52_method_21_code 12 = .ok (.caload, 1) := by decide +kernel
theorem d_cp5_13 : decode jdk_52_method_21_code 13 = .ok (.istore 6, 2) := by decide +kernel
theorem d_cp5_15 : decode jdk_52_method_21_code 15 = .ok (.iload 6, 2) := by decide +kernel
theorem d_cp5_17 : decode jdk_52_method_21_code 17 = .ok (.sipush 255, 3) := by decide +kernel
theorem d_cp5_20 : decode jdk_52_method_21_code 20 = .ok (.if_icmp .le 6, 3) := by decide +kernel
theorem d_cp5_23 : decode jdk_52_method_21_code 23 = .ok (.iload 5, 2) := by decide +kernel
theorem d_cp5_25 : decode jdk_52_method_21_code 25 = .ok (.ireturn, 1) := by decide +kernel
theorem d_cp5_26 : decode jdk_52_method_21_code 26 = .ok (.aload_n 2, 1) := by decide +kernel
theorem d_cp5_27 : decode jdk_52_method_21_code 27 = .ok (.iload_n 3, 1) := by decide +kernel
theorem d_cp5_28 : decode jdk_52_method_21_code 28 = .ok (.iload 6, 2) := by decide +kernel
theorem d_cp5_30 : decode jdk_52_method_21_code 30 = .ok (.i2b, 1) := by decide +kernel
theorem d_cp5_31 : decode jdk_52_method_21_code 31 = .ok (.bastore, 1) := by decide +kernel
theorem d_cp5_32 : decode jdk_52_method_21_code 32 = .ok (.iinc 1 1, 3) := by decide +kernel
theorem d_cp5_35 : decode jdk_52_method_21_code 35 = .ok (.iinc 3 1, 3) := by decide +kernel
theorem d_cp5_38 : decode jdk_52_method_21_code 38 = .ok (.iinc 5 1, 3) := by decide +kernel
theorem d_cp5_41 : decode jdk_52_method_21_code 41 = .ok (.goto (-38), 3) := by decide +kernel
theorem d_cp5_44 : decode jdk_52_method_21_code 44 = .ok (.iload 4, 2) := by decide +kernel
theorem d_cp5_46 : decode jdk_52_method_21_code 46 = .ok (.ireturn, 1) := by decide +kernel
abbrev M_cp5 : own_Mi := ((⟨"java/lang/StringUTF16", "compress", "([CI[BII)I"⟩ : MethodName), jdk_52_method_21_code, 7, (Option.some FieldType.int), ({ frames := 0, cells := 0, slots := 0, locals := 0 } : Room))
theorem pn_cp5 : plainFor (own_Mi.y M_cp5) = true := plainFor_of_name (by first | (simp [plainName, overriddenIn]; done) | decide +kernel)
def Q_cp5 (K : own_Cx) (b : Addr) (n : Int32) (cs : List Int32) (h : Heap) : own_Q := own_ret fun w h' _ => ∃ r : Int32, w = .int r ∧ Keep h h' [b] ∧ ((own_lat cs = true ∧ r = n ∧ own_Ary K.Z h' b .byte (own_ints (cs.map own_bt))) ∨ (own_lat cs = false ∧ ∃ (i : Nat) (c : Int32), r.toInt = i ∧ cs[i]? = some c ∧ 256 ≤ c.toInt))
set_option maxRecDepth 65536 in
set_option maxHeartbeats 40000000 in
theorem c_cp5 (K : own_Cx) (a0 : Array Value) (hw : ∀ d ∈ tables_1, d.before a0 K.Z = true) (a b : Addr) (n : Int32) (cs : List Int32) (h : Heap) (hn : n.toInt = cs.length) (hcs : own_Chs cs) (A : own_Ary K.Z h a .char (own_ints cs)) (Bq : own_Ary K.Z h b .byte (List.replicate cs.length (.int 0))) (hab : a ≠ b) :
    own_Met K M_cp5 #[.ref a, .int 0, .ref b, .int 0, .int n] [b] h (Q_cp5 K b n cs h) := by
  have hlen := rng32 n
  refine own_met_5_2 (M := M_cp5) pn_cp5 rfl (by first | rfl | exact own_cat (by assumption)) (by first | rfl | exact own_cat (by assumption)) (by first | rfl | exact own_cat (by assumption)) (by first | rfl | exact own_cat (by assumption)) (by first | rfl | exact own_cat (by assumption)) ?_
  refine own_iconst (v := (0 : Int32)) (pc' := 1) rfl d_cp5_0 rfl ?_
  refine own_istore_5 (pc' := 3) rfl d_cp5_1 (by first | exact One.u | exact One.val rfl | assumption | exact One.val (by assumption)) ?_
  suffices key : ∀ (k i : Nat) (j : Int32) (h1 : Heap) (o : Slot), i + k = cs.length → j.toInt = i → One o → Keep h h1 [b] → own_lat (cs.take i) = true → own_Ary K.Z h1 b .byte (own_ints ((cs.take i).map own_bt) ++ List.replicate k (.int 0)) → own_WP K M_cp5 (Q_cp5 K b n cs h) 3 [.val (.ref a), .val (.int j), .val (.ref b), .val (.int j), .val (.int n), .val (.int j), o] [] [b] h1 0 0 from
    key cs.length 0 0 h .unset (by simp) rfl One.u (Keep.refl _ _) (by simp [own_lat]) (by simpa using Bq)
  intro k
  induction k with
  | zero =>
    intro i j h1 o hik hj ho hk hl hA
    refine own_iload (pc' := 5) rfl d_cp5_3 rfl ?_
    refine own_iload (pc' := 7) rfl d_cp5_5 rfl ?_
    refine own_icmpge (pcT := 44) (pcF := 10) d_cp5_7 (by decide) (by decide) rfl (fun q => ?_) (fun q => ?_)
    · skip
      refine own_iload (pc' := 46) rfl d_cp5_44 rfl ?_
      refine own_ireturn rfl d_cp5_46 rfl rfl ?_
      have e : cs.take i = cs := List.take_of_length_le (by omega)
      rw [e] at hl hA
      exact ⟨n, rfl, hk, Or.inl ⟨hl, rfl, by simpa using hA⟩⟩
    · rw [Int32.lt_iff_toInt_lt] at q
      omega
  | succ k ih =>
    intro i j h1 o hik hj ho hk hl hA
    have hi : i < cs.length := by omega
    obtain ⟨c, hc⟩ : ∃ c, cs[i]? = some c := ⟨cs[i], by simp [hi]⟩
    have hcr := hcs c (List.mem_of_getElem? hc)
    refine own_iload (pc' := 5) rfl d_cp5_3 rfl ?_
    refine own_iload (pc' := 7) rfl d_cp5_5 rfl ?_
    refine own_icmpge (pcT := 44) (pcF := 10) d_cp5_7 (by decide) (by decide) rfl (fun q => ?_) (fun q => ?_)
    · exact absurd (by rw [Int32.lt_iff_toInt_lt]; omega) q
    · skip
      refine own_aload_n (pc' := 11) rfl d_cp5_10 rfl (by first | rfl | assumption) ?_
      refine own_iload_n (pc' := 12) rfl d_cp5_11 rfl ?_
      refine own_caload (pc' := 13) rfl d_cp5_12 (A.keep hk (ninS hab nin0)) (i := i) hj (by first | exact own_ints_get hc | exact own_ints_getM hc) ?_
      refine own_istore_6 (pc' := 15) rfl d_cp5_13 (by first | exact One.u | exact One.val rfl | assumption | exact One.val (by assumption)) ?_
      refine own_iload (pc' := 17) rfl d_cp5_15 rfl ?_
      refine own_sipush (v := (255 : Int32)) (pc' := 20) rfl d_cp5_17 rfl ?_
      refine own_icmple (pcT := 26) (pcF := 23) d_cp5_20 (by decide) (by decide) rfl (fun q2 => ?_) (fun q2 => ?_)
      · have hc2 : c.toInt < 256 := by
          rw [Int32.lt_iff_toInt_lt] at q2
          have : (255 : Int32).toInt = 255 := rfl
          omega
        refine own_aload_n (pc' := 27) rfl d_cp5_26 rfl (by first | rfl | assumption) ?_
        refine own_iload_n (pc' := 28) rfl d_cp5_27 rfl ?_
        refine own_iload (pc' := 30) rfl d_cp5_28 rfl ?_
        refine own_i2b (pc' := 31) rfl d_cp5_30 ?_
        refine own_bastore (pc' := 32) rfl d_cp5_31 hA (i := i) hj (by simp; omega) (own_bt_nar c) (by simp) ?_
        intro h2 k2 hA2
        refine own_iinc_1 (z := (1 : Int32)) (pc' := 35) rfl d_cp5_32 rfl ?_
        refine own_iinc_3 (z := (1 : Int32)) (pc' := 38) rfl d_cp5_35 rfl ?_
        refine own_iinc_5 (z := (1 : Int32)) (pc' := 41) rfl d_cp5_38 rfl ?_
        refine own_goto (pc' := 3) d_cp5_41 (by decide) (by decide) ?_
        have e1 : i = (own_ints ((cs.take i).map own_bt)).length := by simp; omega
        have e2 : own_ints ((cs.take (i + 1)).map own_bt) = own_ints ((cs.take i).map own_bt) ++ [.int (own_bt c)] := by
          have e : cs.take (i + 1) = cs.take i ++ [c] := by rw [List.take_add_one, hc]; rfl
          rw [e]; simp [own_ints]
        refine ih (i + 1) (j + 1) h2 _ (by omega) (by rw [own_add hj (by rfl : (1 : Int32).toInt = 1)] <;> omega) (One.val rfl) (hk.trans k2 (fun x hx => Or.inl hx)) (own_lat_snoc hc hl hc2) ?_
        rw [e2, ← own_setmid, ← e1]
        exact hA2
      · skip
        refine own_iload (pc' := 25) rfl d_cp5_23 rfl ?_
        refine own_ireturn rfl d_cp5_25 rfl rfl ?_
        have hc2 : 256 ≤ c.toInt := by
          rw [Int32.lt_iff_toInt_lt] at q2
          have : (255 : Int32).toInt = 255 := rfl
          omega
        exact ⟨j, rfl, hk, Or.inr ⟨own_lat_no hc (by omega), i, c, hj, hc, hc2⟩⟩
theorem d_cfa_0 : decode jdk_52_method_15_code 0 = .ok (.iload_n 1, 1) := by decide +kernel
theorem d_cfa_1 : decode jdk_52_method_15_code 1 = .ok (.aload_n 0, 1) := by decide +kernel
theorem d_cfa_2 : decode jdk_52_method_15_code 2 = .ok (.arraylength, 1) := by decide +kernel
theorem d_cfa_3 : decode jdk_52_method_15_code 3 = .ok (.isub, 1) := by decide +kernel
theorem d_cfa_4 : decode jdk_52_method_15_code 4 = .ok (.bipush 31, 2) := by decide +kernel
theorem d_cfa_6 : decode jdk_52_method_15_code 6 = .ok (.iushr, 1) := by decide +kernel
theorem d_cfa_7 : decode jdk_52_method_15_code 7 = .ok (.i2b, 1) := by decide +kernel
theorem d_cfa_8 : decode jdk_52_method_15_code 8 = .ok (.ireturn, 1) := by decide +kernel
abbrev M_cfa : own_Mi := ((⟨"java/lang/StringUTF16", "coderFromArrayLen", "([BI)B"⟩ : MethodName), jdk_52_method_15_code, 2, (Option.some FieldType.byte), ({ frames := 0, cells := 0, slots := 0, locals := 0 } : Room))
theorem pn_cfa : plainFor (own_Mi.y M_cfa) = true := plainFor_of_name (by first | (simp [plainName, overriddenIn]; done) | decide +kernel)
set_option maxRecDepth 65536 in
set_option maxHeartbeats 40000000 in
theorem c_cfa (K : own_Cx) (a0 : Array Value) (hw : ∀ d ∈ tables_1, d.before a0 K.Z = true) (b : Addr) (n : Int32) (cs : List Int32) (h : Heap) (hn : n.toInt = cs.length) (hl : cs.length < 2 ^ 30) (hp : 0 < cs.length) (Bq : own_Ary K.Z h b .byte (own_ints (own_enc cs))) :
    own_Met K M_cfa #[.ref b, .int n] [] h (own_ret fun w h' _ => w = .int (own_cod cs) ∧ h' = h) := by
  cases ql : own_lat cs
  · have hz : ((2 * cs.length).toInt32).toInt = ((2 * cs.length : Nat) : Int) := own_lit _ (by omega)
    refine own_met_2_0 (M := M_cfa) pn_cfa rfl (by first | rfl | exact own_cat (by assumption)) (by first | rfl | exact own_cat (by assumption)) ?_
    refine own_iload_n (pc' := 1) rfl d_cfa_0 rfl ?_
    refine own_aload_n (pc' := 2) rfl d_cfa_1 rfl (by first | rfl | assumption) ?_
    refine own_arrlen (z := (2 * cs.length).toInt32) (pc' := 3) rfl d_cfa_2 Bq (by rw [hz]; simp [(own_enc_utf ql).1, own_two_len]) ?_
    refine own_isub (pc' := 4) rfl d_cfa_3 ?_
    refine own_bipush (v := (31 : Int32)) (pc' := 6) rfl d_cfa_4 rfl ?_
    refine own_iushr (pc' := 7) rfl d_cfa_6 ?_
    refine own_i2b (pc' := 8) rfl d_cfa_7 ?_
    have e : XT.ushr (n - (2 * cs.length).toInt32) 31 = 1 := own_ushr31 (by rw [own_sub hn hz] <;> omega)
    rw [e]
    refine own_ireturnN (t := .byte) rfl (by simp) (z' := 1) rfl d_cfa_8 rfl rfl ?_
    exact ⟨by rw [(own_enc_utf ql).2], rfl⟩
  · skip
    refine own_met_2_0 (M := M_cfa) pn_cfa rfl (by first | rfl | exact own_cat (by assumption)) (by first | rfl | exact own_cat (by assumption)) ?_
    refine own_iload_n (pc' := 1) rfl d_cfa_0 rfl ?_
    refine own_aload_n (pc' := 2) rfl d_cfa_1 rfl (by first | rfl | assumption) ?_
    refine own_arrlen (z := n) (pc' := 3) rfl d_cfa_2 Bq (by rw [hn]; simp [(own_enc_lat ql).1]) ?_
    refine own_isub (pc' := 4) rfl d_cfa_3 ?_
    refine own_bipush (v := (31 : Int32)) (pc' := 6) rfl d_cfa_4 rfl ?_
    refine own_iushr (pc' := 7) rfl d_cfa_6 ?_
    refine own_i2b (pc' := 8) rfl d_cfa_7 ?_
    have e : XT.ushr (n - n) 31 = 0 := by rw [Int32.sub_self]; decide
    rw [e]
    refine own_ireturnN (t := .byte) rfl (by simp) (z' := 0) rfl d_cfa_8 rfl rfl ?_
    exact ⟨by rw [(own_enc_lat ql).2], rfl⟩
abbrev own_uC : String := "java/lang/StringUTF16"
def own_U16 (K : own_Cx) : Prop := Sta K.Z K.Z.heap own_uC "$assertionsDisabled" "Z" (.int 1) ∧ Sta K.Z K.Z.heap own_uC "HI_BYTE_SHIFT" "I" (.int 0) ∧ Sta K.Z K.Z.heap own_uC "LO_BYTE_SHIFT" "I" (.int 8)
theorem d_nbl_0 : decode jdk_52_method_3_code 0 = .ok (.iload_n 0, 1) := by decide +kernel
theorem d_nbl_1 : decode jdk_52_method_3_code 1 = .ok (.ifCond .ge 11, 3) := by decide +kernel
theorem d_nbl_12 : decode jdk_52_method_3_code 12 = .ok (.iload_n 0, 1) := by decide +kernel
theorem d_nbl_13 : decode jdk_52_method_3_code 13 = .ok (.ldc 20, 2) := by decide +kernel
theorem d_nbl_15 : decode jdk_52_method_3_code 15 = .ok (.if_icmp .lt 40, 3) := by decide +kernel
theorem d_nbl_55 : decode jdk_52_method_3_code 55 = .ok (.iload_n 0, 1) := by decide +kernel
theorem d_nbl_56 : decode jdk_52_method_3_code 56 = .ok (.iconst 1, 1) := by decide +kernel
theorem d_nbl_57 : decode jdk_52_method_3_code 57 = .ok (.ishl, 1) := by decide +kernel
theorem d_nbl_58 : decode jdk_52_method_3_code 58 = .ok (.ireturn, 1) := by decide +kernel
abbrev M_nbl : own_Mi := ((⟨"java/lang/StringUTF16", "newBytesLength", "(I)I"⟩ : MethodName), jdk_52_method_3_code, 1, (Option.some FieldType.int), ({ frames := 0, cells := 0, slots := 0, locals := 0 } : Room))
theorem pn_nbl : plainFor (own_Mi.y M_nbl) = true := plainFor_of_name (by first | (simp [plainName, overriddenIn]; done) | decide +kernel)
set_option maxRecDepth 65536 in
set_option maxHeartbeats 40000000 in
theorem c_nbl (K : own_Cx) (a0 : Array Value) (hw : ∀ d ∈ tables_1, d.before a0 K.Z = true) (n : Int32) (N : Nat) (h : Heap) (hn : n.toInt = N) (hN : N < 2 ^ 29) :
    own_Met K M_nbl #[.int n] [] h (own_ret fun w h' _ => ∃ r : Int32, w = .int r ∧ r.toInt = ((2 * N : Nat) : Int) ∧ h' = h) := by
  refine own_met_1_0 (M := M_nbl) pn_nbl rfl (by first | rfl | exact own_cat (by assumption)) ?_
  refine own_iload_n (pc' := 1) rfl d_nbl_0 rfl ?_
  refine own_ifge (pcT := 12) (pcF := 4) d_nbl_1 (by decide) (by decide) rfl (fun q => ?_) (fun q => ?_)
  · skip
    refine own_iload_n (pc' := 13) rfl d_nbl_12 rfl ?_
    refine own_ldcI (pc' := 15) rfl d_nbl_13 (tw_123 hw) ?_
    refine own_icmplt (pcT := 55) (pcF := 18) d_nbl_15 (by decide) (by decide) rfl (fun q2 => ?_) (fun q2 => ?_)
    · skip
      refine own_iload_n (pc' := 56) rfl d_nbl_55 rfl ?_
      refine own_iconst (v := (1 : Int32)) (pc' := 57) rfl d_nbl_56 rfl ?_
      refine own_ishl (pc' := 58) rfl d_nbl_57 ?_
      refine own_ireturn rfl d_nbl_58 rfl rfl ?_
      exact ⟨_, rfl, own_shl1 hn hN, rfl⟩
    · exfalso
      rw [Int32.lt_iff_toInt_lt] at q2
      have : (1073741823 : Int32).toInt = 1073741823 := rfl
      omega
  · exfalso
    rw [Int32.lt_iff_toInt_lt] at q
    have : (0 : Int32).toInt = 0 := rfl
    omega
theorem d_nbf_0 : decode jdk_52_method_2_code 0 = .ok (.iload_n 0, 1) := by decide +kernel
theorem d_nbf_1 : decode jdk_52_method_2_code 1 = .ok (.invokestatic 11, 3) := by decide +kernel
theorem d_nbf_4 : decode jdk_52_method_2_code 4 = .ok (.newarray .byte, 2) := by decide +kernel
theorem d_nbf_6 : decode jdk_52_method_2_code 6 = .ok (.areturn, 1) := by decide +kernel
abbrev M_nbf : own_Mi := ((⟨"java/lang/StringUTF16", "newBytesFor", "(I)[B"⟩ : MethodName), jdk_52_method_2_code, 1, (Option.some (FieldType.array FieldType.byte)), ({ frames := 1, cells := 1, slots := 12, locals := 12 } : Room))
theorem pn_nbf : plainFor (own_Mi.y M_nbf) = true := plainFor_of_name (by first | (simp [plainName, overriddenIn]; done) | decide +kernel)
set_option maxRecDepth 65536 in
set_option maxHeartbeats 40000000 in
theorem c_nbf (K : own_Cx) (a0 : Array Value) (hw : ∀ d ∈ tables_1, d.before a0 K.Z = true) (n : Int32) (N : Nat) (h : Heap) (hn : n.toInt = N) (hN : N ≤ 6) :
    own_Met K M_nbf #[.int n] [] h (own_ret fun w h' xs => ∃ b : Addr, w = .ref b ∧ Ext h h' ∧ h.size ≤ b ∧ b ∈ xs ∧ own_Ary K.Z h' b .byte (List.replicate (2 * N) (.int 0))) := by
  refine own_met_1_0 (M := M_nbf) pn_nbf rfl (by first | rfl | exact own_cat (by assumption)) ?_
  refine own_iload_n (pc' := 1) rfl d_nbf_0 rfl ?_
  refine own_static1v (M' := M_nbl) d_nbf_1 (pc' := 4) rfl (tw_120 hw) (tw_121 hw) (tw_45 hw) (tw_122 hw) (by decide) rfl (own_lenOf pd_0 rfl) rfl rfl rfl rfl (c_nbl K a0 hw n N h hn (by omega)) (by simp) ?_
  rintro w h1 xs ⟨r, rfl, hr, rfl⟩
  refine own_newarray (pc' := 6) rfl d_nbf_4 (tw_14 hw) (N := (2 * N)) (cap := 12) hr (by omega) rfl rfl rfl ?_
  intro b h2 eb E2 B2
  refine own_areturn rfl rfl (by first | rfl | assumption) d_nbf_6 rfl rfl ?_
  exact ⟨b, rfl, E2, by omega, by simp, B2⟩
theorem d_pch_0 : decode jdk_52_method_4_code 0 = .ok (.getstatic 44, 3) := by decide +kernel
theorem d_pch_3 : decode jdk_52_method_4_code 3 = .ok (.ifCond .ne 25, 3) := by decide +kernel
theorem d_pch_28 : decode jdk_52_method_4_code 28 = .ok (.iload_n 1, 1) := by decide +kernel
theorem d_pch_29 : decode jdk_52_method_4_code 29 = .ok (.iconst 1, 1) := by decide +kernel
theorem d_pch_30 : decode jdk_52_method_4_code 30 = .ok (.ishl, 1) := by decide +kernel
theorem d_pch_31 : decode jdk_52_method_4_code 31 = .ok (.istore_n 1, 1) := by decide +kernel
theorem d_pch_32 : decode jdk_52_method_4_code 32 = .ok (.aload_n 0, 1) := by decide +kernel
theorem d_pch_33 : decode jdk_52_method_4_code 33 = .ok (.iload_n 1, 1) := by decide +kernel
theorem d_pch_34 : decode jdk_52_method_4_code 34 = .ok (.iinc 1 1, 3) := by decide +kernel
theorem d_pch_37 : decode jdk_52_method_4_code 37 = .ok (.iload_n 2, 1) := by decide +kernel
theorem d_pch_38 : decode jdk_52_method_4_code 38 = .ok (.getstatic 59, 3) := by decide +kernel
theorem d_pch_41 : decode jdk_52_method_4_code 41 = .ok (.ishr, 1) := by decide +kernel
theorem d_pch_42 : decode jdk_52_method_4_code 42 = .ok (.i2b, 1) := by decide +kernel
theorem d_pch_43 : decode jdk_52_method_4_code 43 = .ok (.bastore, 1) := by decide +kernel
theorem d_pch_44 : decode jdk_52_method_4_code 44 = .ok (.aload_n 0, 1) := by decide +kernel
theorem d_pch_45 : decode jdk_52_method_4_code 45 = .ok (.iload_n 1, 1) := by decide +kernel
theorem d_pch_46 : decode jdk_52_method_4_code 46 = .ok (.iload_n 2, 1) := by decide +kernel
theorem d_pch_47 : decode jdk_52_method_4_code 47 = .ok (.getstatic 63, 3) := by decide +kernel
theorem d_pch_50 : decode jdk_52_method_4_code 50 = .ok (.ishr, 1) := by decide +kernel
theorem d_pch_51 : decode jdk_52_method_4_code 51 = .ok (.i2b, 1) := by decide +kernel
theorem d_pch_52 : decode jdk_52_method_4_code 52 = .ok (.bastore, 1) := by decide +kernel
theorem d_pch_53 : decode jdk_52_method_4_code 53 = .ok (.return_, 1) := by decide +kernel
abbrev M_pch : own_Mi := ((⟨"java/lang/StringUTF16", "putChar", "([BII)V"⟩ : MethodName), jdk_52_method_4_code, 3, (Option.none : Option FieldType), ({ frames := 0, cells := 0, slots := 0, locals := 0 } : Room))
theorem pn_pch : plainFor (own_Mi.y M_pch) = true := plainFor_of_name (by first | (simp [plainName, overriddenIn]; done) | decide +kernel)
set_option maxRecDepth 65536 in
set_option maxHeartbeats 40000000 in
theorem c_pch (K : own_Cx) (a0 : Array Value) (hw : ∀ d ∈ tables_1, d.before a0 K.Z = true) (hU : own_U16 K) (b : Addr) (i c : Int32) (I : Nat) (vs : List Value) (h : Heap) (hi : i.toInt = I) (hI : 2 * I + 1 < vs.length) (hI2 : I < 2 ^ 29) (B : own_Ary K.Z h b .byte vs) :
    own_Met K M_pch #[.ref b, .int i, .int c] [b] h (own_void fun h' _ => Keep h h' [b] ∧ own_Ary K.Z h' b .byte ((vs.set (2 * I) (.int (own_bt c))).set (2 * I + 1) (.int (own_hb c)))) := by
  obtain ⟨u1, u2, u3⟩ := hU
  have hj := own_shl1 hi hI2
  refine own_met_3_0 (M := M_pch) pn_pch rfl (by first | rfl | exact own_cat (by assumption)) (by first | rfl | exact own_cat (by assumption)) (by first | rfl | exact own_cat (by assumption)) ?_
  refine own_getS (pc' := 3) rfl d_pch_0 (tw_127 hw) Via.refl (by assumption) ?_
  refine own_ifne (pcT := 28) (pcF := 6) d_pch_3 (by decide) (by decide) rfl (fun q => ?_) (fun q => ?_)
  · skip
    refine own_iload_n (pc' := 29) rfl d_pch_28 rfl ?_
    refine own_iconst (v := (1 : Int32)) (pc' := 30) rfl d_pch_29 rfl ?_
    refine own_ishl (pc' := 31) rfl d_pch_30 ?_
    refine own_istore_n1 (pc' := 32) rfl d_pch_31 (by first | exact One.u | exact One.val rfl | assumption | exact One.val (by assumption)) ?_
    refine own_aload_n (pc' := 33) rfl d_pch_32 rfl (by first | rfl | assumption) ?_
    refine own_iload_n (pc' := 34) rfl d_pch_33 rfl ?_
    refine own_iinc_1 (z := (1 : Int32)) (pc' := 37) rfl d_pch_34 rfl ?_
    refine own_iload_n (pc' := 38) rfl d_pch_37 rfl ?_
    refine own_getS (pc' := 41) rfl d_pch_38 (tw_128 hw) Via.refl (by assumption) ?_
    refine own_ishr (pc' := 42) rfl d_pch_41 ?_
    refine own_i2b (pc' := 43) rfl d_pch_42 ?_
    refine own_bastore (pc' := 44) rfl d_pch_43 B (i := (2 * I)) hj (by omega) ((congrArg (fun z : Int32 => nar .byte (z.toInt8.toInt32)) (own_shr0 c)).trans (own_bt_nar c)) (by simp) ?_
    intro h1 k1 B1
    refine own_aload_n (pc' := 45) rfl d_pch_44 rfl (by first | rfl | assumption) ?_
    refine own_iload_n (pc' := 46) rfl d_pch_45 rfl ?_
    refine own_iload_n (pc' := 47) rfl d_pch_46 rfl ?_
    refine own_getS (pc' := 50) rfl d_pch_47 (tw_129 hw) Via.refl (by assumption) ?_
    refine own_ishr (pc' := 51) rfl d_pch_50 ?_
    refine own_i2b (pc' := 52) rfl d_pch_51 ?_
    refine own_bastore (pc' := 53) rfl d_pch_52 B1 (i := (2 * I + 1)) (by rw [own_add hj (by rfl : (1 : Int32).toInt = 1)] <;> omega) (by simpa using hI) (own_bt_nar (c >>> ((8 : Int32) &&& 31))) (by simp) ?_
    intro h2 k2 B2
    refine own_return rfl d_pch_53 rfl rfl ?_
    exact ⟨k1.trans k2 (fun x hx => Or.inl hx), B2⟩
  · exact absurd q (by decide)
theorem d_tb3_0 : decode jdk_52_method_14_code 0 = .ok (.iload_n 2, 1) := by decide +kernel
theorem d_tb3_1 : decode jdk_52_method_14_code 1 = .ok (.invokestatic 107, 3) := by decide +kernel
theorem d_tb3_4 : decode jdk_52_method_14_code 4 = .ok (.astore_n 3, 1) := by decide +kernel
theorem d_tb3_5 : decode jdk_52_method_14_code 5 = .ok (.iconst 0, 1) := by decide +kernel
theorem d_tb3_6 : decode jdk_52_method_14_code 6 = .ok (.istore 4, 2) := by decide +kernel
theorem d_tb3_8 : decode jdk_52_method_14_code 8 = .ok (.iload 4, 2) := by decide +kernel
theorem d_tb3_10 : decode jdk_52_method_14_code 10 = .ok (.iload_n 2, 1) := by decide +kernel
theorem d_tb3_11 : decode jdk_52_method_14_code 11 = .ok (.if_icmp .ge 21, 3) := by decide +kernel
theorem d_tb3_14 : decode jdk_52_method_14_code 14 = .ok (.aload_n 3, 1) := by decide +kernel
theorem d_tb3_15 : decode jdk_52_method_14_code 15 = .ok (.iload 4, 2) := by decide +kernel
theorem d_tb3_17 : decode jdk_52_method_14_code 17 = .ok (.aload_n 0, 1) := by decide +kernel
theorem d_tb3_18 : decode jdk_52_method_14_code 18 = .ok (.iload_n 1, 1) := by decide +kernel
theorem d_tb3_19 : decode jdk_52_method_14_code 19 = .ok (.caload, 1) := by decide +kernel
theorem d_tb3_20 : decode jdk_52_method_14_code 20 = .ok (.invokestatic 111, 3) := by decide +kernel
theorem d_tb3_23 : decode jdk_52_method_14_code 23 = .ok (.iinc 1 1, 3) := by decide +kernel
theorem d_tb3_26 : decode jdk_52_method_14_code 26 = .ok (.iinc 4 1, 3) := by decide +kernel
theorem d_tb3_29 : decode jdk_52_method_14_code 29 = .ok (.goto (-21), 3) := by decide +kernel
theorem d_tb3_32 : decode jdk_52_method_14_code 32 = .ok (.aload_n 3, 1) := by decide +kernel
theorem d_tb3_33 : decode jdk_52_method_14_code 33 = .ok (.areturn, 1) := by decide +kernel
abbrev M_tb3 : own_Mi := ((⟨"java/lang/StringUTF16", "toBytes", "([CII)[B"⟩ : MethodName), jdk_52_method_14_code, 5, (Option.some (FieldType.array FieldType.byte)), ({ frames := 2, cells := 1, slots := 12, locals := 24 } : Room))
theorem pn_tb3 : plainFor (own_Mi.y M_tb3) = true := plainFor_of_name (by first | (simp [plainName, overriddenIn]; done) | decide +kernel)
set_option maxRecDepth 65536 in
set_option maxHeartbeats 40000000 in
theorem c_tb3 (K : own_Cx) (a0 : Array Value) (hw : ∀ d ∈ tables_1, d.before a0 K.Z = true) (hU : own_U16 K) (a : Addr) (n : Int32) (cs : List Int32) (h : Heap) (hn : n.toInt = cs.length) (hcap : cs.length ≤ 6) (hcs : own_Chs cs) (A : own_Ary K.Z h a .char (own_ints cs)) :
    own_Met K M_tb3 #[.ref a, .int 0, .int n] [] h (own_ret fun w h' _ => ∃ b : Addr, w = .ref b ∧ Ext h h' ∧ h.size ≤ b ∧ own_Ary K.Z h' b .byte (own_ints (own_two cs))) := by
  refine own_met_3_2 (M := M_tb3) pn_tb3 rfl (by first | rfl | exact own_cat (by assumption)) (by first | rfl | exact own_cat (by assumption)) (by first | rfl | exact own_cat (by assumption)) ?_
  refine own_iload_n (pc' := 1) rfl d_tb3_0 rfl ?_
  refine own_static1v (M' := M_nbf) d_tb3_1 (pc' := 4) rfl (tw_117 hw) (tw_118 hw) (tw_45 hw) (tw_119 hw) (by decide) rfl (own_lenOf pd_1 rfl) rfl rfl rfl rfl (c_nbf K a0 hw n cs.length h hn hcap) (by simp) ?_
  rintro w h1 xs ⟨b, rfl, E1, hb1, hbx, B1⟩
  refine own_astore_n3 (pc' := 5) rfl d_tb3_4 (by first | exact One.u | exact One.val rfl | assumption | exact One.val (by assumption)) (by first | rfl | assumption) ?_
  refine own_iconst (v := (0 : Int32)) (pc' := 6) rfl d_tb3_5 rfl ?_
  refine own_istore_4 (pc' := 8) rfl d_tb3_6 (by first | exact One.u | exact One.val rfl | assumption | exact One.val (by assumption)) ?_
  suffices key : ∀ (k i : Nat) (j : Int32) (h2 : Heap) (sf : List Addr), i + k = cs.length → j.toInt = i → b ∈ sf → Ext h h2 → own_Ary K.Z h2 b .byte (own_ints (own_two (cs.take i)) ++ List.replicate (2 * k) (.int 0)) → own_WP K M_tb3 (own_ret fun w h' _ => ∃ b : Addr, w = .ref b ∧ Ext h h' ∧ h.size ≤ b ∧ own_Ary K.Z h' b .byte (own_ints (own_two cs))) 8 [.val (.ref a), .val (.int j), .val (.int n), .val (.ref b), .val (.int j)] [] sf h2 1 12 from
    own_weak (key cs.length 0 0 h1 _ (by simp) rfl (by simpa using hbx) E1 (by simpa [own_two] using B1)) (fun x hx => hx) (by exact Nat.le_of_ble_eq_true rfl) (by exact Nat.le_of_ble_eq_true rfl)
  intro k
  induction k with
  | zero =>
    intro i j h2 sf hik hj hbs E2 B2
    refine own_iload (pc' := 10) rfl d_tb3_8 rfl ?_
    refine own_iload_n (pc' := 11) rfl d_tb3_10 rfl ?_
    refine own_icmpge (pcT := 32) (pcF := 14) d_tb3_11 (by decide) (by decide) rfl (fun q => ?_) (fun q => ?_)
    · skip
      refine own_aload_n (pc' := 33) rfl d_tb3_32 rfl (by first | rfl | assumption) ?_
      refine own_areturn rfl rfl (by first | rfl | assumption) d_tb3_33 rfl rfl ?_
      have e : cs.take i = cs := List.take_of_length_le (by omega)
      rw [e] at B2
      exact ⟨b, rfl, E2, hb1, by simpa using B2⟩
    · rw [Int32.lt_iff_toInt_lt] at q
      omega
  | succ k ih =>
    intro i j h2 sf hik hj hbs E2 B2
    have hi : i < cs.length := by omega
    obtain ⟨c, hc⟩ : ∃ c, cs[i]? = some c := ⟨cs[i], by simp [hi]⟩
    have e1 : (own_ints (own_two (cs.take i))).length = 2 * i := by simp [own_two_len]; omega
    refine own_iload (pc' := 10) rfl d_tb3_8 rfl ?_
    refine own_iload_n (pc' := 11) rfl d_tb3_10 rfl ?_
    refine own_icmpge (pcT := 32) (pcF := 14) d_tb3_11 (by decide) (by decide) rfl (fun q => ?_) (fun q => ?_)
    · exact absurd (by rw [Int32.lt_iff_toInt_lt]; omega) q
    · skip
      refine own_aload_n (pc' := 15) rfl d_tb3_14 rfl (by first | rfl | assumption) ?_
      refine own_iload (pc' := 17) rfl d_tb3_15 rfl ?_
      refine own_aload_n (pc' := 18) rfl d_tb3_17 rfl (by first | rfl | assumption) ?_
      refine own_iload_n (pc' := 19) rfl d_tb3_18 rfl ?_
      refine own_caload (pc' := 20) rfl d_tb3_19 (A.ext E2) (i := i) hj (by first | exact own_ints_get hc | exact own_ints_getM hc) ?_
      refine own_static3n (M' := M_pch) d_tb3_20 (pc' := 23) rfl (tw_124 hw) (tw_125 hw) (tw_45 hw) (tw_126 hw) (by decide) rfl (own_lenOf pd_2 rfl) rfl rfl rfl rfl (c_pch K a0 hw hU b j c i _ h2 hj (by rw [List.length_append, e1, List.length_replicate]; omega) (by omega) B2) (by simpa using hbs) ?_
      rintro h3 xs3 ⟨k3, B3⟩
      refine own_iinc_1 (z := (1 : Int32)) (pc' := 26) rfl d_tb3_23 rfl ?_
      refine own_iinc_4 (z := (1 : Int32)) (pc' := 29) rfl d_tb3_26 rfl ?_
      refine own_goto (pc' := 8) d_tb3_29 (by decide) (by decide) ?_
      refine own_weak (ih (i + 1) (j + 1) h3 _ (by omega) (by rw [own_add hj (by rfl : (1 : Int32).toInt = 1)] <;> omega) (List.mem_append_right _ hbs) (own_ext_keep E2 k3 (by intro x hx; cases List.mem_singleton.mp hx; omega)) ?_) (fun x hx => hx) (by exact Nat.le_of_ble_eq_true rfl) (by exact Nat.le_of_ble_eq_true rfl)
      rw [own_two_snoc hc]
      have e2 : own_ints (own_two (cs.take i) ++ [own_bt c, own_hb c]) = own_ints (own_two (cs.take i)) ++ [.int (own_bt c), .int (own_hb c)] := by simp [own_ints]
      rw [e2, ← own_settwo, e1]
      exact B3
theorem d_gc_0 : decode jdk_52_method_5_code 0 = .ok (.getstatic 44, 3) := by decide +kernel
theorem d_gc_3 : decode jdk_52_method_5_code 3 = .ok (.ifCond .ne 25, 3) := by decide +kernel
theorem d_gc_28 : decode jdk_52_method_5_code 28 = .ok (.iload_n 1, 1) := by decide +kernel
theorem d_gc_29 : decode jdk_52_method_5_code 29 = .ok (.iconst 1, 1) := by decide +kernel
theorem d_gc_30 : decode jdk_52_method_5_code 30 = .ok (.ishl, 1) := by decide +kernel
theorem d_gc_31 : decode jdk_52_method_5_code 31 = .ok (.istore_n 1, 1) := by decide +kernel
theorem d_gc_32 : decode jdk_52_method_5_code 32 = .ok (.aload_n 0, 1) := by decide +kernel
theorem d_gc_33 : decode jdk_52_method_5_code 33 = .ok (.iload_n 1, 1) := by decide +kernel
theorem d_gc_34 : decode jdk_52_method_5_code 34 = .ok (.iinc 1 1, 3) := by decide +kernel
theorem d_gc_37 : decode jdk_52_method_5_code 37 = .ok (.baload, 1) := by decide +kernel
theorem d_gc_38 : decode jdk_52_method_5_code 38 = .ok (.sipush 255, 3) := by decide +kernel
theorem d_gc_41 : decode jdk_52_method_5_code 41 = .ok (.iand, 1) := by decide +kernel
theorem d_gc_42 : decode jdk_52_method_5_code 42 = .ok (.getstatic 59, 3) := by decide +kernel
theorem d_gc_45 : decode jdk_52_method_5_code 45 = .ok (.ishl, 1) := by decide +kernel
theorem d_gc_46 : decode jdk_52_method_5_code 46 = .ok (.aload_n 0, 1) := by decide +kernel
theorem d_gc_47 : decode jdk_52_method_5_code 47 = .ok (.iload_n 1, 1) := by decide +kernel
theorem d_gc_48 : decode jdk_52_method_5_code 48 = .ok (.baload, 1) := by decide +kernel
theorem d_gc_49 : decode jdk_52_method_5_code 49 = .ok (.sipush 255, 3) := by decide +kernel
theorem d_gc_52 : decode jdk_52_method_5_code 52 = .ok (.iand, 1) := by decide +kernel
theorem d_gc_53 : decode jdk_52_method_5_code 53 = .ok (.getstatic 63, 3) := by decide +kernel
theorem d_gc_56 : decode jdk_52_method_5_code 56 = .ok (.ishl, 1) := by decide +kernel
theorem d_gc_57 : decode jdk_52_method_5_code 57 = .ok (.ior, 1) := by decide +kernel
theorem d_gc_58 : decode jdk_52_method_5_code 58 = .ok (.i2c, 1) := by decide +kernel
theorem d_gc_59 : decode jdk_52_method_5_code 59 = .ok (.ireturn, 1) := by decide +kernel
abbrev M_gc : own_Mi := ((⟨"java/lang/StringUTF16", "getChar", "([BI)C"⟩ : MethodName), jdk_52_method_5_code, 2, (Option.some FieldType.char), ({ frames := 0, cells := 0, slots := 0, locals := 0 } : Room))
theorem pn_gc : plainFor (own_Mi.y M_gc) = true := plainFor_of_name (by first | (simp [plainName, overriddenIn]; done) | decide +kernel)
set_option maxRecDepth 65536 in
set_option maxHeartbeats 40000000 in
theorem c_gc (K : own_Cx) (a0 : Array Value) (hw : ∀ d ∈ tables_1, d.before a0 K.Z = true) (hU : own_U16 K) (b : Addr) (r : Int32) (i : Nat) (c : Int32) (cs : List Int32) (h : Heap) (hr : r.toInt = i) (hc : cs[i]? = some c) (hi : i < 2 ^ 29) (hcs : own_Chs cs) (B : own_Ary K.Z h b .byte (own_ints (own_two cs))) :
    own_Met K M_gc #[.ref b, .int r] [] h (own_ret fun w h' _ => w = .int c ∧ h' = h) := by
  obtain ⟨u1, u2, u3⟩ := hU
  have hj := own_shl1 hr hi
  have g := own_two_get hc
  have hcr := hcs c (List.mem_of_getElem? hc)
  refine own_met_2_0 (M := M_gc) pn_gc rfl (by first | rfl | exact own_cat (by assumption)) (by first | rfl | exact own_cat (by assumption)) ?_
  refine own_getS (pc' := 3) rfl d_gc_0 (tw_127 hw) Via.refl (by assumption) ?_
  refine own_ifne (pcT := 28) (pcF := 6) d_gc_3 (by decide) (by decide) rfl (fun q => ?_) (fun q => ?_)
  · skip
    refine own_iload_n (pc' := 29) rfl d_gc_28 rfl ?_
    refine own_iconst (v := (1 : Int32)) (pc' := 30) rfl d_gc_29 rfl ?_
    refine own_ishl (pc' := 31) rfl d_gc_30 ?_
    refine own_istore_n1 (pc' := 32) rfl d_gc_31 (by first | exact One.u | exact One.val rfl | assumption | exact One.val (by assumption)) ?_
    refine own_aload_n (pc' := 33) rfl d_gc_32 rfl (by first | rfl | assumption) ?_
    refine own_iload_n (pc' := 34) rfl d_gc_33 rfl ?_
    refine own_iinc_1 (z := (1 : Int32)) (pc' := 37) rfl d_gc_34 rfl ?_
    refine own_baload (pc' := 38) rfl d_gc_37 B (i := (2 * i)) hj (by first | exact own_ints_get g.1 | exact own_ints_getM g.1) ?_
    refine own_sipush (v := (255 : Int32)) (pc' := 41) rfl d_gc_38 rfl ?_
    refine own_iand (pc' := 42) rfl d_gc_41 ?_
    refine own_getS (pc' := 45) rfl d_gc_42 (tw_128 hw) Via.refl (by assumption) ?_
    refine own_ishl (pc' := 46) rfl d_gc_45 ?_
    refine own_aload_n (pc' := 47) rfl d_gc_46 rfl (by first | rfl | assumption) ?_
    refine own_iload_n (pc' := 48) rfl d_gc_47 rfl ?_
    refine own_baload (pc' := 49) rfl d_gc_48 B (i := (2 * i + 1)) (by rw [own_add hj (by rfl : (1 : Int32).toInt = 1)] <;> omega) (by first | exact own_ints_get g.2 | exact own_ints_getM g.2) ?_
    refine own_sipush (v := (255 : Int32)) (pc' := 52) rfl d_gc_49 rfl ?_
    refine own_iand (pc' := 53) rfl d_gc_52 ?_
    refine own_getS (pc' := 56) rfl d_gc_53 (tw_129 hw) Via.refl (by assumption) ?_
    refine own_ishl (pc' := 57) rfl d_gc_56 ?_
    refine own_ior (pc' := 58) rfl d_gc_57 ?_
    refine own_i2c (pc' := 59) rfl d_gc_58 ?_
    rw [own_join hcr.1 hcr.2, own_i2c_id hcr.1 hcr.2]
    refine own_ireturnN (t := .char) rfl (by simp) (own_i2c_id hcr.1 hcr.2) d_gc_59 rfl rfl ?_
    exact ⟨rfl, rfl⟩
  · exact absurd q (by decide)
theorem d_cp3_0 : decode jdk_52_method_16_code 0 = .ok (.iload_n 2, 1) := by decide +kernel
theorem d_cp3_1 : decode jdk_52_method_16_code 1 = .ok (.newarray .byte, 2) := by decide +kernel
theorem d_cp3_3 : decode jdk_52_method_16_code 3 = .ok (.astore_n 3, 1) := by decide +kernel
theorem d_cp3_4 : decode jdk_52_method_16_code 4 = .ok (.aload_n 0, 1) := by decide +kernel
theorem d_cp3_5 : decode jdk_52_method_16_code 5 = .ok (.iload_n 1, 1) := by decide +kernel
theorem d_cp3_6 : decode jdk_52_method_16_code 6 = .ok (.aload_n 3, 1) := by decide +kernel
theorem d_cp3_7 : decode jdk_52_method_16_code 7 = .ok (.iconst 0, 1) := by decide +kernel
theorem d_cp3_8 : decode jdk_52_method_16_code 8 = .ok (.iload_n 2, 1) := by decide +kernel
theorem d_cp3_9 : decode jdk_52_method_16_code 9 = .ok (.invokestatic 115, 3) := by decide +kernel
theorem d_cp3_12 : decode jdk_52_method_16_code 12 = .ok (.istore 4, 2) := by decide +kernel
theorem d_cp3_14 : decode jdk_52_method_16_code 14 = .ok (.iload 4, 2) := by decide +kernel
theorem d_cp3_16 : decode jdk_52_method_16_code 16 = .ok (.iload_n 2, 1) := by decide +kernel
theorem d_cp3_17 : decode jdk_52_method_16_code 17 = .ok (.if_icmp .eq 40, 3) := by decide +kernel
theorem d_cp3_20 : decode jdk_52_method_16_code 20 = .ok (.aload_n 0, 1) := by decide +kernel
theorem d_cp3_21 : decode jdk_52_method_16_code 21 = .ok (.iload_n 1, 1) := by decide +kernel
theorem d_cp3_22 : decode jdk_52_method_16_code 22 = .ok (.iload_n 2, 1) := by decide +kernel
theorem d_cp3_23 : decode jdk_52_method_16_code 23 = .ok (.invokestatic 119, 3) := by decide +kernel
theorem d_cp3_26 : decode jdk_52_method_16_code 26 = .ok (.astore 5, 2) := by decide +kernel
theorem d_cp3_28 : decode jdk_52_method_16_code 28 = .ok (.aload 5, 2) := by decide +kernel
theorem d_cp3_30 : decode jdk_52_method_16_code 30 = .ok (.iload 4, 2) := by decide +kernel
theorem d_cp3_32 : decode jdk_52_method_16_code 32 = .ok (.invokestatic 71, 3) := by decide +kernel
theorem d_cp3_35 : decode jdk_52_method_16_code 35 = .ok (.sipush 255, 3) := by decide +kernel
theorem d_cp3_38 : decode jdk_52_method_16_code 38 = .ok (.if_icmp .gt 16, 3) := by decide +kernel
theorem d_cp3_54 : decode jdk_52_method_16_code 54 = .ok (.aload 5, 2) := by decide +kernel
theorem d_cp3_56 : decode jdk_52_method_16_code 56 = .ok (.areturn, 1) := by decide +kernel
theorem d_cp3_57 : decode jdk_52_method_16_code 57 = .ok (.aload_n 3, 1) := by decide +kernel
theorem d_cp3_58 : decode jdk_52_method_16_code 58 = .ok (.areturn, 1) := by decide +kernel
abbrev M_cp3 : own_Mi := ((⟨"java/lang/StringUTF16", "compress", "([CII)[B"⟩ : MethodName), jdk_52_method_16_code, 6, (Option.some (FieldType.array FieldType.byte)), ({ frames := 3, cells := 2, slots := 18, locals := 40 } : Room))
theorem pn_cp3 : plainFor (own_Mi.y M_cp3) = true := plainFor_of_name (by first | (simp [plainName, overriddenIn]; done) | decide +kernel)
set_option maxRecDepth 65536 in
set_option maxHeartbeats 40000000 in
theorem c_cp3 (K : own_Cx) (a0 : Array Value) (hw : ∀ d ∈ tables_1, d.before a0 K.Z = true)
    (hU : own_U16 K)
    (a : Addr) (n : Int32) (cs : List Int32) (h : Heap) (hn : n.toInt = cs.length) (hcap : cs.length ≤ 6) (hcs : own_Chs cs) (A : own_Ary K.Z h a .char (own_ints cs))
    : own_Met K M_cp3 #[.ref a, .int 0, .int n] [] h (own_ret fun w h' _ => ∃ b : Addr, w = .ref b ∧ Ext h h' ∧ h.size ≤ b ∧ own_Ary K.Z h' b .byte (own_ints (own_enc cs))) := by
  refine own_met_3_3 (M := M_cp3) pn_cp3 rfl (by first | rfl | exact own_cat (by assumption)) (by first | rfl | exact own_cat (by assumption)) (by first | rfl | exact own_cat (by assumption)) ?_
  refine own_iload_n (pc' := 1) rfl d_cp3_0 rfl ?_
  refine own_newarray (pc' := 3) rfl d_cp3_1 (tw_14 hw) (N := cs.length) (cap := 6) hn hcap rfl rfl rfl ?_
  intro b h1 eb E1 B1
  have hab : a ≠ b := by show @Ne Nat a b; have : @LT.lt Nat _ _ _ := A.lt; omega
  refine own_astore_n3 (pc' := 4) rfl d_cp3_3 (by first | exact One.u | exact One.val rfl | assumption | exact One.val (by assumption)) (by first | rfl | assumption) ?_
  refine own_aload_n (pc' := 5) rfl d_cp3_4 rfl (by first | rfl | assumption) ?_
  refine own_iload_n (pc' := 6) rfl d_cp3_5 rfl ?_
  refine own_aload_n (pc' := 7) rfl d_cp3_6 rfl (by first | rfl | assumption) ?_
  refine own_iconst (v := (0 : Int32)) (pc' := 8) rfl d_cp3_7 rfl ?_
  refine own_iload_n (pc' := 9) rfl d_cp3_8 rfl ?_
  refine own_static5v (M' := M_cp5) d_cp3_9 (pc' := 12) rfl (tw_47 hw) (tw_48 hw) (tw_45 hw) (tw_49 hw) (by decide) rfl (own_lenOf pd_3 rfl) rfl rfl rfl rfl (c_cp5 K a0 hw a b n cs h1 hn hcs (A.ext E1) B1 hab) (by simp) ?_
  rintro w h2 xs ⟨r, rfl, k2, q⟩
  have E2 := own_ext_keep E1 k2 (by intro x hx; cases List.mem_singleton.mp hx; omega)
  refine own_istore_4 (pc' := 14) rfl d_cp3_12 (by first | exact One.u | exact One.val rfl | assumption | exact One.val (by assumption)) ?_
  refine own_iload (pc' := 16) rfl d_cp3_14 rfl ?_
  refine own_iload_n (pc' := 17) rfl d_cp3_16 rfl ?_
  refine own_icmpeq (pcT := 57) (pcF := 20) d_cp3_17 (by decide) (by decide) rfl (fun z => ?_) (fun z => ?_)
  · rcases q with ⟨q1, q2, q3⟩ | ⟨q1, i, c, q2, q3, q4⟩
    · skip
      refine own_aload_n (pc' := 58) rfl d_cp3_57 rfl (by first | rfl | assumption) ?_
      refine own_areturn rfl rfl (by first | rfl | assumption) d_cp3_58 rfl rfl ?_
      exact ⟨b, rfl, E2, by omega, by rw [(own_enc_lat q1).1]; exact q3⟩
    · have := (List.getElem?_eq_some_iff.mp q3).1
      rw [z] at q2
      omega
  · rcases q with ⟨q1, q2, q3⟩ | ⟨q1, i, c, q2, q3, q4⟩
    · exact absurd q2 z
    have hil := (List.getElem?_eq_some_iff.mp q3).1
    refine own_aload_n (pc' := 21) rfl d_cp3_20 rfl (by first | rfl | assumption) ?_
    refine own_iload_n (pc' := 22) rfl d_cp3_21 rfl ?_
    refine own_iload_n (pc' := 23) rfl d_cp3_22 rfl ?_
    refine own_static3v (M' := M_tb3) d_cp3_23 (pc' := 26) rfl (tw_114 hw) (tw_115 hw) (tw_45 hw) (tw_116 hw) (by decide) rfl (own_lenOf pd_4 rfl) rfl rfl rfl rfl (c_tb3 K a0 hw hU a n cs h2 hn hcap hcs (A.ext E2)) (by simp) ?_
    rintro w h3 xs3 ⟨b3, rfl, E3, hb3, B3⟩
    refine own_astore_5 (pc' := 28) rfl d_cp3_26 (by first | exact One.u | exact One.val rfl | assumption | exact One.val (by assumption)) (by first | rfl | assumption) ?_
    refine own_aload (pc' := 30) rfl d_cp3_28 rfl (by first | rfl | assumption) ?_
    refine own_iload (pc' := 32) rfl d_cp3_30 rfl ?_
    refine own_static2v (M' := M_gc) d_cp3_32 (pc' := 35) rfl (tw_130 hw) (tw_131 hw) (tw_45 hw) (tw_132 hw) (by decide) rfl (own_lenOf pd_5 rfl) rfl rfl rfl rfl (c_gc K a0 hw hU b3 r i c cs h3 q2 q3 (by omega) hcs B3) (by simp) ?_
    rintro w h4 xs4 ⟨rfl, rfl⟩
    refine own_sipush (v := (255 : Int32)) (pc' := 38) rfl d_cp3_35 rfl ?_
    refine own_icmpgt (pcT := 54) (pcF := 41) d_cp3_38 (by decide) (by decide) rfl (fun z2 => ?_) (fun z2 => ?_)
    · skip
      refine own_aload (pc' := 56) rfl d_cp3_54 rfl (by first | rfl | assumption) ?_
      refine own_areturn rfl rfl (by first | rfl | assumption) d_cp3_56 rfl rfl ?_
      exact ⟨b3, rfl, own_ext_trans E2 E3, by have := E2.1; omega, by rw [(own_enc_utf q1).1]; exact B3⟩
    · exfalso
      rw [Int32.lt_iff_toInt_lt] at z2
      have : (255 : Int32).toInt = 255 := rfl
      omega
theorem own_atoms {a0 : Array Value} {Z : State} (hw : ∀ d ∈ tables_1, d.before a0 Z = true) : ∀ a ∈ Bundle.stringAtoms, a.before a0 Z = true := by
  intro a ha
  simp only [Bundle.stringAtoms, List.mem_cons, List.not_mem_nil, or_false] at ha
  rcases ha with rfl | rfl | rfl | rfl | rfl | rfl | rfl
  · exact (tw_2 hw)
  · exact (tw_10 hw)
  · exact (tw_14 hw)
  · exact (tw_23 hw)
  · exact (tw_25 hw)
  · exact (tw_173 hw)
  · exact (tw_174 hw)
theorem own_ofArv {Z : State} {h : Heap} {b : Addr} {k : ClassId} {ty : FieldType} {z : Int32} {vs : List Value} {d : Value} (A : Arv Z h b k ty z vs d) (hl : z.toNatClampNeg = vs.length) : own_Ary Z h b ty vs := by
  obtain ⟨c, h1, -, h3, h4, h5, -⟩ := A
  refine ⟨c, h1, ?_, by rw [← hl]; exact (back32 h4).2⟩
  apply Array.ext
  · simp [h3, hl]
  · intro i hi1 hi2
    have := h5 i hi1
    have hi3 : i < vs.length := by simpa using hi2
    simp [hi1, hi3] at this
    simpa using this
/-- what a constant's text spells -/
def own_us (text : String) : List Int32 := text.toList.map fun c => c.toNat.toInt32
theorem own_ldcS {K : own_Cx} {M : own_Mi} {Q : own_Q} {pc pc' : Nat} {Ls : List Slot} {St : List Value} {sf : List Addr} {h : Heap} {cs sl : Nat} {a0 : Array Value} {index n : Nat} {text : String}
    (hnw : K.nw = false) (hp : pc + 2 = pc') (hd : decode M.b pc = .ok (.ldc index, 2)) (w : (Jvm.Cond.stringLink M.y.cls index text).before a0 K.Z = true) (wS : ∀ a ∈ Bundle.stringAtoms, a.before a0 K.Z = true) (hEL : EW K.Z a0 K.E) (hmem : (M.y.cls, index) ∈ K.E)
    (ht : (∀ c ∈ text.toList, c.toNat < 256) ∧ text.toList.map (fun c => Value.int (Jvm.Lit.byteI c.toNat.toUInt16)) = own_ints (own_enc (own_us text))) (hlat : own_lat (own_us text) = true) (hcs : own_Chs (own_us text)) (hz : ¬ ((own_us text).length.toInt32) < 0) (hl : ((own_us text).length.toInt32).toNatClampNeg = (own_ints (own_enc (own_us text))).length) (hlen : (own_us text).length < 2 ^ 30)
    (hn : Nat.ble (4 * text.toList.length) n = true) (hbig : Nat.ble n 536870912 = true) (hc : Nat.ble (cs + 2) M.R.cells = true) (hs : Nat.ble (sl + (n + 4)) M.R.slots = true)
    (k : ∀ (a : Addr) (h' : Heap), Ext h h' → own_Str K.Z h' a (own_us text) → own_WP K M Q pc' Ls (.ref a :: St) sf h' (cs + 2) (sl + (n + 4))) : own_WP K M Q pc Ls St sf h cs sl := by
  subst hp
  intro p e s vm0 k0 m args below meth c T locs cs' sl' B X hc' hs' eT N I
  obtain ⟨i1, i2, i3, i4, i5, i6⟩ := I
  obtain ⟨b1, b2, b3, b4, b5, b6, b7, b8, b9⟩ := B
  have q3 := Nat.le_of_ble_eq_true hc
  have q4 := Nat.le_of_ble_eq_true hs
  obtain ⟨a, T', h', k1, b, kk, X', e', E, S', hk', Z', O', A1, A2, A3, A4, -, -, C, -, -, st⟩ := ldcCH X b1 b8 b4 w wS eT i1 i2 hEL hmem i4.1 ht hz hl (g := mkF m pc Ls.toArray St) rfl (hb b2 hd) (Nat.le_of_ble_eq_true hn) (Nat.le_of_ble_eq_true hbig) (by omega) (by omega)
  obtain ⟨s₂, o, h1, r⟩ := k a h' E ⟨A1, hcs, hlen, b, A3, by rw [(own_enc_lat hlat).2]; exact A2, own_ofArv A4 hl⟩ p e s T'.vm k1 m args below meth c T' locs _ _ ⟨b1, b2, b3, O', b5, b6, b7, Z', b9⟩ X' (by omega) (by omega) e' N
    ⟨S', hk', (fun q => by rw [hnw] at q; cases q), i4.trans C, fun x hx => ⟨(i5 x hx).1, Nat.lt_of_lt_of_le (i5 x hx).2.1 C.2.1, C.safe (i5 x hx).2.1 (i5 x hx).2.2⟩, own_ext_trans i6 E⟩
  exact ⟨s₂, o, st _ h1, r⟩
theorem d_si4_0 : decode jdk_42_method_149_code 0 = .ok (.aload_n 0, 1) := by decide +kernel
theorem d_si4_1 : decode jdk_42_method_149_code 1 = .ok (.invokespecial 1, 3) := by decide +kernel
theorem d_si4_4 : decode jdk_42_method_149_code 4 = .ok (.iload_n 3, 1) := by decide +kernel
theorem d_si4_5 : decode jdk_42_method_149_code 5 = .ok (.ifCond .ne 22, 3) := by decide +kernel
theorem d_si4_8 : decode jdk_42_method_149_code 8 = .ok (.aload_n 0, 1) := by decide +kernel
theorem d_si4_9 : decode jdk_42_method_149_code 9 = .ok (.ldc 7, 2) := by decide +kernel
theorem d_si4_11 : decode jdk_42_method_149_code 11 = .ok (.getfield 9, 3) := by decide +kernel
theorem d_si4_14 : decode jdk_42_method_149_code 14 = .ok (.putfield 9, 3) := by decide +kernel
theorem d_si4_17 : decode jdk_42_method_149_code 17 = .ok (.aload_n 0, 1) := by decide +kernel
theorem d_si4_18 : decode jdk_42_method_149_code 18 = .ok (.ldc 7, 2) := by decide +kernel
theorem d_si4_20 : decode jdk_42_method_149_code 20 = .ok (.getfield 15, 3) := by decide +kernel
theorem d_si4_23 : decode jdk_42_method_149_code 23 = .ok (.putfield 15, 3) := by decide +kernel
theorem d_si4_26 : decode jdk_42_method_149_code 26 = .ok (.return_, 1) := by decide +kernel
theorem d_si4_27 : decode jdk_42_method_149_code 27 = .ok (.getstatic 38, 3) := by decide +kernel
theorem d_si4_30 : decode jdk_42_method_149_code 30 = .ok (.ifCond .eq 28, 3) := by decide +kernel
theorem d_si4_33 : decode jdk_42_method_149_code 33 = .ok (.aload_n 1, 1) := by decide +kernel
theorem d_si4_34 : decode jdk_42_method_149_code 34 = .ok (.iload_n 2, 1) := by decide +kernel
theorem d_si4_35 : decode jdk_42_method_149_code 35 = .ok (.iload_n 3, 1) := by decide +kernel
theorem d_si4_36 : decode jdk_42_method_149_code 36 = .ok (.invokestatic 177, 3) := by decide +kernel
theorem d_si4_39 : decode jdk_42_method_149_code 39 = .ok (.astore 5, 2) := by decide +kernel
theorem d_si4_41 : decode jdk_42_method_149_code 41 = .ok (.aload_n 0, 1) := by decide +kernel
theorem d_si4_42 : decode jdk_42_method_149_code 42 = .ok (.aload 5, 2) := by decide +kernel
theorem d_si4_44 : decode jdk_42_method_149_code 44 = .ok (.iload_n 3, 1) := by decide +kernel
theorem d_si4_45 : decode jdk_42_method_149_code 45 = .ok (.invokestatic 47, 3) := by decide +kernel
theorem d_si4_48 : decode jdk_42_method_149_code 48 = .ok (.putfield 15, 3) := by decide +kernel
theorem d_si4_51 : decode jdk_42_method_149_code 51 = .ok (.aload_n 0, 1) := by decide +kernel
theorem d_si4_52 : decode jdk_42_method_149_code 52 = .ok (.aload 5, 2) := by decide +kernel
theorem d_si4_54 : decode jdk_42_method_149_code 54 = .ok (.putfield 9, 3) := by decide +kernel
theorem d_si4_57 : decode jdk_42_method_149_code 57 = .ok (.return_, 1) := by decide +kernel
abbrev M_si4 : own_Mi := ((⟨"java/lang/String", "<init>", "([CIILjava/lang/Void;)V"⟩ : MethodName), jdk_42_method_149_code, 6, (Option.none : Option FieldType), ({ frames := 4, cells := 4, slots := 18, locals := 57 } : Room))
theorem pn_si4 : plainFor (own_Mi.y M_si4) = true := plainFor_of_name (by first | (simp [plainName, overriddenIn]; done) | decide +kernel)
set_option maxRecDepth 65536 in
set_option maxHeartbeats 40000000 in
theorem c_si4 (K : own_Cx) (a0 : Array Value) (hw : ∀ d ∈ tables_1, d.before a0 K.Z = true)
    (hU : own_U16 K)
    (hnw : K.nw = false) (hEL : EW K.Z a0 K.E) (hme : ("java/lang/String", 7) ∈ K.E)
    (x a : Addr) (n g : Int32) (cs : List Int32) (h : Heap) (hn : n.toInt = cs.length)
    (hcap : cs.length ≤ 6) (hcs : own_Chs cs) (A : own_Ary K.Z h a .char (own_ints cs))
    (E : Exa K.Z h x "java/lang/String") (FV : Fld K.Z h x "java/lang/String" "value" "[B" .null) (FC : Fld K.Z h x "java/lang/String" "coder" "B" (.int 0)) (SC : Sta K.Z K.Z.heap "java/lang/String" "COMPACT_STRINGS" "Z" (.int g)) (hg : ¬ g = 0)
    : own_Met K M_si4 #[.ref x, .ref a, .int 0, .int n, .null] [x] h (own_void fun h' _ => Keep h h' [x] ∧ own_Str K.Z h' x cs) := by
  refine own_met_5_1 (M := M_si4) pn_si4 rfl (by first | rfl | exact own_cat (by assumption)) (by first | rfl | exact own_cat (by assumption)) (by first | rfl | exact own_cat (by assumption)) (by first | rfl | exact own_cat (by assumption)) (by first | rfl | exact own_cat (by assumption)) ?_
  refine own_aload_n (pc' := 1) rfl d_si4_0 rfl (by first | rfl | assumption) ?_
  refine own_initO (pc' := 4) rfl d_si4_1 (tw_19 hw) (tw_20 hw) (tw_21 hw) rfl rfl rfl ?_
  refine own_iload_n (pc' := 5) rfl d_si4_4 rfl ?_
  refine own_ifne (pcT := 27) (pcF := 8) d_si4_5 (by decide) (by decide) rfl (fun z => ?_) (fun z => ?_)
  · skip
    refine own_getS (pc' := 30) rfl d_si4_27 (tw_4 hw) Via.refl (by assumption) ?_
    refine own_ifeq (pcT := 58) (pcF := 33) d_si4_30 (by decide) (by decide) rfl (fun z2 => ?_) (fun z2 => ?_)
    · exact absurd z2 hg
    · skip
      refine own_aload_n (pc' := 34) rfl d_si4_33 rfl (by first | rfl | assumption) ?_
      refine own_iload_n (pc' := 35) rfl d_si4_34 rfl ?_
      refine own_iload_n (pc' := 36) rfl d_si4_35 rfl ?_
      refine own_static3v (M' := M_cp3) d_si4_36 (pc' := 39) rfl (tw_43 hw) (tw_44 hw) (tw_45 hw) (tw_46 hw) (by decide) rfl (own_lenOf pd_4 rfl) rfl rfl rfl rfl (c_cp3 K a0 hw hU a n cs h hn hcap hcs A) (by simp) ?_
      rintro w h1 xs ⟨b, rfl, E1, hb1, B1⟩
      have hxb : b ≠ x := by show @Ne Nat b x; have : @LT.lt Nat _ _ _ := E.lt; omega
      refine own_astore_5 (pc' := 41) rfl d_si4_39 (by first | exact One.u | exact One.val rfl | assumption | exact One.val (by assumption)) (by first | rfl | assumption) ?_
      refine own_aload_n (pc' := 42) rfl d_si4_41 rfl (by first | rfl | assumption) ?_
      refine own_aload (pc' := 44) rfl d_si4_42 rfl (by first | rfl | assumption) ?_
      refine own_iload_n (pc' := 45) rfl d_si4_44 rfl ?_
      have hp : 0 < cs.length := by
        rcases Nat.eq_zero_or_pos cs.length with e | e
        · exact absurd (Int32.toInt_inj.mp (by rw [hn, e]; rfl)) z
        · exact e
      refine own_static2v (M' := M_cfa) d_si4_45 (pc' := 48) rfl (tw_50 hw) (tw_51 hw) (tw_45 hw) (tw_52 hw) (by decide) rfl (own_lenOf pd_6 rfl) rfl rfl rfl rfl (c_cfa K a0 hw b n cs h1 hn (by omega) hp B1) (by simp) ?_
      rintro w h2 xs2 ⟨rfl, rfl⟩
      refine own_putF (pc' := 51) rfl d_si4_48 (tw_24 hw) Via.refl (Or.inr ⟨(tw_25 hw), rfl, rfl⟩) (tw_10 hw) (ty := .byte) (by decide) (own_cod_byte cs).1 (own_cod_byte cs).2 (FC.ext E1) (E.ext E1) (by simp) ?_
      intro h3 W3
      have sne : RoadKit.slotOf K.Z "java/lang/String" "value" "[B" ≠ RoadKit.slotOf K.Z "java/lang/String" "coder" "B" := slot_ne (Or.inr (tw_23 hw)) (Or.inr (tw_25 hw)) (by decide) (t := .array .byte) (t' := .byte) (by decide) (by decide)
      have FV3 := (FV.ext E1).other W3 (Or.inr sne)
      have FC3 := (FC.ext E1).same W3
      have E3 := (E.ext E1).wr W3
      have B3 := B1.other W3 hxb
      refine own_aload_n (pc' := 52) rfl d_si4_51 rfl (by first | rfl | assumption) ?_
      refine own_aload (pc' := 54) rfl d_si4_52 rfl (by first | rfl | assumption) ?_
      refine own_putF (pc' := 57) rfl d_si4_54 (tw_22 hw) Via.refl (Or.inr ⟨(tw_23 hw), rfl, rfl⟩) (tw_10 hw) (ty := (.array .byte)) (by decide) rfl rfl FV3 E3 (by simp) ?_
      intro h4 W4
      refine own_return rfl d_si4_57 rfl rfl ?_
      refine ⟨(((Keep.refl h [x]).ext E1).wr W3 (Or.inl (List.mem_singleton.mpr rfl))).wr W4 (Or.inl (List.mem_singleton.mpr rfl)), E3.wr W4, hcs, by omega, b, FV3.same W4, FC3.other W4 (Or.inr (Ne.symm sne)), B3.other W4 hxb⟩
  · have hcs0 : cs = [] := by
      rw [z] at hn
      have : (0 : Int32).toInt = 0 := rfl
      exact List.eq_nil_of_length_eq_zero (by omega)
    subst hcs0
    have hen : own_ints (own_enc []) = [] := rfl
    refine own_aload_n (pc' := 9) rfl d_si4_8 rfl (by first | rfl | assumption) ?_
    refine own_ldcS (n := 0) hnw (pc' := 11) rfl d_si4_9 (hw _ (List.mem_of_getElem? (i := 172) rfl)) (own_atoms hw) hEL hme (by decide +kernel) (by decide +kernel) (by decide +kernel) (by decide +kernel) (by decide +kernel) (by decide +kernel) (by decide +kernel) rfl rfl rfl ?_
    intro e1 h1 E1 S1
    obtain ⟨G1, -, -, b1, GV1, GC1, GB1⟩ := S1
    refine own_getF (pc' := 14) rfl d_si4_11 (tw_22 hw) Via.refl GV1 ?_
    refine own_putF (pc' := 17) rfl d_si4_14 (tw_22 hw) Via.refl (Or.inr ⟨(tw_23 hw), rfl, rfl⟩) (tw_10 hw) (ty := (.array .byte)) (by decide) rfl rfl (FV.ext E1) (E.ext E1) (by simp) ?_
    intro h2 W2
    have sne : RoadKit.slotOf K.Z "java/lang/String" "value" "[B" ≠ RoadKit.slotOf K.Z "java/lang/String" "coder" "B" := slot_ne (Or.inr (tw_23 hw)) (Or.inr (tw_25 hw)) (by decide) (t := .array .byte) (t' := .byte) (by decide) (by decide)
    have FV2 := (FV.ext E1).same W2
    have FC2 := (FC.ext E1).other W2 (Or.inr (Ne.symm sne))
    have E2 := (E.ext E1).wr W2
    have hxb : b1 ≠ x := by obtain ⟨c, A, -⟩ := GB1; exact fun q => ne_arr (E.ext E1) (tw_10 hw) A q.symm
    have B2 := GB1.other W2 hxb
    refine own_aload_n (pc' := 18) rfl d_si4_17 rfl (by first | rfl | assumption) ?_
    refine own_ldcS (n := 0) hnw (pc' := 20) rfl d_si4_18 (hw _ (List.mem_of_getElem? (i := 172) rfl)) (own_atoms hw) hEL hme (by decide +kernel) (by decide +kernel) (by decide +kernel) (by decide +kernel) (by decide +kernel) (by decide +kernel) (by decide +kernel) rfl rfl rfl ?_
    intro e3 h3 E3 S3
    obtain ⟨G3, -, -, b3, GV3, GC3, GB3⟩ := S3
    refine own_getF (pc' := 23) rfl d_si4_20 (tw_24 hw) Via.refl GC3 ?_
    refine own_putF (pc' := 26) rfl d_si4_23 (tw_24 hw) Via.refl (Or.inr ⟨(tw_25 hw), rfl, rfl⟩) (tw_10 hw) (ty := .byte) (by decide) rfl rfl (FC2.ext E3) (E2.ext E3) (by simp) ?_
    intro h4 W4
    refine own_return rfl d_si4_26 rfl rfl ?_
    exact ⟨(((((Keep.refl h [x]).ext E1).wr W2 (Or.inl (List.mem_singleton.mpr rfl))).ext E3).wr W4 (Or.inl (List.mem_singleton.mpr rfl))), (E2.ext E3).wr W4, hcs, by simp, b1, (FV2.ext E3).other W4 (Or.inr sne), (FC2.ext E3).same W4, (B2.ext E3).other W4 hxb⟩
theorem d_si1_0 : decode jdk_42_method_3_code 0 = .ok (.aload_n 0, 1) := by decide +kernel
theorem d_si1_1 : decode jdk_42_method_3_code 1 = .ok (.aload_n 1, 1) := by decide +kernel
theorem d_si1_2 : decode jdk_42_method_3_code 2 = .ok (.iconst 0, 1) := by decide +kernel
theorem d_si1_3 : decode jdk_42_method_3_code 3 = .ok (.aload_n 1, 1) := by decide +kernel
theorem d_si1_4 : decode jdk_42_method_3_code 4 = .ok (.arraylength, 1) := by decide +kernel
theorem d_si1_5 : decode jdk_42_method_3_code 5 = .ok (.aconst_null, 1) := by decide +kernel
theorem d_si1_6 : decode jdk_42_method_3_code 6 = .ok (.invokespecial 27, 3) := by decide +kernel
theorem d_si1_9 : decode jdk_42_method_3_code 9 = .ok (.return_, 1) := by decide +kernel
abbrev M_si1 : own_Mi := ((⟨"java/lang/String", "<init>", "([C)V"⟩ : MethodName), jdk_42_method_3_code, 2, (Option.none : Option FieldType), ({ frames := 5, cells := 4, slots := 18, locals := 74 } : Room))
theorem pn_si1 : plainFor (own_Mi.y M_si1) = true := plainFor_of_name (by first | (simp [plainName, overriddenIn]; done) | decide +kernel)
set_option maxRecDepth 65536 in
set_option maxHeartbeats 40000000 in
theorem c_si1 (K : own_Cx) (a0 : Array Value) (hw : ∀ d ∈ tables_1, d.before a0 K.Z = true)
    (hU : own_U16 K)
    (hnw : K.nw = false) (hEL : EW K.Z a0 K.E) (hme : ("java/lang/String", 7) ∈ K.E)
    (x a : Addr) (g : Int32) (cs : List Int32) (h : Heap)
    (hcap : cs.length ≤ 6) (hcs : own_Chs cs) (A : own_Ary K.Z h a .char (own_ints cs))
    (E : Exa K.Z h x "java/lang/String") (FV : Fld K.Z h x "java/lang/String" "value" "[B" .null) (FC : Fld K.Z h x "java/lang/String" "coder" "B" (.int 0)) (SC : Sta K.Z K.Z.heap "java/lang/String" "COMPACT_STRINGS" "Z" (.int g)) (hg : ¬ g = 0)
    : own_Met K M_si1 #[.ref x, .ref a] [x] h (own_void fun h' _ => Keep h h' [x] ∧ own_Str K.Z h' x cs) := by
  have hz : (cs.length.toInt32).toInt = cs.length := own_lit _ (by omega)
  refine own_met_2_0 (M := M_si1) pn_si1 rfl (by first | rfl | exact own_cat (by assumption)) (by first | rfl | exact own_cat (by assumption)) ?_
  refine own_aload_n (pc' := 1) rfl d_si1_0 rfl (by first | rfl | assumption) ?_
  refine own_aload_n (pc' := 2) rfl d_si1_1 rfl (by first | rfl | assumption) ?_
  refine own_iconst (v := (0 : Int32)) (pc' := 3) rfl d_si1_2 rfl ?_
  refine own_aload_n (pc' := 4) rfl d_si1_3 rfl (by first | rfl | assumption) ?_
  refine own_arrlen (z := cs.length.toInt32) (pc' := 5) rfl d_si1_4 A (by rw [hz]; simp) ?_
  refine own_aconst_null (pc' := 6) rfl d_si1_5 ?_
  refine own_special4n (M' := M_si4) d_si1_6 (pc' := 9) rfl rfl rfl (tw_40 hw) (tw_41 hw) (tw_2 hw) (tw_42 hw) (by decide) rfl (own_lenOf pd_7 rfl) rfl rfl rfl rfl (c_si4 K a0 hw hU hnw hEL hme x a _ g cs h hz  hcap hcs A E FV FC SC hg ) (by simp) ?_
  intro h1 xs q
  refine own_return rfl d_si1_9 rfl rfl ?_
  exact q
theorem own_r255 (c : Int32) : 0 ≤ (c &&& 255).toInt ∧ (c &&& 255).toInt < 256 ∧ (c &&& 255).toInt < 65536 := by
  have := c_mask c 255 8 (by decide) (by decide)
  rw [this]
  omega
def own_ch (c : Int32) : Int32 := c.toUInt32.toUInt16.toUInt32.toInt32
/-! STRINGS, their methods -/
abbrev own_sC : String := "java/lang/String"
theorem own_len_enc {cs : List Int32} : (own_lat cs = true → (own_ints (own_enc cs)).length = cs.length) ∧ (own_lat cs = false → (own_ints (own_enc cs)).length = 2 * cs.length) :=
  ⟨fun q => by simp [(own_enc_lat q).1], fun q => by simp [(own_enc_utf q).1, own_two_len]⟩
theorem own_lat_byte {c : Int32} (h0 : 0 ≤ c.toInt) (h1 : c.toInt < 256) : own_bt c &&& 255 = c := by
  apply Int32.toInt_inj.mp
  have b1 := c_mask (own_bt c) 255 8 (by decide) (by decide)
  have b2 := (c_i2b c).1
  have : (own_bt c).toInt = c.toInt8.toInt32.toInt := rfl
  omega
theorem d_cdr_0 : decode jdk_42_method_152_code 0 = .ok (.getstatic 38, 3) := by decide +kernel
theorem d_cdr_3 : decode jdk_42_method_152_code 3 = .ok (.ifCond .eq 10, 3) := by decide +kernel
theorem d_cdr_6 : decode jdk_42_method_152_code 6 = .ok (.aload_n 0, 1) := by decide +kernel
theorem d_cdr_7 : decode jdk_42_method_152_code 7 = .ok (.getfield 15, 3) := by decide +kernel
theorem d_cdr_10 : decode jdk_42_method_152_code 10 = .ok (.goto 4, 3) := by decide +kernel
theorem d_cdr_14 : decode jdk_42_method_152_code 14 = .ok (.ireturn, 1) := by decide +kernel
abbrev M_cdr : own_Mi := ((⟨"java/lang/String", "coder", "()B"⟩ : MethodName), jdk_42_method_152_code, 1, (Option.some FieldType.byte), ({ frames := 0, cells := 0, slots := 0, locals := 0 } : Room))
theorem pn_cdr : plainFor (own_Mi.y M_cdr) = true := plainFor_of_name (by first | (simp [plainName, overriddenIn]; done) | decide +kernel)
set_option maxRecDepth 65536 in
set_option maxHeartbeats 40000000 in
theorem c_cdr (K : own_Cx) (a0 : Array Value) (hw : ∀ d ∈ tables_1, d.before a0 K.Z = true) (g : Int32) (SC : Sta K.Z K.Z.heap own_sC "COMPACT_STRINGS" "Z" (.int g)) (hg : ¬ g = 0) (x : Addr) (cs : List Int32) (h : Heap) (S : own_Str K.Z h x cs) :
    own_Met K M_cdr #[.ref x] [] h (own_ret fun w h' _ => w = .int (own_cod cs) ∧ h' = h) := by
  obtain ⟨E, hcs, hl, b, FV, FC, B⟩ := S
  refine own_met_1_0 (M := M_cdr) pn_cdr rfl (by first | rfl | exact own_cat (by assumption)) ?_
  refine own_getS (pc' := 3) rfl d_cdr_0 (tw_4 hw) Via.refl (by assumption) ?_
  refine own_ifeq (pcT := 13) (pcF := 6) d_cdr_3 (by decide) (by decide) rfl (fun q => ?_) (fun q => ?_)
  · exact absurd q hg
  · skip
    refine own_aload_n (pc' := 7) rfl d_cdr_6 rfl (by first | rfl | assumption) ?_
    refine own_getF (pc' := 10) rfl d_cdr_7 (tw_24 hw) Via.refl (by assumption) ?_
    refine own_goto (pc' := 14) d_cdr_10 (by decide) (by decide) ?_
    refine own_ireturnN (t := .byte) rfl (by simp) (z' := own_cod cs) (by unfold own_cod; split <;> rfl) d_cdr_14 rfl rfl ?_
    exact ⟨rfl, rfl⟩
theorem d_sl_0 : decode jdk_42_method_54_code 0 = .ok (.aload_n 0, 1) := by decide +kernel
theorem d_sl_1 : decode jdk_42_method_54_code 1 = .ok (.getfield 9, 3) := by decide +kernel
theorem d_sl_4 : decode jdk_42_method_54_code 4 = .ok (.arraylength, 1) := by decide +kernel
theorem d_sl_5 : decode jdk_42_method_54_code 5 = .ok (.aload_n 0, 1) := by decide +kernel
theorem d_sl_6 : decode jdk_42_method_54_code 6 = .ok (.invokevirtual 335, 3) := by decide +kernel
theorem d_sl_9 : decode jdk_42_method_54_code 9 = .ok (.ishr, 1) := by decide +kernel
theorem d_sl_10 : decode jdk_42_method_54_code 10 = .ok (.ireturn, 1) := by decide +kernel
abbrev M_sl : own_Mi := ((⟨"java/lang/String", "length", "()I"⟩ : MethodName), jdk_42_method_54_code, 1, (Option.some FieldType.int), ({ frames := 1, cells := 0, slots := 0, locals := 14 } : Room))
theorem pn_sl : plainFor (own_Mi.y M_sl) = true := plainFor_of_name (by first | (simp [plainName, overriddenIn]; done) | decide +kernel)
set_option maxRecDepth 65536 in
set_option maxHeartbeats 40000000 in
theorem c_sl (K : own_Cx) (a0 : Array Value) (hw : ∀ d ∈ tables_1, d.before a0 K.Z = true) (g : Int32) (SC : Sta K.Z K.Z.heap own_sC "COMPACT_STRINGS" "Z" (.int g)) (hg : ¬ g = 0) (x : Addr) (cs : List Int32) (h : Heap) (S : own_Str K.Z h x cs) :
    own_Met K M_sl #[.ref x] [] h (own_ret fun w h' _ => w = .int cs.length.toInt32 ∧ h' = h) := by
  have S' := S
  obtain ⟨E, hcs, hl, b, FV, FC, B⟩ := S'
  have hn : (cs.length.toInt32).toInt = cs.length := own_lit _ (by omega)
  cases ql : own_lat cs
  · have hz : ((2 * cs.length).toInt32).toInt = ((2 * cs.length : Nat) : Int) := own_lit _ (by omega)
    refine own_met_1_0 (M := M_sl) pn_sl rfl (by first | rfl | exact own_cat (by assumption)) ?_
    refine own_aload_n (pc' := 1) rfl d_sl_0 rfl (by first | rfl | assumption) ?_
    refine own_getF (pc' := 4) rfl d_sl_1 (tw_22 hw) Via.refl (by assumption) ?_
    refine own_arrlen (z := (2 * cs.length).toInt32) (pc' := 5) rfl d_sl_4 B (by rw [hz, own_len_enc.2 ql]) ?_
    refine own_aload_n (pc' := 6) rfl d_sl_5 rfl (by first | rfl | assumption) ?_
    refine own_virtual0v (M' := M_cdr) d_sl_6 (pc' := 9) rfl (tw_66 hw) (tw_67 hw) (tw_69 hw) (tw_68 hw) (tw_2 hw) (tw_70 hw) (by decide) rfl (own_lenOf pd_8 rfl) rfl rfl rfl rfl E (c_cdr K a0 hw g SC hg x cs h S) (by simp) ?_
    rintro w h1 xs ⟨rfl, rfl⟩
    refine own_ishr (pc' := 10) rfl d_sl_9 ?_
    refine own_ireturn rfl d_sl_10 rfl rfl ?_
    refine ⟨?_, rfl⟩
    rw [(own_enc_utf ql).2]
    congr 1
    apply Int32.toInt_inj.mp
    have := c_ishr (2 * cs.length).toInt32 1 1 (by decide)
    rw [this, hn, hz]
    omega
  · skip
    refine own_met_1_0 (M := M_sl) pn_sl rfl (by first | rfl | exact own_cat (by assumption)) ?_
    refine own_aload_n (pc' := 1) rfl d_sl_0 rfl (by first | rfl | assumption) ?_
    refine own_getF (pc' := 4) rfl d_sl_1 (tw_22 hw) Via.refl (by assumption) ?_
    refine own_arrlen (z := cs.length.toInt32) (pc' := 5) rfl d_sl_4 B (by rw [hn, own_len_enc.1 ql]) ?_
    refine own_aload_n (pc' := 6) rfl d_sl_5 rfl (by first | rfl | assumption) ?_
    refine own_virtual0v (M' := M_cdr) d_sl_6 (pc' := 9) rfl (tw_66 hw) (tw_67 hw) (tw_69 hw) (tw_68 hw) (tw_2 hw) (tw_70 hw) (by decide) rfl (own_lenOf pd_8 rfl) rfl rfl rfl rfl E (c_cdr K a0 hw g SC hg x cs h S) (by simp) ?_
    rintro w h1 xs ⟨rfl, rfl⟩
    refine own_ishr (pc' := 10) rfl d_sl_9 ?_
    refine own_ireturn rfl d_sl_10 rfl rfl ?_
    exact ⟨by rw [(own_enc_lat ql).2, own_shr0], rfl⟩
theorem d_isl_0 : decode jdk_42_method_154_code 0 = .ok (.getstatic 38, 3) := by decide +kernel
theorem d_isl_3 : decode jdk_42_method_154_code 3 = .ok (.ifCond .eq 14, 3) := by decide +kernel
theorem d_isl_6 : decode jdk_42_method_154_code 6 = .ok (.aload_n 0, 1) := by decide +kernel
theorem d_isl_7 : decode jdk_42_method_154_code 7 = .ok (.getfield 15, 3) := by decide +kernel
theorem d_isl_10 : decode jdk_42_method_154_code 10 = .ok (.ifCond .ne 7, 3) := by decide +kernel
theorem d_isl_13 : decode jdk_42_method_154_code 13 = .ok (.iconst 1, 1) := by decide +kernel
theorem d_isl_14 : decode jdk_42_method_154_code 14 = .ok (.goto 4, 3) := by decide +kernel
theorem d_isl_17 : decode jdk_42_method_154_code 17 = .ok (.iconst 0, 1) := by decide +kernel
theorem d_isl_18 : decode jdk_42_method_154_code 18 = .ok (.ireturn, 1) := by decide +kernel
abbrev M_isl : own_Mi := ((⟨"java/lang/String", "isLatin1", "()Z"⟩ : MethodName), jdk_42_method_154_code, 1, (Option.some FieldType.boolean), ({ frames := 0, cells := 0, slots := 0, locals := 0 } : Room))
theorem pn_isl : plainFor (own_Mi.y M_isl) = true := plainFor_of_name (by first | (simp [plainName, overriddenIn]; done) | decide +kernel)
set_option maxRecDepth 65536 in
set_option maxHeartbeats 40000000 in
theorem c_isl (K : own_Cx) (a0 : Array Value) (hw : ∀ d ∈ tables_1, d.before a0 K.Z = true) (g : Int32) (SC : Sta K.Z K.Z.heap own_sC "COMPACT_STRINGS" "Z" (.int g)) (hg : ¬ g = 0) (x : Addr) (cs : List Int32) (h : Heap) (S : own_Str K.Z h x cs) :
    own_Met K M_isl #[.ref x] [] h (own_ret fun w h' _ => w = .int (if own_lat cs then 1 else 0) ∧ h' = h) := by
  obtain ⟨E, hcs, hl, b, FV, FC, B⟩ := S
  refine own_met_1_0 (M := M_isl) pn_isl rfl (by first | rfl | exact own_cat (by assumption)) ?_
  refine own_getS (pc' := 3) rfl d_isl_0 (tw_4 hw) Via.refl (by assumption) ?_
  refine own_ifeq (pcT := 17) (pcF := 6) d_isl_3 (by decide) (by decide) rfl (fun q => ?_) (fun q => ?_)
  · exact absurd q hg
  · skip
    refine own_aload_n (pc' := 7) rfl d_isl_6 rfl (by first | rfl | assumption) ?_
    refine own_getF (pc' := 10) rfl d_isl_7 (tw_24 hw) Via.refl (by assumption) ?_
    refine own_ifne (pcT := 17) (pcF := 13) d_isl_10 (by decide) (by decide) rfl (fun q2 => ?_) (fun q2 => ?_)
    · skip
      refine own_iconst (v := (0 : Int32)) (pc' := 18) rfl d_isl_17 rfl ?_
      refine own_ireturnN (t := .boolean) rfl (by simp) (by first | exact own_nb0 | exact own_nb1 | rfl) d_isl_18 rfl rfl ?_
      refine ⟨?_, rfl⟩
      cases ql : own_lat cs
      · rfl
      · exact absurd (own_enc_lat ql).2 q2
    · skip
      refine own_iconst (v := (1 : Int32)) (pc' := 14) rfl d_isl_13 rfl ?_
      refine own_goto (pc' := 18) d_isl_14 (by decide) (by decide) ?_
      refine own_ireturnN (t := .boolean) rfl (by simp) (by first | exact own_nb0 | exact own_nb1 | rfl) d_isl_18 rfl rfl ?_
      refine ⟨?_, rfl⟩
      cases ql : own_lat cs
      · rw [(own_enc_utf ql).2] at q2; cases q2
      · rfl
theorem d_ul_0 : decode jdk_52_method_6_code 0 = .ok (.aload_n 0, 1) := by decide +kernel
theorem d_ul_1 : decode jdk_52_method_6_code 1 = .ok (.arraylength, 1) := by decide +kernel
theorem d_ul_2 : decode jdk_52_method_6_code 2 = .ok (.iconst 1, 1) := by decide +kernel
theorem d_ul_3 : decode jdk_52_method_6_code 3 = .ok (.ishr, 1) := by decide +kernel
theorem d_ul_4 : decode jdk_52_method_6_code 4 = .ok (.ireturn, 1) := by decide +kernel
abbrev M_ul : own_Mi := ((⟨"java/lang/StringUTF16", "length", "([B)I"⟩ : MethodName), jdk_52_method_6_code, 1, (Option.some FieldType.int), ({ frames := 0, cells := 0, slots := 0, locals := 0 } : Room))
theorem pn_ul : plainFor (own_Mi.y M_ul) = true := plainFor_of_name (by first | (simp [plainName, overriddenIn]; done) | decide +kernel)
set_option maxRecDepth 65536 in
set_option maxHeartbeats 40000000 in
theorem c_ul (K : own_Cx) (a0 : Array Value) (hw : ∀ d ∈ tables_1, d.before a0 K.Z = true) (b : Addr) (cs : List Int32) (h : Heap) (hl : cs.length < 2 ^ 30) (B : own_Ary K.Z h b .byte (own_ints (own_two cs))) :
    own_Met K M_ul #[.ref b] [] h (own_ret fun w h' _ => w = .int cs.length.toInt32 ∧ h' = h) := by
  have hn : (cs.length.toInt32).toInt = cs.length := own_lit _ (by omega)
  have hz : ((2 * cs.length).toInt32).toInt = ((2 * cs.length : Nat) : Int) := own_lit _ (by omega)
  refine own_met_1_0 (M := M_ul) pn_ul rfl (by first | rfl | exact own_cat (by assumption)) ?_
  refine own_aload_n (pc' := 1) rfl d_ul_0 rfl (by first | rfl | assumption) ?_
  refine own_arrlen (z := (2 * cs.length).toInt32) (pc' := 2) rfl d_ul_1 B (by rw [hz]; simp [own_two_len]) ?_
  refine own_iconst (v := (1 : Int32)) (pc' := 3) rfl d_ul_2 rfl ?_
  refine own_ishr (pc' := 4) rfl d_ul_3 ?_
  refine own_ireturn rfl d_ul_4 rfl rfl ?_
  refine ⟨?_, rfl⟩
  congr 1
  apply Int32.toInt_inj.mp
  have := c_ishr (2 * cs.length).toInt32 1 1 (by decide)
  rw [this, hn, hz]
  omega
theorem d_cen_0 : decode jdk_43_method_3_code 0 = .ok (.iload_n 0, 1) := by decide +kernel
theorem d_cen_1 : decode jdk_43_method_3_code 1 = .ok (.sipush 255, 3) := by decide +kernel
theorem d_cen_4 : decode jdk_43_method_3_code 4 = .ok (.if_icmp .gt 7, 3) := by decide +kernel
theorem d_cen_7 : decode jdk_43_method_3_code 7 = .ok (.iconst 1, 1) := by decide +kernel
theorem d_cen_8 : decode jdk_43_method_3_code 8 = .ok (.goto 4, 3) := by decide +kernel
theorem d_cen_11 : decode jdk_43_method_3_code 11 = .ok (.iconst 0, 1) := by decide +kernel
theorem d_cen_12 : decode jdk_43_method_3_code 12 = .ok (.ireturn, 1) := by decide +kernel
abbrev M_cen : own_Mi := ((⟨"java/lang/StringLatin1", "canEncode", "(C)Z"⟩ : MethodName), jdk_43_method_3_code, 1, (Option.some FieldType.boolean), ({ frames := 0, cells := 0, slots := 0, locals := 0 } : Room))
theorem pn_cen : plainFor (own_Mi.y M_cen) = true := plainFor_of_name (by first | (simp [plainName, overriddenIn]; done) | decide +kernel)
set_option maxRecDepth 65536 in
set_option maxHeartbeats 40000000 in
theorem c_cen (K : own_Cx) (a0 : Array Value) (hw : ∀ d ∈ tables_1, d.before a0 K.Z = true) (c : Int32) (h : Heap) :
    own_Met K M_cen #[.int c] [] h (own_ret fun w h' _ => w = .int (if c.toInt < 256 then 1 else 0) ∧ h' = h) := by
  have z : (255 : Int32).toInt = 255 := rfl
  refine own_met_1_0 (M := M_cen) pn_cen rfl (by first | rfl | exact own_cat (by assumption)) ?_
  refine own_iload_n (pc' := 1) rfl d_cen_0 rfl ?_
  refine own_sipush (v := (255 : Int32)) (pc' := 4) rfl d_cen_1 rfl ?_
  refine own_icmpgt (pcT := 11) (pcF := 7) d_cen_4 (by decide) (by decide) rfl (fun q => ?_) (fun q => ?_)
  · skip
    refine own_iconst (v := (0 : Int32)) (pc' := 12) rfl d_cen_11 rfl ?_
    refine own_ireturnN (t := .boolean) rfl (by simp) (by first | exact own_nb0 | exact own_nb1 | rfl) d_cen_12 rfl rfl ?_
    rw [Int32.lt_iff_toInt_lt] at q
    exact ⟨by rw [if_neg]; omega, rfl⟩
  · skip
    refine own_iconst (v := (1 : Int32)) (pc' := 8) rfl d_cen_7 rfl ?_
    refine own_goto (pc' := 12) d_cen_8 (by decide) (by decide) ?_
    refine own_ireturnN (t := .boolean) rfl (by simp) (by first | exact own_nb0 | exact own_nb1 | rfl) d_cen_12 rfl rfl ?_
    rw [Int32.lt_iff_toInt_lt] at q
    exact ⟨by rw [if_pos]; omega, rfl⟩
theorem d_ltb_0 : decode jdk_43_method_46_code 0 = .ok (.iconst 1, 1) := by decide +kernel
theorem d_ltb_1 : decode jdk_43_method_46_code 1 = .ok (.newarray .byte, 2) := by decide +kernel
theorem d_ltb_3 : decode jdk_43_method_46_code 3 = .ok (.dup, 1) := by decide +kernel
theorem d_ltb_4 : decode jdk_43_method_46_code 4 = .ok (.iconst 0, 1) := by decide +kernel
theorem d_ltb_5 : decode jdk_43_method_46_code 5 = .ok (.iload_n 0, 1) := by decide +kernel
theorem d_ltb_6 : decode jdk_43_method_46_code 6 = .ok (.i2b, 1) := by decide +kernel
theorem d_ltb_7 : decode jdk_43_method_46_code 7 = .ok (.bastore, 1) := by decide +kernel
theorem d_ltb_8 : decode jdk_43_method_46_code 8 = .ok (.areturn, 1) := by decide +kernel
abbrev M_ltb : own_Mi := ((⟨"java/lang/StringLatin1", "toBytes", "(C)[B"⟩ : MethodName), jdk_43_method_46_code, 1, (Option.some (FieldType.array FieldType.byte)), ({ frames := 0, cells := 1, slots := 1, locals := 0 } : Room))
theorem pn_ltb : plainFor (own_Mi.y M_ltb) = true := plainFor_of_name (by first | (simp [plainName, overriddenIn]; done) | decide +kernel)
set_option maxRecDepth 65536 in
set_option maxHeartbeats 40000000 in
theorem c_ltb (K : own_Cx) (a0 : Array Value) (hw : ∀ d ∈ tables_1, d.before a0 K.Z = true) (c : Int32) (h : Heap) :
    own_Met K M_ltb #[.int c] [] h (own_ret fun w h' _ => ∃ b : Addr, w = .ref b ∧ Ext h h' ∧ h.size ≤ b ∧ own_Ary K.Z h' b .byte (own_ints [own_bt c])) := by
  refine own_met_1_0 (M := M_ltb) pn_ltb rfl (by first | rfl | exact own_cat (by assumption)) ?_
  refine own_iconst (v := (1 : Int32)) (pc' := 1) rfl d_ltb_0 rfl ?_
  refine own_newarray (pc' := 3) rfl d_ltb_1 (tw_14 hw) (N := 1) (cap := 1) (by decide) (by decide) rfl rfl rfl ?_
  intro b h1 eb E1 B1
  refine own_dup (pc' := 4) rfl d_ltb_3 (by first | rfl | assumption) ?_
  refine own_iconst (v := (0 : Int32)) (pc' := 5) rfl d_ltb_4 rfl ?_
  refine own_iload_n (pc' := 6) rfl d_ltb_5 rfl ?_
  refine own_i2b (pc' := 7) rfl d_ltb_6 ?_
  refine own_bastore (pc' := 8) rfl d_ltb_7 B1 (i := 0) (by decide) (by simp) (own_bt_nar c) (by simp) ?_
  intro h2 k2 B2
  refine own_areturn rfl rfl (by first | rfl | assumption) d_ltb_8 rfl rfl ?_
  exact ⟨b, rfl, own_ext_keep E1 k2 (by intro x hx; cases List.mem_singleton.mp hx; omega), by omega, B2⟩
theorem d_sib_0 : decode jdk_42_method_151_code 0 = .ok (.aload_n 0, 1) := by decide +kernel
theorem d_sib_1 : decode jdk_42_method_151_code 1 = .ok (.invokespecial 1, 3) := by decide +kernel
theorem d_sib_4 : decode jdk_42_method_151_code 4 = .ok (.aload_n 0, 1) := by decide +kernel
theorem d_sib_5 : decode jdk_42_method_151_code 5 = .ok (.aload_n 1, 1) := by decide +kernel
theorem d_sib_6 : decode jdk_42_method_151_code 6 = .ok (.putfield 9, 3) := by decide +kernel
theorem d_sib_9 : decode jdk_42_method_151_code 9 = .ok (.aload_n 0, 1) := by decide +kernel
theorem d_sib_10 : decode jdk_42_method_151_code 10 = .ok (.iload_n 2, 1) := by decide +kernel
theorem d_sib_11 : decode jdk_42_method_151_code 11 = .ok (.putfield 15, 3) := by decide +kernel
theorem d_sib_14 : decode jdk_42_method_151_code 14 = .ok (.return_, 1) := by decide +kernel
abbrev M_sib : own_Mi := ((⟨"java/lang/String", "<init>", "([BB)V"⟩ : MethodName), jdk_42_method_151_code, 3, (Option.none : Option FieldType), ({ frames := 1, cells := 0, slots := 0, locals := 12 } : Room))
theorem pn_sib : plainFor (own_Mi.y M_sib) = true := plainFor_of_name (by first | (simp [plainName, overriddenIn]; done) | decide +kernel)
set_option maxRecDepth 65536 in
set_option maxHeartbeats 40000000 in
theorem c_sib (K : own_Cx) (a0 : Array Value) (hw : ∀ d ∈ tables_1, d.before a0 K.Z = true) (x b : Addr) (cs : List Int32) (h : Heap) (hcs : own_Chs cs) (hl : cs.length < 2 ^ 30) (E : Exa K.Z h x own_sC) (FV : Fld K.Z h x own_sC "value" "[B" .null) (FC : Fld K.Z h x own_sC "coder" "B" (.int 0)) (B : own_Ary K.Z h b .byte (own_ints (own_enc cs))) (hxb : b ≠ x) :
    own_Met K M_sib #[.ref x, .ref b, .int (own_cod cs)] [x] h (own_void fun h' _ => Keep h h' [x] ∧ own_Str K.Z h' x cs) := by
  have sne : RoadKit.slotOf K.Z own_sC "value" "[B" ≠ RoadKit.slotOf K.Z own_sC "coder" "B" := slot_ne (Or.inr (tw_23 hw)) (Or.inr (tw_25 hw)) (by decide) (t := .array .byte) (t' := .byte) (by decide) (by decide)
  refine own_met_3_0 (M := M_sib) pn_sib rfl (by first | rfl | exact own_cat (by assumption)) (by first | rfl | exact own_cat (by assumption)) (by first | rfl | exact own_cat (by assumption)) ?_
  refine own_aload_n (pc' := 1) rfl d_sib_0 rfl (by first | rfl | assumption) ?_
  refine own_initO (pc' := 4) rfl d_sib_1 (tw_19 hw) (tw_20 hw) (tw_21 hw) rfl rfl rfl ?_
  refine own_aload_n (pc' := 5) rfl d_sib_4 rfl (by first | rfl | assumption) ?_
  refine own_aload_n (pc' := 6) rfl d_sib_5 rfl (by first | rfl | assumption) ?_
  refine own_putF (pc' := 9) rfl d_sib_6 (tw_22 hw) Via.refl (Or.inr ⟨(tw_23 hw), rfl, rfl⟩) (tw_10 hw) (ty := (.array .byte)) (by decide) rfl rfl FV (by assumption) (by simp) ?_
  intro h1 W1
  have FV1 := FV.same W1
  have FC1 := FC.other W1 (Or.inr (Ne.symm sne))
  have E1 := E.wr W1
  have B1 := B.other W1 hxb
  refine own_aload_n (pc' := 10) rfl d_sib_9 rfl (by first | rfl | assumption) ?_
  refine own_iload_n (pc' := 11) rfl d_sib_10 rfl ?_
  refine own_putF (pc' := 14) rfl d_sib_11 (tw_24 hw) Via.refl (Or.inr ⟨(tw_25 hw), rfl, rfl⟩) (tw_10 hw) (ty := .byte) (by decide) (own_cod_byte cs).1 (own_cod_byte cs).2 FC1 E1 (by simp) ?_
  intro h2 W2
  refine own_return rfl d_sib_14 rfl rfl ?_
  exact ⟨(Keep.of_wr W1).wr W2 (Or.inl (List.mem_singleton.mpr rfl)), E1.wr W2, hcs, hl, b, FV1.other W2 (Or.inr sne), FC1.same W2, B1.other W2 hxb⟩
theorem d_svc_0 : decode jdk_42_method_139_code 0 = .ok (.getstatic 38, 3) := by decide +kernel
theorem d_svc_3 : decode jdk_42_method_139_code 3 = .ok (.ifCond .eq 23, 3) := by decide +kernel
theorem d_svc_6 : decode jdk_42_method_139_code 6 = .ok (.iload_n 0, 1) := by decide +kernel
theorem d_svc_7 : decode jdk_42_method_139_code 7 = .ok (.invokestatic 1015, 3) := by decide +kernel
theorem d_svc_10 : decode jdk_42_method_139_code 10 = .ok (.ifCond .eq 16, 3) := by decide +kernel
theorem d_svc_13 : decode jdk_42_method_139_code 13 = .ok (.new 10, 3) := by decide +kernel
theorem d_svc_16 : decode jdk_42_method_139_code 16 = .ok (.dup, 1) := by decide +kernel
theorem d_svc_17 : decode jdk_42_method_139_code 17 = .ok (.iload_n 0, 1) := by decide +kernel
theorem d_svc_18 : decode jdk_42_method_139_code 18 = .ok (.invokestatic 1018, 3) := by decide +kernel
theorem d_svc_21 : decode jdk_42_method_139_code 21 = .ok (.iconst 0, 1) := by decide +kernel
theorem d_svc_22 : decode jdk_42_method_139_code 22 = .ok (.invokespecial 209, 3) := by decide +kernel
theorem d_svc_25 : decode jdk_42_method_139_code 25 = .ok (.areturn, 1) := by decide +kernel
abbrev M_svc : own_Mi := ((⟨"java/lang/String", "valueOf", "(C)Ljava/lang/String;"⟩ : MethodName), jdk_42_method_139_code, 1, (Option.some (FieldType.object "java/lang/String")), ({ frames := 2, cells := 2, slots := 5, locals := 28 } : Room))
theorem pn_svc : plainFor (own_Mi.y M_svc) = true := plainFor_of_name (by first | (simp [plainName, overriddenIn]; done) | decide +kernel)
set_option maxRecDepth 65536 in
set_option maxHeartbeats 40000000 in
theorem c_svc (K : own_Cx) (a0 : Array Value) (hw : ∀ d ∈ tables_1, d.before a0 K.Z = true) (g : Int32) (SC : Sta K.Z K.Z.heap own_sC "COMPACT_STRINGS" "Z" (.int g)) (hg : ¬ g = 0) (c : Int32) (h : Heap) (h0 : 0 ≤ c.toInt) (h1 : c.toInt < 256) :
    own_Met K M_svc #[.int c] [] h (own_ret fun w h' _ => ∃ x : Addr, w = .ref x ∧ Ext h h' ∧ h.size ≤ x ∧ own_Str K.Z h' x [c]) := by
  have ql : own_lat [c] = true := by simp [own_lat, h1]
  refine own_met_1_0 (M := M_svc) pn_svc rfl (by first | rfl | exact own_cat (by assumption)) ?_
  refine own_getS (pc' := 3) rfl d_svc_0 (tw_4 hw) Via.refl (by assumption) ?_
  refine own_ifeq (pcT := 26) (pcF := 6) d_svc_3 (by decide) (by decide) rfl (fun q => ?_) (fun q => ?_)
  · exact absurd q hg
  · skip
    refine own_iload_n (pc' := 7) rfl d_svc_6 rfl ?_
    refine own_static1v (M' := M_cen) d_svc_7 (pc' := 10) rfl (tw_5 hw) (tw_6 hw) (tw_7 hw) (tw_8 hw) (by decide) rfl (own_lenOf pd_9 rfl) rfl rfl rfl rfl (c_cen K a0 hw c h) (by simp) ?_
    rintro w h2 xs ⟨rfl, rfl⟩
    rw [if_pos h1]
    refine own_ifeq (pcT := 26) (pcF := 13) d_svc_10 (by decide) (by decide) rfl (fun q2 => ?_) (fun q2 => ?_)
    · exact absurd q2 (by decide)
    · skip
      refine own_new (pc' := 16) rfl d_svc_13 (tw_9 hw) (tw_10 hw) (tw_2 hw) rfl rfl ?_
      intro x h3 ex E3 X3 D3
      refine own_dup (pc' := 17) rfl d_svc_16 (by first | rfl | assumption) ?_
      refine own_iload_n (pc' := 18) rfl d_svc_17 rfl ?_
      refine own_static1v (M' := M_ltb) d_svc_18 (pc' := 21) rfl (tw_11 hw) (tw_12 hw) (tw_7 hw) (tw_13 hw) (by decide) rfl (own_lenOf pd_10 rfl) rfl rfl rfl rfl (c_ltb K a0 hw c h3) (by simp) ?_
      rintro w h4 xs4 ⟨b, rfl, E4, hb4, B4⟩
      refine own_iconst (v := (0 : Int32)) (pc' := 22) rfl d_svc_21 rfl ?_
      have hx3 : @LT.lt Nat _ x h3.size := X3.lt
      refine own_special2n (M' := M_sib) d_svc_22 (pc' := 25) rfl rfl rfl (tw_15 hw) (tw_16 hw) (tw_2 hw) (tw_18 hw) (by decide) rfl (own_lenOf pd_11 rfl) rfl rfl rfl rfl (show own_Met K M_sib #[.ref x, .ref b, .int 0] [x] h4 _ from by have q := c_sib K a0 hw x b [c] h4 (by simp [own_Chs]; omega) (by simp) (X3.ext E4) ((D3 (Or.inr (tw_23 hw)) (ty := .array .byte) (by decide)).ext E4) ((D3 (Or.inr (tw_25 hw)) (ty := .byte) (by decide)).ext E4) (by rw [(own_enc_lat ql).1]; exact B4) (own_ne (by omega)); rw [(own_enc_lat ql).2] at q; exact q) (by simp) ?_
      rintro h5 xs5 ⟨k5, S5⟩
      refine own_areturn rfl rfl (by first | rfl | assumption) d_svc_25 rfl rfl ?_
      exact ⟨x, rfl, own_ext_keep (own_ext_trans E3 E4) k5 (by intro z hz; cases List.mem_singleton.mp hz; omega), by omega, S5⟩
theorem d_mmx_0 : decode jdk_29_method_65_code 0 = .ok (.iload_n 0, 1) := by decide +kernel
theorem d_mmx_1 : decode jdk_29_method_65_code 1 = .ok (.iload_n 1, 1) := by decide +kernel
theorem d_mmx_2 : decode jdk_29_method_65_code 2 = .ok (.if_icmp .lt 7, 3) := by decide +kernel
theorem d_mmx_5 : decode jdk_29_method_65_code 5 = .ok (.iload_n 0, 1) := by decide +kernel
theorem d_mmx_6 : decode jdk_29_method_65_code 6 = .ok (.goto 4, 3) := by decide +kernel
theorem d_mmx_9 : decode jdk_29_method_65_code 9 = .ok (.iload_n 1, 1) := by decide +kernel
theorem d_mmx_10 : decode jdk_29_method_65_code 10 = .ok (.ireturn, 1) := by decide +kernel
abbrev M_mmx : own_Mi := ((⟨"java/lang/Math", "max", "(II)I"⟩ : MethodName), jdk_29_method_65_code, 2, (Option.some FieldType.int), ({ frames := 0, cells := 0, slots := 0, locals := 0 } : Room))
theorem pn_mmx : plainFor (own_Mi.y M_mmx) = true := Jvm.Free.JP.mathPlain rfl (by decide +kernel)
set_option maxRecDepth 65536 in
set_option maxHeartbeats 40000000 in
theorem c_mmx (K : own_Cx) (a0 : Array Value) (hw : ∀ d ∈ tables_1, d.before a0 K.Z = true) (x y : Int32) (h : Heap) :
    own_Met K M_mmx #[.int x, .int y] [] h (own_ret fun w h' _ => ∃ r : Int32, w = .int r ∧ ((x.toInt < y.toInt ∧ r = y) ∨ (y.toInt ≤ x.toInt ∧ r = x)) ∧ h' = h) := by
  refine own_met_2_0 (M := M_mmx) pn_mmx rfl (by first | rfl | exact own_cat (by assumption)) (by first | rfl | exact own_cat (by assumption)) ?_
  refine own_iload_n (pc' := 1) rfl d_mmx_0 rfl ?_
  refine own_iload_n (pc' := 2) rfl d_mmx_1 rfl ?_
  refine own_icmplt (pcT := 9) (pcF := 5) d_mmx_2 (by decide) (by decide) rfl (fun q => ?_) (fun q => ?_)
  · rw [Int32.lt_iff_toInt_lt] at q
    refine own_iload_n (pc' := 10) rfl d_mmx_9 rfl ?_
    refine own_ireturn rfl d_mmx_10 rfl rfl ?_
    exact ⟨y, rfl, Or.inl ⟨q, rfl⟩, rfl⟩
  · rw [Int32.lt_iff_toInt_lt] at q
    refine own_iload_n (pc' := 6) rfl d_mmx_5 rfl ?_
    refine own_goto (pc' := 10) d_mmx_6 (by decide) (by decide) ?_
    refine own_ireturn rfl d_mmx_10 rfl rfl ?_
    exact ⟨x, rfl, Or.inr ⟨by omega, rfl⟩, rfl⟩
theorem d_mmn_0 : decode jdk_29_method_69_code 0 = .ok (.iload_n 0, 1) := by decide +kernel
theorem d_mmn_1 : decode jdk_29_method_69_code 1 = .ok (.iload_n 1, 1) := by decide +kernel
theorem d_mmn_2 : decode jdk_29_method_69_code 2 = .ok (.if_icmp .gt 7, 3) := by decide +kernel
theorem d_mmn_5 : decode jdk_29_method_69_code 5 = .ok (.iload_n 0, 1) := by decide +kernel
theorem d_mmn_6 : decode jdk_29_method_69_code 6 = .ok (.goto 4, 3) := by decide +kernel
theorem d_mmn_9 : decode jdk_29_method_69_code 9 = .ok (.iload_n 1, 1) := by decide +kernel
theorem d_mmn_10 : decode jdk_29_method_69_code 10 = .ok (.ireturn, 1) := by decide +kernel
abbrev M_mmn : own_Mi := ((⟨"java/lang/Math", "min", "(II)I"⟩ : MethodName), jdk_29_method_69_code, 2, (Option.some FieldType.int), ({ frames := 0, cells := 0, slots := 0, locals := 0 } : Room))
theorem pn_mmn : plainFor (own_Mi.y M_mmn) = true := Jvm.Free.JP.mathPlain rfl (by decide +kernel)
set_option maxRecDepth 65536 in
set_option maxHeartbeats 40000000 in
theorem c_mmn (K : own_Cx) (a0 : Array Value) (hw : ∀ d ∈ tables_1, d.before a0 K.Z = true) (x y : Int32) (h : Heap) :
    own_Met K M_mmn #[.int x, .int y] [] h (own_ret fun w h' _ => ∃ r : Int32, w = .int r ∧ ((y.toInt < x.toInt ∧ r = y) ∨ (x.toInt ≤ y.toInt ∧ r = x)) ∧ h' = h) := by
  refine own_met_2_0 (M := M_mmn) pn_mmn rfl (by first | rfl | exact own_cat (by assumption)) (by first | rfl | exact own_cat (by assumption)) ?_
  refine own_iload_n (pc' := 1) rfl d_mmn_0 rfl ?_
  refine own_iload_n (pc' := 2) rfl d_mmn_1 rfl ?_
  refine own_icmpgt (pcT := 9) (pcF := 5) d_mmn_2 (by decide) (by decide) rfl (fun q => ?_) (fun q => ?_)
  · rw [Int32.lt_iff_toInt_lt] at q
    refine own_iload_n (pc' := 10) rfl d_mmn_9 rfl ?_
    refine own_ireturn rfl d_mmn_10 rfl rfl ?_
    exact ⟨y, rfl, Or.inl ⟨q, rfl⟩, rfl⟩
  · rw [Int32.lt_iff_toInt_lt] at q
    refine own_iload_n (pc' := 6) rfl d_mmn_5 rfl ?_
    refine own_goto (pc' := 10) d_mmn_6 (by decide) (by decide) ?_
    refine own_ireturn rfl d_mmn_10 rfl rfl ?_
    exact ⟨x, rfl, Or.inr ⟨by omega, rfl⟩, rfl⟩
/-! indexOf of a char from a place on -/
def own_ixf (cs : List Int32) (ch : Int32) : Nat → Nat → Int
  | 0, _ => -1
  | k + 1, i => if cs[i]? = some ch then (i : Int) else own_ixf cs ch k (i + 1)
abbrev own_ix (cs : List Int32) (ch : Int32) (i : Nat) : Int := own_ixf cs ch (cs.length - i) i
theorem own_bt_inj {c d : Int32} (h0 : 0 ≤ c.toInt) (h1 : c.toInt < 256) (h2 : 0 ≤ d.toInt) (h3 : d.toInt < 256) (q : own_bt c = own_bt d) : c = d := by
  rw [← own_lat_byte h0 h1, ← own_lat_byte h2 h3, q]
theorem d_cei_0 : decode jdk_43_method_4_code 0 = .ok (.iload_n 0, 1) := by decide +kernel
theorem d_cei_1 : decode jdk_43_method_4_code 1 = .ok (.ifCond .lt 14, 3) := by decide +kernel
theorem d_cei_4 : decode jdk_43_method_4_code 4 = .ok (.iload_n 0, 1) := by decide +kernel
theorem d_cei_5 : decode jdk_43_method_4_code 5 = .ok (.sipush 255, 3) := by decide +kernel
theorem d_cei_8 : decode jdk_43_method_4_code 8 = .ok (.if_icmp .gt 7, 3) := by decide +kernel
theorem d_cei_11 : decode jdk_43_method_4_code 11 = .ok (.iconst 1, 1) := by decide +kernel
theorem d_cei_12 : decode jdk_43_method_4_code 12 = .ok (.goto 4, 3) := by decide +kernel
theorem d_cei_16 : decode jdk_43_method_4_code 16 = .ok (.ireturn, 1) := by decide +kernel
abbrev M_cei : own_Mi := ((⟨"java/lang/StringLatin1", "canEncode", "(I)Z"⟩ : MethodName), jdk_43_method_4_code, 1, (Option.some FieldType.boolean), ({ frames := 0, cells := 0, slots := 0, locals := 0 } : Room))
theorem pn_cei : plainFor (own_Mi.y M_cei) = true := plainFor_of_name (by first | (simp [plainName, overriddenIn]; done) | decide +kernel)
set_option maxRecDepth 65536 in
set_option maxHeartbeats 40000000 in
theorem c_cei (K : own_Cx) (a0 : Array Value) (hw : ∀ d ∈ tables_1, d.before a0 K.Z = true) (c : Int32) (h : Heap) (h0 : 0 ≤ c.toInt) (h1 : c.toInt < 256) :
    own_Met K M_cei #[.int c] [] h (own_ret fun w h' _ => w = .int 1 ∧ h' = h) := by
  have v0 : (0 : Int32).toInt = 0 := rfl
  have v255 : (255 : Int32).toInt = 255 := rfl
  refine own_met_1_0 (M := M_cei) pn_cei rfl (by first | rfl | exact own_cat (by assumption)) ?_
  refine own_iload_n (pc' := 1) rfl d_cei_0 rfl ?_
  refine own_iflt (pcT := 15) (pcF := 4) d_cei_1 (by decide) (by decide) rfl (fun q => ?_) (fun q => ?_)
  · rw [Int32.lt_iff_toInt_lt] at q
    omega
  · skip
    refine own_iload_n (pc' := 5) rfl d_cei_4 rfl ?_
    refine own_sipush (v := (255 : Int32)) (pc' := 8) rfl d_cei_5 rfl ?_
    refine own_icmpgt (pcT := 15) (pcF := 11) d_cei_8 (by decide) (by decide) rfl (fun q2 => ?_) (fun q2 => ?_)
    · rw [Int32.lt_iff_toInt_lt] at q2
      omega
    · skip
      refine own_iconst (v := (1 : Int32)) (pc' := 12) rfl d_cei_11 rfl ?_
      refine own_goto (pc' := 16) d_cei_12 (by decide) (by decide) ?_
      refine own_ireturnN (t := .boolean) rfl (by simp) (by first | exact own_nb0 | exact own_nb1 | rfl) d_cei_16 rfl rfl ?_
      exact ⟨rfl, rfl⟩
theorem d_lic_0 : decode jdk_43_method_23_code 0 = .ok (.iload_n 1, 1) := by decide +kernel
theorem d_lic_1 : decode jdk_43_method_23_code 1 = .ok (.i2b, 1) := by decide +kernel
theorem d_lic_2 : decode jdk_43_method_23_code 2 = .ok (.istore 4, 2) := by decide +kernel
theorem d_lic_4 : decode jdk_43_method_23_code 4 = .ok (.iload_n 2, 1) := by decide +kernel
theorem d_lic_5 : decode jdk_43_method_23_code 5 = .ok (.istore 5, 2) := by decide +kernel
theorem d_lic_7 : decode jdk_43_method_23_code 7 = .ok (.iload 5, 2) := by decide +kernel
theorem d_lic_9 : decode jdk_43_method_23_code 9 = .ok (.iload_n 3, 1) := by decide +kernel
theorem d_lic_10 : decode jdk_43_method_23_code 10 = .ok (.if_icmp .ge 21, 3) := by decide +kernel
theorem d_lic_13 : decode jdk_43_method_23_code 13 = .ok (.aload_n 0, 1) := by decide +kernel
theorem d_lic_14 : decode jdk_43_method_23_code 14 = .ok (.iload 5, 2) := by decide +kernel
theorem d_lic_16 : decode jdk_43_method_23_code 16 = .ok (.baload, 1) := by decide +kernel
theorem d_lic_17 : decode jdk_43_method_23_code 17 = .ok (.iload 4, 2) := by decide +kernel
theorem d_lic_19 : decode jdk_43_method_23_code 19 = .ok (.if_icmp .ne 6, 3) := by decide +kernel
theorem d_lic_22 : decode jdk_43_method_23_code 22 = .ok (.iload 5, 2) := by decide +kernel
theorem d_lic_24 : decode jdk_43_method_23_code 24 = .ok (.ireturn, 1) := by decide +kernel
theorem d_lic_25 : decode jdk_43_method_23_code 25 = .ok (.iinc 5 1, 3) := by decide +kernel
theorem d_lic_28 : decode jdk_43_method_23_code 28 = .ok (.goto (-21), 3) := by decide +kernel
theorem d_lic_31 : decode jdk_43_method_23_code 31 = .ok (.iconst (-1), 1) := by decide +kernel
theorem d_lic_32 : decode jdk_43_method_23_code 32 = .ok (.ireturn, 1) := by decide +kernel
abbrev M_lic : own_Mi := ((⟨"java/lang/StringLatin1", "indexOfChar", "([BIII)I"⟩ : MethodName), jdk_43_method_23_code, 6, (Option.some FieldType.int), ({ frames := 0, cells := 0, slots := 0, locals := 0 } : Room))
theorem pn_lic : plainFor (own_Mi.y M_lic) = true := plainFor_of_name (by first | (simp [plainName, overriddenIn]; done) | decide +kernel)
set_option maxRecDepth 65536 in
set_option maxHeartbeats 40000000 in
theorem c_lic (K : own_Cx) (a0 : Array Value) (hw : ∀ d ∈ tables_1, d.before a0 K.Z = true) (b : Addr) (cs : List Int32) (ch f n : Int32) (F : Nat) (h : Heap) (hcs : own_Chs cs) (ql : own_lat cs = true) (c0 : 0 ≤ ch.toInt) (c1 : ch.toInt < 256) (hf : f.toInt = F) (hF : F ≤ cs.length) (hn : n.toInt = cs.length) (B : own_Ary K.Z h b .byte (own_ints (cs.map own_bt))) :
    own_Met K M_lic #[.ref b, .int ch, .int f, .int n] [] h (own_ret fun w h' _ => ∃ r : Int32, w = .int r ∧ r.toInt = own_ix cs ch F ∧ h' = h) := by
  have hlen := rng32 n
  refine own_met_4_2 (M := M_lic) pn_lic rfl (by first | rfl | exact own_cat (by assumption)) (by first | rfl | exact own_cat (by assumption)) (by first | rfl | exact own_cat (by assumption)) (by first | rfl | exact own_cat (by assumption)) ?_
  refine own_iload_n (pc' := 1) rfl d_lic_0 rfl ?_
  refine own_i2b (pc' := 2) rfl d_lic_1 ?_
  refine own_istore_4 (pc' := 4) rfl d_lic_2 (by first | exact One.u | exact One.val rfl | assumption | exact One.val (by assumption)) ?_
  refine own_iload_n (pc' := 5) rfl d_lic_4 rfl ?_
  refine own_istore_5 (pc' := 7) rfl d_lic_5 (by first | exact One.u | exact One.val rfl | assumption | exact One.val (by assumption)) ?_
  suffices key : ∀ (k i : Nat) (j : Int32), i + k = cs.length → j.toInt = i → own_WP K M_lic (own_ret fun w h' _ => ∃ r : Int32, w = .int r ∧ r.toInt = own_ixf cs ch k i ∧ h' = h) 7 [.val (.ref b), .val (.int ch), .val (.int f), .val (.int n), .val (.int (own_bt ch)), .val (.int j)] [] [] h 0 0 from
    key (cs.length - F) F f (by omega) hf
  intro k
  induction k with
  | zero =>
    intro i j hik hj
    refine own_iload (pc' := 9) rfl d_lic_7 rfl ?_
    refine own_iload_n (pc' := 10) rfl d_lic_9 rfl ?_
    refine own_icmpge (pcT := 31) (pcF := 13) d_lic_10 (by decide) (by decide) rfl (fun q => ?_) (fun q => ?_)
    · skip
      refine own_iconst (v := (-1 : Int32)) (pc' := 32) rfl d_lic_31 rfl ?_
      refine own_ireturn rfl d_lic_32 rfl rfl ?_
      exact ⟨_, rfl, rfl, rfl⟩
    · rw [Int32.lt_iff_toInt_lt] at q
      omega
  | succ k ih =>
    intro i j hik hj
    have hi : i < cs.length := by omega
    obtain ⟨c, hc⟩ : ∃ c, cs[i]? = some c := ⟨cs[i], by simp [hi]⟩
    have hcr := hcs c (List.mem_of_getElem? hc)
    have hcl := own_lat_get ql hc
    refine own_iload (pc' := 9) rfl d_lic_7 rfl ?_
    refine own_iload_n (pc' := 10) rfl d_lic_9 rfl ?_
    refine own_icmpge (pcT := 31) (pcF := 13) d_lic_10 (by decide) (by decide) rfl (fun q => ?_) (fun q => ?_)
    · exact absurd (by rw [Int32.lt_iff_toInt_lt]; omega) q
    · skip
      refine own_aload_n (pc' := 14) rfl d_lic_13 rfl (by first | rfl | assumption) ?_
      refine own_iload (pc' := 16) rfl d_lic_14 rfl ?_
      refine own_baload (pc' := 17) rfl d_lic_16 B (i := i) hj (by first | exact own_ints_get hc | exact own_ints_getM hc) ?_
      refine own_iload (pc' := 19) rfl d_lic_17 rfl ?_
      refine own_icmpne (pcT := 25) (pcF := 22) d_lic_19 (by decide) (by decide) rfl (fun q2 => ?_) (fun q2 => ?_)
      · skip
        refine own_iinc_5 (z := (1 : Int32)) (pc' := 28) rfl d_lic_25 rfl ?_
        refine own_goto (pc' := 7) d_lic_28 (by decide) (by decide) ?_
        have e : own_ixf cs ch (k + 1) i = own_ixf cs ch k (i + 1) := by
          have : ¬ c = ch := fun z => q2 (by rw [z])
          simp [own_ixf, hc, this]
        rw [e]
        exact ih (i + 1) (j + 1) (by omega) (by rw [own_add hj (by rfl : (1 : Int32).toInt = 1)] <;> omega)
      · have e : c = ch := own_bt_inj hcr.1 hcl c0 c1 q2
        refine own_iload (pc' := 24) rfl d_lic_22 rfl ?_
        refine own_ireturn rfl d_lic_24 rfl rfl ?_
        exact ⟨j, rfl, by simp [own_ixf, hc, e, hj], rfl⟩
theorem d_lio_0 : decode jdk_43_method_22_code 0 = .ok (.iload_n 1, 1) := by decide +kernel
theorem d_lio_1 : decode jdk_43_method_22_code 1 = .ok (.invokestatic 88, 3) := by decide +kernel
theorem d_lio_4 : decode jdk_43_method_22_code 4 = .ok (.ifCond .ne 5, 3) := by decide +kernel
theorem d_lio_9 : decode jdk_43_method_22_code 9 = .ok (.iload_n 2, 1) := by decide +kernel
theorem d_lio_10 : decode jdk_43_method_22_code 10 = .ok (.iconst 0, 1) := by decide +kernel
theorem d_lio_11 : decode jdk_43_method_22_code 11 = .ok (.invokestatic 92, 3) := by decide +kernel
theorem d_lio_14 : decode jdk_43_method_22_code 14 = .ok (.istore_n 2, 1) := by decide +kernel
theorem d_lio_15 : decode jdk_43_method_22_code 15 = .ok (.iload_n 3, 1) := by decide +kernel
theorem d_lio_16 : decode jdk_43_method_22_code 16 = .ok (.aload_n 0, 1) := by decide +kernel
theorem d_lio_17 : decode jdk_43_method_22_code 17 = .ok (.arraylength, 1) := by decide +kernel
theorem d_lio_18 : decode jdk_43_method_22_code 18 = .ok (.invokestatic 38, 3) := by decide +kernel
theorem d_lio_21 : decode jdk_43_method_22_code 21 = .ok (.istore_n 3, 1) := by decide +kernel
theorem d_lio_22 : decode jdk_43_method_22_code 22 = .ok (.iload_n 2, 1) := by decide +kernel
theorem d_lio_23 : decode jdk_43_method_22_code 23 = .ok (.iload_n 3, 1) := by decide +kernel
theorem d_lio_24 : decode jdk_43_method_22_code 24 = .ok (.if_icmp .lt 5, 3) := by decide +kernel
theorem d_lio_27 : decode jdk_43_method_22_code 27 = .ok (.iconst (-1), 1) := by decide +kernel
theorem d_lio_28 : decode jdk_43_method_22_code 28 = .ok (.ireturn, 1) := by decide +kernel
theorem d_lio_29 : decode jdk_43_method_22_code 29 = .ok (.aload_n 0, 1) := by decide +kernel
theorem d_lio_30 : decode jdk_43_method_22_code 30 = .ok (.iload_n 1, 1) := by decide +kernel
theorem d_lio_31 : decode jdk_43_method_22_code 31 = .ok (.iload_n 2, 1) := by decide +kernel
theorem d_lio_32 : decode jdk_43_method_22_code 32 = .ok (.iload_n 3, 1) := by decide +kernel
theorem d_lio_33 : decode jdk_43_method_22_code 33 = .ok (.invokestatic 95, 3) := by decide +kernel
theorem d_lio_36 : decode jdk_43_method_22_code 36 = .ok (.ireturn, 1) := by decide +kernel
abbrev M_lio : own_Mi := ((⟨"java/lang/StringLatin1", "indexOf", "([BIII)I"⟩ : MethodName), jdk_43_method_22_code, 4, (Option.some FieldType.int), ({ frames := 1, cells := 0, slots := 0, locals := 17 } : Room))
theorem pn_lio : plainFor (own_Mi.y M_lio) = true := plainFor_of_name (by first | (simp [plainName, overriddenIn]; done) | decide +kernel)
set_option maxRecDepth 65536 in
set_option maxHeartbeats 40000000 in
theorem c_lio (K : own_Cx) (a0 : Array Value) (hw : ∀ d ∈ tables_1, d.before a0 K.Z = true) (b : Addr) (cs : List Int32) (ch f n : Int32) (F : Nat) (h : Heap) (hcs : own_Chs cs) (ql : own_lat cs = true) (c0 : 0 ≤ ch.toInt) (c1 : ch.toInt < 256) (hf : f.toInt = F) (hF : F ≤ cs.length) (hn : n.toInt = cs.length) (B : own_Ary K.Z h b .byte (own_ints (cs.map own_bt))) :
    own_Met K M_lio #[.ref b, .int ch, .int f, .int n] [] h (own_ret fun w h' _ => ∃ r : Int32, w = .int r ∧ r.toInt = own_ix cs ch F ∧ h' = h) := by
  have v0 : (0 : Int32).toInt = 0 := rfl
  refine own_met_4_0 (M := M_lio) pn_lio rfl (by first | rfl | exact own_cat (by assumption)) (by first | rfl | exact own_cat (by assumption)) (by first | rfl | exact own_cat (by assumption)) (by first | rfl | exact own_cat (by assumption)) ?_
  refine own_iload_n (pc' := 1) rfl d_lio_0 rfl ?_
  refine own_static1v (M' := M_cei) d_lio_1 (pc' := 4) rfl (tw_103 hw) (tw_104 hw) (tw_7 hw) (tw_105 hw) (by decide) rfl (own_lenOf pd_12 rfl) rfl rfl rfl rfl (c_cei K a0 hw ch h c0 c1) (by simp) ?_
  rintro w h1 xs ⟨rfl, rfl⟩
  refine own_ifne (pcT := 9) (pcF := 7) d_lio_4 (by decide) (by decide) rfl (fun q => ?_) (fun q => ?_)
  · skip
    refine own_iload_n (pc' := 10) rfl d_lio_9 rfl ?_
    refine own_iconst (v := (0 : Int32)) (pc' := 11) rfl d_lio_10 rfl ?_
    refine own_static2v (M' := M_mmx) d_lio_11 (pc' := 14) rfl (tw_106 hw) (tw_54 hw) (tw_55 hw) (tw_56 hw) (by decide) rfl (own_lenOf pd_13 rfl) rfl rfl rfl rfl (c_mmx K a0 hw f 0 _) (by simp) ?_
    rintro w h2 xs2 ⟨r, rfl, hr, rfl⟩
    obtain rfl : r = f := by rcases hr with ⟨z, rfl⟩ | ⟨z, rfl⟩ <;> first | rfl | (exfalso; omega)
    refine own_istore_n2 (pc' := 15) rfl d_lio_14 (by first | exact One.u | exact One.val rfl | assumption | exact One.val (by assumption)) ?_
    refine own_iload_n (pc' := 16) rfl d_lio_15 rfl ?_
    refine own_aload_n (pc' := 17) rfl d_lio_16 rfl (by first | rfl | assumption) ?_
    refine own_arrlen (z := n) (pc' := 18) rfl d_lio_17 B (by rw [hn]; simp) ?_
    refine own_static2v (M' := M_mmn) d_lio_18 (pc' := 21) rfl (tw_107 hw) (tw_108 hw) (tw_55 hw) (tw_109 hw) (by decide) rfl (own_lenOf pd_13 rfl) rfl rfl rfl rfl (c_mmn K a0 hw n n _) (by simp) ?_
    rintro w h3 xs3 ⟨r3, rfl, hr3, rfl⟩
    obtain rfl : r3 = n := by rcases hr3 with ⟨z, rfl⟩ | ⟨z, rfl⟩ <;> rfl
    refine own_istore_n3 (pc' := 22) rfl d_lio_21 (by first | exact One.u | exact One.val rfl | assumption | exact One.val (by assumption)) ?_
    refine own_iload_n (pc' := 23) rfl d_lio_22 rfl ?_
    refine own_iload_n (pc' := 24) rfl d_lio_23 rfl ?_
    refine own_icmplt (pcT := 29) (pcF := 27) d_lio_24 (by decide) (by decide) rfl (fun q2 => ?_) (fun q2 => ?_)
    · skip
      refine own_aload_n (pc' := 30) rfl d_lio_29 rfl (by first | rfl | assumption) ?_
      refine own_iload_n (pc' := 31) rfl d_lio_30 rfl ?_
      refine own_iload_n (pc' := 32) rfl d_lio_31 rfl ?_
      refine own_iload_n (pc' := 33) rfl d_lio_32 rfl ?_
      refine own_static4v (M' := M_lic) d_lio_33 (pc' := 36) rfl (tw_110 hw) (tw_111 hw) (tw_7 hw) (tw_112 hw) (by decide) rfl (own_lenOf pd_14 rfl) rfl rfl rfl rfl (c_lic K a0 hw b cs ch _ _ F _ hcs ql c0 c1 hf hF hn B) (by simp) ?_
      rintro w h4 xs4 ⟨r4, rfl, hr4, rfl⟩
      refine own_ireturn rfl d_lio_36 rfl rfl ?_
      exact ⟨r4, rfl, hr4, rfl⟩
    · rw [Int32.lt_iff_toInt_lt] at q2
      refine own_iconst (v := (-1 : Int32)) (pc' := 28) rfl d_lio_27 rfl ?_
      refine own_ireturn rfl d_lio_28 rfl rfl ?_
      exact ⟨_, rfl, by show (-1 : Int32).toInt = own_ixf cs ch (cs.length - F) F; rw [show cs.length - F = 0 by omega]; rfl, rfl⟩
  · exact absurd q (by decide)
theorem d_pft_0 : decode jdk_41_method_12_code 0 = .ok (.iload_n 0, 1) := by decide +kernel
theorem d_pft_1 : decode jdk_41_method_12_code 1 = .ok (.ifCond .lt 13, 3) := by decide +kernel
theorem d_pft_4 : decode jdk_41_method_12_code 4 = .ok (.iload_n 0, 1) := by decide +kernel
theorem d_pft_5 : decode jdk_41_method_12_code 5 = .ok (.iload_n 1, 1) := by decide +kernel
theorem d_pft_6 : decode jdk_41_method_12_code 6 = .ok (.if_icmp .gt 8, 3) := by decide +kernel
theorem d_pft_9 : decode jdk_41_method_12_code 9 = .ok (.iload_n 1, 1) := by decide +kernel
theorem d_pft_10 : decode jdk_41_method_12_code 10 = .ok (.iload_n 2, 1) := by decide +kernel
theorem d_pft_11 : decode jdk_41_method_12_code 11 = .ok (.if_icmp .le 11, 3) := by decide +kernel
theorem d_pft_22 : decode jdk_41_method_12_code 22 = .ok (.iload_n 0, 1) := by decide +kernel
theorem d_pft_23 : decode jdk_41_method_12_code 23 = .ok (.ireturn, 1) := by decide +kernel
abbrev M_pft : own_Mi := ((⟨"jdk/internal/util/Preconditions", "checkFromToIndex", "(IIILjava/util/function/BiFunction;)I"⟩ : MethodName), jdk_41_method_12_code, 4, (Option.some FieldType.int), ({ frames := 0, cells := 0, slots := 0, locals := 0 } : Room))
theorem pn_pft : plainFor (own_Mi.y M_pft) = true := plainFor_of_name (by first | (simp [plainName, overriddenIn]; done) | decide +kernel)
set_option maxRecDepth 65536 in
set_option maxHeartbeats 40000000 in
theorem c_pft (K : own_Cx) (a0 : Array Value) (hw : ∀ d ∈ tables_1, d.before a0 K.Z = true) (rf : Value) (hrf : rf.isRef = true) (i j n : Int32) (h : Heap) (h0 : 0 ≤ i.toInt) (h1 : i.toInt ≤ j.toInt) (h2 : j.toInt ≤ n.toInt) :
    own_Met K M_pft #[.int i, .int j, .int n, rf] [] h (own_ret fun w h' _ => w = .int i ∧ h' = h) := by
  have v0 : (0 : Int32).toInt = 0 := rfl
  refine own_met_4_0 (M := M_pft) pn_pft rfl (by first | rfl | exact own_cat (by assumption)) (by first | rfl | exact own_cat (by assumption)) (by first | rfl | exact own_cat (by assumption)) (by first | rfl | exact own_cat (by assumption)) ?_
  refine own_iload_n (pc' := 1) rfl d_pft_0 rfl ?_
  refine own_iflt (pcT := 14) (pcF := 4) d_pft_1 (by decide) (by decide) rfl (fun q => ?_) (fun q => ?_)
  · rw [Int32.lt_iff_toInt_lt] at q
    omega
  · skip
    refine own_iload_n (pc' := 5) rfl d_pft_4 rfl ?_
    refine own_iload_n (pc' := 6) rfl d_pft_5 rfl ?_
    refine own_icmpgt (pcT := 14) (pcF := 9) d_pft_6 (by decide) (by decide) rfl (fun q2 => ?_) (fun q2 => ?_)
    · rw [Int32.lt_iff_toInt_lt] at q2
      omega
    · skip
      refine own_iload_n (pc' := 10) rfl d_pft_9 rfl ?_
      refine own_iload_n (pc' := 11) rfl d_pft_10 rfl ?_
      refine own_icmple (pcT := 22) (pcF := 14) d_pft_11 (by decide) (by decide) rfl (fun q3 => ?_) (fun q3 => ?_)
      · skip
        refine own_iload_n (pc' := 23) rfl d_pft_22 rfl ?_
        refine own_ireturn rfl d_pft_23 rfl rfl ?_
        exact ⟨rfl, rfl⟩
      · rw [Int32.lt_iff_toInt_lt] at q3
        omega
theorem d_sbe_0 : decode jdk_42_method_158_code 0 = .ok (.iload_n 0, 1) := by decide +kernel
theorem d_sbe_1 : decode jdk_42_method_158_code 1 = .ok (.iload_n 1, 1) := by decide +kernel
theorem d_sbe_2 : decode jdk_42_method_158_code 2 = .ok (.iload_n 2, 1) := by decide +kernel
theorem d_sbe_3 : decode jdk_42_method_158_code 3 = .ok (.getstatic 1053, 3) := by decide +kernel
theorem d_sbe_6 : decode jdk_42_method_158_code 6 = .ok (.invokestatic 1062, 3) := by decide +kernel
theorem d_sbe_9 : decode jdk_42_method_158_code 9 = .ok (.pop, 1) := by decide +kernel
theorem d_sbe_10 : decode jdk_42_method_158_code 10 = .ok (.return_, 1) := by decide +kernel
abbrev M_sbe : own_Mi := ((⟨"java/lang/String", "checkBoundsBeginEnd", "(III)V"⟩ : MethodName), jdk_42_method_158_code, 3, (Option.none : Option FieldType), ({ frames := 1, cells := 0, slots := 0, locals := 15 } : Room))
theorem pn_sbe : plainFor (own_Mi.y M_sbe) = true := plainFor_of_name (by first | (simp [plainName, overriddenIn]; done) | decide +kernel)
set_option maxRecDepth 65536 in
set_option maxHeartbeats 40000000 in
theorem c_sbe (K : own_Cx) (a0 : Array Value) (hw : ∀ d ∈ tables_1, d.before a0 K.Z = true) (rf : Value) (hrf : rf.isRef = true) (SF : Sta K.Z K.Z.heap "jdk/internal/util/Preconditions" "SIOOBE_FORMATTER" "Ljava/util/function/BiFunction;" rf) (i j n : Int32) (h : Heap) (h0 : 0 ≤ i.toInt) (h1 : i.toInt ≤ j.toInt) (h2 : j.toInt ≤ n.toInt) :
    own_Met K M_sbe #[.int i, .int j, .int n] [] h (own_void fun h' _ => h' = h) := by
  refine own_met_3_0 (M := M_sbe) pn_sbe rfl (by first | rfl | exact own_cat (by assumption)) (by first | rfl | exact own_cat (by assumption)) (by first | rfl | exact own_cat (by assumption)) ?_
  refine own_iload_n (pc' := 1) rfl d_sbe_0 rfl ?_
  refine own_iload_n (pc' := 2) rfl d_sbe_1 rfl ?_
  refine own_iload_n (pc' := 3) rfl d_sbe_2 rfl ?_
  refine own_getS (pc' := 6) rfl d_sbe_3 (tw_167 hw) Via.refl SF ?_
  refine own_static4v (M' := M_pft) d_sbe_6 (pc' := 9) rfl (tw_168 hw) (tw_82 hw) (tw_83 hw) (tw_84 hw) (by decide) rfl (own_lenOf pd_15 rfl) rfl rfl rfl rfl (c_pft K a0 hw rf hrf i j n h h0 h1 h2) (by simp) ?_
  rintro w h1 xs ⟨rfl, rfl⟩
  refine own_pop (pc' := 10) rfl d_sbe_9 (by first | rfl | assumption) ?_
  refine own_return rfl d_sbe_10 rfl rfl ?_
  rfl
theorem d_ube_0 : decode jdk_52_method_93_code 0 = .ok (.iload_n 0, 1) := by decide +kernel
theorem d_ube_1 : decode jdk_52_method_93_code 1 = .ok (.iload_n 1, 1) := by decide +kernel
theorem d_ube_2 : decode jdk_52_method_93_code 2 = .ok (.aload_n 2, 1) := by decide +kernel
theorem d_ube_3 : decode jdk_52_method_93_code 3 = .ok (.invokestatic 48, 3) := by decide +kernel
theorem d_ube_6 : decode jdk_52_method_93_code 6 = .ok (.invokestatic 241, 3) := by decide +kernel
theorem d_ube_9 : decode jdk_52_method_93_code 9 = .ok (.return_, 1) := by decide +kernel
abbrev M_ube : own_Mi := ((⟨"java/lang/StringUTF16", "checkBoundsBeginEnd", "(II[B)V"⟩ : MethodName), jdk_52_method_93_code, 3, (Option.none : Option FieldType), ({ frames := 2, cells := 0, slots := 0, locals := 29 } : Room))
theorem pn_ube : plainFor (own_Mi.y M_ube) = true := plainFor_of_name (by first | (simp [plainName, overriddenIn]; done) | decide +kernel)
set_option maxRecDepth 65536 in
set_option maxHeartbeats 40000000 in
theorem c_ube (K : own_Cx) (a0 : Array Value) (hw : ∀ d ∈ tables_1, d.before a0 K.Z = true) (rf : Value) (hrf : rf.isRef = true) (SF : Sta K.Z K.Z.heap "jdk/internal/util/Preconditions" "SIOOBE_FORMATTER" "Ljava/util/function/BiFunction;" rf) (b : Addr) (cs : List Int32) (i j : Int32) (h : Heap) (hl : cs.length < 2 ^ 30) (B : own_Ary K.Z h b .byte (own_ints (own_two cs))) (h0 : 0 ≤ i.toInt) (h1 : i.toInt ≤ j.toInt) (h2 : j.toInt ≤ cs.length) :
    own_Met K M_ube #[.int i, .int j, .ref b] [] h (own_void fun h' _ => h' = h) := by
  refine own_met_3_0 (M := M_ube) pn_ube rfl (by first | rfl | exact own_cat (by assumption)) (by first | rfl | exact own_cat (by assumption)) (by first | rfl | exact own_cat (by assumption)) ?_
  refine own_iload_n (pc' := 1) rfl d_ube_0 rfl ?_
  refine own_iload_n (pc' := 2) rfl d_ube_1 rfl ?_
  refine own_aload_n (pc' := 3) rfl d_ube_2 rfl (by first | rfl | assumption) ?_
  refine own_static1v (M' := M_ul) d_ube_3 (pc' := 6) rfl (tw_161 hw) (tw_162 hw) (tw_45 hw) (tw_163 hw) (by decide) rfl (own_lenOf pd_16 rfl) rfl rfl rfl rfl (c_ul K a0 hw b cs h hl B) (by simp) ?_
  rintro w h1 xs ⟨rfl, rfl⟩
  refine own_static3n (M' := M_sbe) d_ube_6 (pc' := 9) rfl (tw_164 hw) (tw_165 hw) (tw_2 hw) (tw_166 hw) (by decide) rfl (own_lenOf pd_17 rfl) rfl rfl rfl rfl (c_sbe K a0 hw rf hrf SF i j _ _ h0 (by assumption) (by rw [own_lit _ (by omega)]; exact h2)) (by simp) ?_
  rintro h3 xs3 rfl
  refine own_return rfl d_ube_9 rfl rfl ?_
  rfl
theorem d_uiu_0 : decode jdk_52_method_48_code 0 = .ok (.iload_n 2, 1) := by decide +kernel
theorem d_uiu_1 : decode jdk_52_method_48_code 1 = .ok (.istore 4, 2) := by decide +kernel
theorem d_uiu_3 : decode jdk_52_method_48_code 3 = .ok (.iload 4, 2) := by decide +kernel
theorem d_uiu_5 : decode jdk_52_method_48_code 5 = .ok (.iload_n 3, 1) := by decide +kernel
theorem d_uiu_6 : decode jdk_52_method_48_code 6 = .ok (.if_icmp .ge 22, 3) := by decide +kernel
theorem d_uiu_9 : decode jdk_52_method_48_code 9 = .ok (.aload_n 0, 1) := by decide +kernel
theorem d_uiu_10 : decode jdk_52_method_48_code 10 = .ok (.iload 4, 2) := by decide +kernel
theorem d_uiu_12 : decode jdk_52_method_48_code 12 = .ok (.invokestatic 71, 3) := by decide +kernel
theorem d_uiu_15 : decode jdk_52_method_48_code 15 = .ok (.iload_n 1, 1) := by decide +kernel
theorem d_uiu_16 : decode jdk_52_method_48_code 16 = .ok (.if_icmp .ne 6, 3) := by decide +kernel
theorem d_uiu_19 : decode jdk_52_method_48_code 19 = .ok (.iload 4, 2) := by decide +kernel
theorem d_uiu_21 : decode jdk_52_method_48_code 21 = .ok (.ireturn, 1) := by decide +kernel
theorem d_uiu_22 : decode jdk_52_method_48_code 22 = .ok (.iinc 4 1, 3) := by decide +kernel
theorem d_uiu_25 : decode jdk_52_method_48_code 25 = .ok (.goto (-22), 3) := by decide +kernel
theorem d_uiu_28 : decode jdk_52_method_48_code 28 = .ok (.iconst (-1), 1) := by decide +kernel
theorem d_uiu_29 : decode jdk_52_method_48_code 29 = .ok (.ireturn, 1) := by decide +kernel
abbrev M_uiu : own_Mi := ((⟨"java/lang/StringUTF16", "indexOfCharUnsafe", "([BIII)I"⟩ : MethodName), jdk_52_method_48_code, 5, (Option.some FieldType.int), ({ frames := 1, cells := 0, slots := 0, locals := 13 } : Room))
theorem pn_uiu : plainFor (own_Mi.y M_uiu) = true := plainFor_of_name (by first | (simp [plainName, overriddenIn]; done) | decide +kernel)
set_option maxRecDepth 65536 in
set_option maxHeartbeats 40000000 in
theorem c_uiu (K : own_Cx) (a0 : Array Value) (hw : ∀ d ∈ tables_1, d.before a0 K.Z = true) (hU : own_U16 K) (b : Addr) (cs : List Int32) (ch f n : Int32) (F : Nat) (h : Heap) (hcs : own_Chs cs) (hl : cs.length < 2 ^ 29) (hf : f.toInt = F) (hF : F ≤ cs.length) (hn : n.toInt = cs.length) (B : own_Ary K.Z h b .byte (own_ints (own_two cs))) :
    own_Met K M_uiu #[.ref b, .int ch, .int f, .int n] [] h (own_ret fun w h' _ => ∃ r : Int32, w = .int r ∧ r.toInt = own_ix cs ch F ∧ h' = h) := by
  refine own_met_4_1 (M := M_uiu) pn_uiu rfl (by first | rfl | exact own_cat (by assumption)) (by first | rfl | exact own_cat (by assumption)) (by first | rfl | exact own_cat (by assumption)) (by first | rfl | exact own_cat (by assumption)) ?_
  refine own_iload_n (pc' := 1) rfl d_uiu_0 rfl ?_
  refine own_istore_4 (pc' := 3) rfl d_uiu_1 (by first | exact One.u | exact One.val rfl | assumption | exact One.val (by assumption)) ?_
  suffices key : ∀ (k i : Nat) (j : Int32) (sf : List Addr), i + k = cs.length → j.toInt = i → own_WP K M_uiu (own_ret fun w h' _ => ∃ r : Int32, w = .int r ∧ r.toInt = own_ixf cs ch k i ∧ h' = h) 3 [.val (.ref b), .val (.int ch), .val (.int f), .val (.int n), .val (.int j)] [] sf h 0 0 from
    key (cs.length - F) F f _ (by omega) hf
  intro k
  induction k with
  | zero =>
    intro i j sf hik hj
    refine own_iload (pc' := 5) rfl d_uiu_3 rfl ?_
    refine own_iload_n (pc' := 6) rfl d_uiu_5 rfl ?_
    refine own_icmpge (pcT := 28) (pcF := 9) d_uiu_6 (by decide) (by decide) rfl (fun q => ?_) (fun q => ?_)
    · skip
      refine own_iconst (v := (-1 : Int32)) (pc' := 29) rfl d_uiu_28 rfl ?_
      refine own_ireturn rfl d_uiu_29 rfl rfl ?_
      exact ⟨_, rfl, rfl, rfl⟩
    · rw [Int32.lt_iff_toInt_lt] at q
      omega
  | succ k ih =>
    intro i j sf hik hj
    have hi : i < cs.length := by omega
    obtain ⟨c, hc⟩ : ∃ c, cs[i]? = some c := ⟨cs[i], by simp [hi]⟩
    refine own_iload (pc' := 5) rfl d_uiu_3 rfl ?_
    refine own_iload_n (pc' := 6) rfl d_uiu_5 rfl ?_
    refine own_icmpge (pcT := 28) (pcF := 9) d_uiu_6 (by decide) (by decide) rfl (fun q => ?_) (fun q => ?_)
    · exact absurd (by rw [Int32.lt_iff_toInt_lt]; omega) q
    · skip
      refine own_aload_n (pc' := 10) rfl d_uiu_9 rfl (by first | rfl | assumption) ?_
      refine own_iload (pc' := 12) rfl d_uiu_10 rfl ?_
      refine own_static2v (M' := M_gc) d_uiu_12 (pc' := 15) rfl (tw_130 hw) (tw_131 hw) (tw_45 hw) (tw_132 hw) (by decide) rfl (own_lenOf pd_5 rfl) rfl rfl rfl rfl (c_gc K a0 hw hU b j i c cs h hj hc (by omega) hcs B) (by simp) ?_
      rintro w h1 xs ⟨rfl, rfl⟩
      refine own_iload_n (pc' := 16) rfl d_uiu_15 rfl ?_
      refine own_icmpne (pcT := 22) (pcF := 19) d_uiu_16 (by decide) (by decide) rfl (fun q2 => ?_) (fun q2 => ?_)
      · skip
        refine own_iinc_4 (z := (1 : Int32)) (pc' := 25) rfl d_uiu_22 rfl ?_
        refine own_goto (pc' := 3) d_uiu_25 (by decide) (by decide) ?_
        have e : own_ixf cs ch (k + 1) i = own_ixf cs ch k (i + 1) := by simp [own_ixf, hc, q2]
        rw [e]
        exact own_weak (ih (i + 1) (j + 1) _ (by omega) (by rw [own_add hj (by rfl : (1 : Int32).toInt = 1)] <;> omega)) (fun x hx => hx) (by exact Nat.le_of_ble_eq_true rfl) (by exact Nat.le_of_ble_eq_true rfl)
      · skip
        refine own_iload (pc' := 21) rfl d_uiu_19 rfl ?_
        refine own_ireturn rfl d_uiu_21 rfl rfl ?_
        exact ⟨j, rfl, by simp [own_ixf, hc, q2, hj], rfl⟩
theorem d_uic_0 : decode jdk_52_method_47_code 0 = .ok (.iload_n 2, 1) := by decide +kernel
theorem d_uic_1 : decode jdk_52_method_47_code 1 = .ok (.iload_n 3, 1) := by decide +kernel
theorem d_uic_2 : decode jdk_52_method_47_code 2 = .ok (.aload_n 0, 1) := by decide +kernel
theorem d_uic_3 : decode jdk_52_method_47_code 3 = .ok (.invokestatic 96, 3) := by decide +kernel
theorem d_uic_6 : decode jdk_52_method_47_code 6 = .ok (.aload_n 0, 1) := by decide +kernel
theorem d_uic_7 : decode jdk_52_method_47_code 7 = .ok (.iload_n 1, 1) := by decide +kernel
theorem d_uic_8 : decode jdk_52_method_47_code 8 = .ok (.iload_n 2, 1) := by decide +kernel
theorem d_uic_9 : decode jdk_52_method_47_code 9 = .ok (.iload_n 3, 1) := by decide +kernel
theorem d_uic_10 : decode jdk_52_method_47_code 10 = .ok (.invokestatic 244, 3) := by decide +kernel
theorem d_uic_13 : decode jdk_52_method_47_code 13 = .ok (.ireturn, 1) := by decide +kernel
abbrev M_uic : own_Mi := ((⟨"java/lang/StringUTF16", "indexOfChar", "([BIII)I"⟩ : MethodName), jdk_52_method_47_code, 4, (Option.some FieldType.int), ({ frames := 3, cells := 0, slots := 0, locals := 43 } : Room))
theorem pn_uic : plainFor (own_Mi.y M_uic) = true := plainFor_of_name (by first | (simp [plainName, overriddenIn]; done) | decide +kernel)
set_option maxRecDepth 65536 in
set_option maxHeartbeats 40000000 in
theorem c_uic (K : own_Cx) (a0 : Array Value) (hw : ∀ d ∈ tables_1, d.before a0 K.Z = true) (hU : own_U16 K) (rf : Value) (hrf : rf.isRef = true) (SF : Sta K.Z K.Z.heap "jdk/internal/util/Preconditions" "SIOOBE_FORMATTER" "Ljava/util/function/BiFunction;" rf) (b : Addr) (cs : List Int32) (ch f n : Int32) (F : Nat) (h : Heap) (hcs : own_Chs cs) (hl : cs.length < 2 ^ 29) (hf : f.toInt = F) (hF : F ≤ cs.length) (hn : n.toInt = cs.length) (B : own_Ary K.Z h b .byte (own_ints (own_two cs))) :
    own_Met K M_uic #[.ref b, .int ch, .int f, .int n] [] h (own_ret fun w h' _ => ∃ r : Int32, w = .int r ∧ r.toInt = own_ix cs ch F ∧ h' = h) := by
  refine own_met_4_0 (M := M_uic) pn_uic rfl (by first | rfl | exact own_cat (by assumption)) (by first | rfl | exact own_cat (by assumption)) (by first | rfl | exact own_cat (by assumption)) (by first | rfl | exact own_cat (by assumption)) ?_
  refine own_iload_n (pc' := 1) rfl d_uic_0 rfl ?_
  refine own_iload_n (pc' := 2) rfl d_uic_1 rfl ?_
  refine own_aload_n (pc' := 3) rfl d_uic_2 rfl (by first | rfl | assumption) ?_
  refine own_static3n (M' := M_ube) d_uic_3 (pc' := 6) rfl (tw_158 hw) (tw_159 hw) (tw_45 hw) (tw_160 hw) (by decide) rfl (own_lenOf pd_18 rfl) rfl rfl rfl rfl (c_ube K a0 hw rf hrf SF b cs f n h (by omega) B (by omega) (by omega) (by omega)) (by simp) ?_
  rintro h1 xs rfl
  refine own_aload_n (pc' := 7) rfl d_uic_6 rfl (by first | rfl | assumption) ?_
  refine own_iload_n (pc' := 8) rfl d_uic_7 rfl ?_
  refine own_iload_n (pc' := 9) rfl d_uic_8 rfl ?_
  refine own_iload_n (pc' := 10) rfl d_uic_9 rfl ?_
  refine own_static4v (M' := M_uiu) d_uic_10 (pc' := 13) rfl (tw_169 hw) (tw_170 hw) (tw_45 hw) (tw_171 hw) (by decide) rfl (own_lenOf pd_14 rfl) rfl rfl rfl rfl (c_uiu K a0 hw hU b cs ch f n F _ hcs hl hf hF hn B) (by simp) ?_
  rintro w h2 xs2 ⟨r, rfl, hr, rfl⟩
  refine own_ireturn rfl d_uic_13 rfl rfl ?_
  exact ⟨r, rfl, hr, rfl⟩
theorem d_uio_0 : decode jdk_52_method_40_code 0 = .ok (.iload_n 2, 1) := by decide +kernel
theorem d_uio_1 : decode jdk_52_method_40_code 1 = .ok (.iconst 0, 1) := by decide +kernel
theorem d_uio_2 : decode jdk_52_method_40_code 2 = .ok (.invokestatic 224, 3) := by decide +kernel
theorem d_uio_5 : decode jdk_52_method_40_code 5 = .ok (.istore_n 2, 1) := by decide +kernel
theorem d_uio_6 : decode jdk_52_method_40_code 6 = .ok (.iload_n 3, 1) := by decide +kernel
theorem d_uio_7 : decode jdk_52_method_40_code 7 = .ok (.aload_n 0, 1) := by decide +kernel
theorem d_uio_8 : decode jdk_52_method_40_code 8 = .ok (.arraylength, 1) := by decide +kernel
theorem d_uio_9 : decode jdk_52_method_40_code 9 = .ok (.iconst 1, 1) := by decide +kernel
theorem d_uio_10 : decode jdk_52_method_40_code 10 = .ok (.ishr, 1) := by decide +kernel
theorem d_uio_11 : decode jdk_52_method_40_code 11 = .ok (.invokestatic 183, 3) := by decide +kernel
theorem d_uio_14 : decode jdk_52_method_40_code 14 = .ok (.istore_n 3, 1) := by decide +kernel
theorem d_uio_15 : decode jdk_52_method_40_code 15 = .ok (.iload_n 2, 1) := by decide +kernel
theorem d_uio_16 : decode jdk_52_method_40_code 16 = .ok (.iload_n 3, 1) := by decide +kernel
theorem d_uio_17 : decode jdk_52_method_40_code 17 = .ok (.if_icmp .lt 5, 3) := by decide +kernel
theorem d_uio_20 : decode jdk_52_method_40_code 20 = .ok (.iconst (-1), 1) := by decide +kernel
theorem d_uio_21 : decode jdk_52_method_40_code 21 = .ok (.ireturn, 1) := by decide +kernel
theorem d_uio_22 : decode jdk_52_method_40_code 22 = .ok (.iload_n 1, 1) := by decide +kernel
theorem d_uio_23 : decode jdk_52_method_40_code 23 = .ok (.ldc 227, 2) := by decide +kernel
theorem d_uio_25 : decode jdk_52_method_40_code 25 = .ok (.if_icmp .ge 11, 3) := by decide +kernel
theorem d_uio_28 : decode jdk_52_method_40_code 28 = .ok (.aload_n 0, 1) := by decide +kernel
theorem d_uio_29 : decode jdk_52_method_40_code 29 = .ok (.iload_n 1, 1) := by decide +kernel
theorem d_uio_30 : decode jdk_52_method_40_code 30 = .ok (.iload_n 2, 1) := by decide +kernel
theorem d_uio_31 : decode jdk_52_method_40_code 31 = .ok (.iload_n 3, 1) := by decide +kernel
theorem d_uio_32 : decode jdk_52_method_40_code 32 = .ok (.invokestatic 228, 3) := by decide +kernel
theorem d_uio_35 : decode jdk_52_method_40_code 35 = .ok (.ireturn, 1) := by decide +kernel
abbrev M_uio : own_Mi := ((⟨"java/lang/StringUTF16", "indexOf", "([BIII)I"⟩ : MethodName), jdk_52_method_40_code, 4, (Option.some FieldType.int), ({ frames := 4, cells := 0, slots := 0, locals := 58 } : Room))
theorem pn_uio : plainFor (own_Mi.y M_uio) = true := plainFor_of_name (by first | (simp [plainName, overriddenIn]; done) | decide +kernel)
set_option maxRecDepth 65536 in
set_option maxHeartbeats 40000000 in
theorem c_uio (K : own_Cx) (a0 : Array Value) (hw : ∀ d ∈ tables_1, d.before a0 K.Z = true) (hU : own_U16 K) (rf : Value) (hrf : rf.isRef = true) (SF : Sta K.Z K.Z.heap "jdk/internal/util/Preconditions" "SIOOBE_FORMATTER" "Ljava/util/function/BiFunction;" rf) (b : Addr) (cs : List Int32) (ch f n : Int32) (F : Nat) (h : Heap) (hcs : own_Chs cs) (hl : cs.length < 2 ^ 29) (c1 : ch.toInt < 65536) (hf : f.toInt = F) (hF : F ≤ cs.length) (hn : n.toInt = cs.length) (B : own_Ary K.Z h b .byte (own_ints (own_two cs))) :
    own_Met K M_uio #[.ref b, .int ch, .int f, .int n] [] h (own_ret fun w h' _ => ∃ r : Int32, w = .int r ∧ r.toInt = own_ix cs ch F ∧ h' = h) := by
  have v0 : (0 : Int32).toInt = 0 := rfl
  have hz : ((2 * cs.length).toInt32).toInt = ((2 * cs.length : Nat) : Int) := own_lit _ (by omega)
  refine own_met_4_0 (M := M_uio) pn_uio rfl (by first | rfl | exact own_cat (by assumption)) (by first | rfl | exact own_cat (by assumption)) (by first | rfl | exact own_cat (by assumption)) (by first | rfl | exact own_cat (by assumption)) ?_
  refine own_iload_n (pc' := 1) rfl d_uio_0 rfl ?_
  refine own_iconst (v := (0 : Int32)) (pc' := 2) rfl d_uio_1 rfl ?_
  refine own_static2v (M' := M_mmx) d_uio_2 (pc' := 5) rfl (tw_152 hw) (tw_54 hw) (tw_55 hw) (tw_56 hw) (by decide) rfl (own_lenOf pd_13 rfl) rfl rfl rfl rfl (c_mmx K a0 hw f 0 _) (by simp) ?_
  rintro w h2 xs2 ⟨r, rfl, hr, rfl⟩
  obtain rfl : r = f := by rcases hr with ⟨z, rfl⟩ | ⟨z, rfl⟩ <;> first | rfl | (exfalso; omega)
  refine own_istore_n2 (pc' := 6) rfl d_uio_5 (by first | exact One.u | exact One.val rfl | assumption | exact One.val (by assumption)) ?_
  refine own_iload_n (pc' := 7) rfl d_uio_6 rfl ?_
  refine own_aload_n (pc' := 8) rfl d_uio_7 rfl (by first | rfl | assumption) ?_
  refine own_arrlen (z := (2 * cs.length).toInt32) (pc' := 9) rfl d_uio_8 B (by rw [hz]; simp [own_two_len]) ?_
  refine own_iconst (v := (1 : Int32)) (pc' := 10) rfl d_uio_9 rfl ?_
  refine own_ishr (pc' := 11) rfl d_uio_10 ?_
  have e2 : (2 * cs.length).toInt32 >>> ((1 : Int32) &&& 31) = n := by
    apply Int32.toInt_inj.mp
    have := c_ishr (2 * cs.length).toInt32 1 1 (by decide)
    rw [this, hz, hn]
    omega
  rw [e2]
  refine own_static2v (M' := M_mmn) d_uio_11 (pc' := 14) rfl (tw_153 hw) (tw_108 hw) (tw_55 hw) (tw_109 hw) (by decide) rfl (own_lenOf pd_13 rfl) rfl rfl rfl rfl (c_mmn K a0 hw n n _) (by simp) ?_
  rintro w h3 xs3 ⟨r3, rfl, hr3, rfl⟩
  obtain rfl : r3 = n := by rcases hr3 with ⟨z, rfl⟩ | ⟨z, rfl⟩ <;> rfl
  refine own_istore_n3 (pc' := 15) rfl d_uio_14 (by first | exact One.u | exact One.val rfl | assumption | exact One.val (by assumption)) ?_
  refine own_iload_n (pc' := 16) rfl d_uio_15 rfl ?_
  refine own_iload_n (pc' := 17) rfl d_uio_16 rfl ?_
  refine own_icmplt (pcT := 22) (pcF := 20) d_uio_17 (by decide) (by decide) rfl (fun q2 => ?_) (fun q2 => ?_)
  · skip
    refine own_iload_n (pc' := 23) rfl d_uio_22 rfl ?_
    refine own_ldcI (pc' := 25) rfl d_uio_23 (tw_154 hw) ?_
    refine own_icmpge (pcT := 36) (pcF := 28) d_uio_25 (by decide) (by decide) rfl (fun q3 => ?_) (fun q3 => ?_)
    · exfalso
      apply q3
      rw [Int32.lt_iff_toInt_lt]
      have : (65536 : Int32).toInt = 65536 := rfl
      omega
    · skip
      refine own_aload_n (pc' := 29) rfl d_uio_28 rfl (by first | rfl | assumption) ?_
      refine own_iload_n (pc' := 30) rfl d_uio_29 rfl ?_
      refine own_iload_n (pc' := 31) rfl d_uio_30 rfl ?_
      refine own_iload_n (pc' := 32) rfl d_uio_31 rfl ?_
      refine own_static4v (M' := M_uic) d_uio_32 (pc' := 35) rfl (tw_155 hw) (tw_156 hw) (tw_45 hw) (tw_157 hw) (by decide) rfl (own_lenOf pd_14 rfl) rfl rfl rfl rfl (c_uic K a0 hw hU rf hrf SF b cs ch _ _ F _ hcs hl hf hF hn B) (by simp) ?_
      rintro w h4 xs4 ⟨r4, rfl, hr4, rfl⟩
      refine own_ireturn rfl d_uio_35 rfl rfl ?_
      exact ⟨r4, rfl, hr4, rfl⟩
  · rw [Int32.lt_iff_toInt_lt] at q2
    refine own_iconst (v := (-1 : Int32)) (pc' := 21) rfl d_uio_20 rfl ?_
    refine own_ireturn rfl d_uio_21 rfl rfl ?_
    exact ⟨_, rfl, by show (-1 : Int32).toInt = own_ixf cs ch (cs.length - F) F; rw [show cs.length - F = 0 by omega]; rfl, rfl⟩
theorem d_six_0 : decode jdk_42_method_80_code 0 = .ok (.aload_n 0, 1) := by decide +kernel
theorem d_six_1 : decode jdk_42_method_80_code 1 = .ok (.invokevirtual 492, 3) := by decide +kernel
theorem d_six_4 : decode jdk_42_method_80_code 4 = .ok (.ifCond .eq 19, 3) := by decide +kernel
theorem d_six_7 : decode jdk_42_method_80_code 7 = .ok (.aload_n 0, 1) := by decide +kernel
theorem d_six_8 : decode jdk_42_method_80_code 8 = .ok (.getfield 9, 3) := by decide +kernel
theorem d_six_11 : decode jdk_42_method_80_code 11 = .ok (.iload_n 1, 1) := by decide +kernel
theorem d_six_12 : decode jdk_42_method_80_code 12 = .ok (.iload_n 2, 1) := by decide +kernel
theorem d_six_13 : decode jdk_42_method_80_code 13 = .ok (.aload_n 0, 1) := by decide +kernel
theorem d_six_14 : decode jdk_42_method_80_code 14 = .ok (.invokevirtual 505, 3) := by decide +kernel
theorem d_six_17 : decode jdk_42_method_80_code 17 = .ok (.invokestatic 637, 3) := by decide +kernel
theorem d_six_20 : decode jdk_42_method_80_code 20 = .ok (.goto 16, 3) := by decide +kernel
theorem d_six_23 : decode jdk_42_method_80_code 23 = .ok (.aload_n 0, 1) := by decide +kernel
theorem d_six_24 : decode jdk_42_method_80_code 24 = .ok (.getfield 9, 3) := by decide +kernel
theorem d_six_27 : decode jdk_42_method_80_code 27 = .ok (.iload_n 1, 1) := by decide +kernel
theorem d_six_28 : decode jdk_42_method_80_code 28 = .ok (.iload_n 2, 1) := by decide +kernel
theorem d_six_29 : decode jdk_42_method_80_code 29 = .ok (.aload_n 0, 1) := by decide +kernel
theorem d_six_30 : decode jdk_42_method_80_code 30 = .ok (.invokevirtual 505, 3) := by decide +kernel
theorem d_six_33 : decode jdk_42_method_80_code 33 = .ok (.invokestatic 640, 3) := by decide +kernel
theorem d_six_36 : decode jdk_42_method_80_code 36 = .ok (.ireturn, 1) := by decide +kernel
abbrev M_six : own_Mi := ((⟨"java/lang/String", "indexOf", "(II)I"⟩ : MethodName), jdk_42_method_80_code, 3, (Option.some FieldType.int), ({ frames := 5, cells := 0, slots := 0, locals := 73 } : Room))
theorem pn_six : plainFor (own_Mi.y M_six) = true := plainFor_of_name (by first | (simp [plainName, overriddenIn]; done) | decide +kernel)
set_option maxRecDepth 65536 in
set_option maxHeartbeats 40000000 in
theorem c_six (K : own_Cx) (a0 : Array Value) (hw : ∀ d ∈ tables_1, d.before a0 K.Z = true)
    (hU : own_U16 K) (rf : Value) (hrf : rf.isRef = true) (SF : Sta K.Z K.Z.heap "jdk/internal/util/Preconditions" "SIOOBE_FORMATTER" "Ljava/util/function/BiFunction;" rf)
    (g : Int32) (SC : Sta K.Z K.Z.heap own_sC "COMPACT_STRINGS" "Z" (.int g)) (hg : ¬ g = 0) (x : Addr) (cs : List Int32) (ch f : Int32) (F : Nat) (h : Heap) (S : own_Str K.Z h x cs)
    (hl : cs.length < 2 ^ 29) (c0 : 0 ≤ ch.toInt) (c1 : ch.toInt < 256) (hf : f.toInt = F) (hF : F ≤ cs.length) :
    own_Met K M_six #[.ref x, .int ch, .int f] [] h (own_ret fun w h' _ => ∃ r : Int32, w = .int r ∧ r.toInt = own_ix cs ch F ∧ h' = h) := by
  have S' := S
  obtain ⟨E, hcs, -, b, FV, FC, B⟩ := S
  have hn : (cs.length.toInt32).toInt = cs.length := own_lit _ (by omega)
  refine own_met_3_0 (M := M_six) pn_six rfl (by first | rfl | exact own_cat (by assumption)) (by first | rfl | exact own_cat (by assumption)) (by first | rfl | exact own_cat (by assumption)) ?_
  refine own_aload_n (pc' := 1) rfl d_six_0 rfl (by first | rfl | assumption) ?_
  refine own_virtual0v (M' := M_isl) d_six_1 (pc' := 4) rfl (tw_85 hw) (tw_86 hw) (tw_88 hw) (tw_87 hw) (tw_2 hw) (tw_89 hw) (by decide) rfl (own_lenOf pd_19 rfl) rfl rfl rfl rfl E (c_isl K a0 hw g SC hg x cs h S') (by simp) ?_
  rintro w h1 xs ⟨rfl, rfl⟩
  cases ql : own_lat cs
  · skip
    refine own_ifeq (pcT := 23) (pcF := 7) d_six_4 (by decide) (by decide) rfl (fun q => ?_) (fun q => ?_)
    · skip
      refine own_aload_n (pc' := 24) rfl d_six_23 rfl (by first | rfl | assumption) ?_
      refine own_getF (pc' := 27) rfl d_six_24 (tw_22 hw) Via.refl FV ?_
      refine own_iload_n (pc' := 28) rfl d_six_27 rfl ?_
      refine own_iload_n (pc' := 29) rfl d_six_28 rfl ?_
      refine own_aload_n (pc' := 30) rfl d_six_29 rfl (by first | rfl | assumption) ?_
      refine own_virtual0v (M' := M_sl) d_six_30 (pc' := 33) rfl (tw_76 hw) (tw_62 hw) (tw_64 hw) (tw_63 hw) (tw_2 hw) (tw_65 hw) (by decide) rfl (own_lenOf pd_20 rfl) rfl rfl rfl rfl E (c_sl K a0 hw g SC hg x cs _ S') (by simp) ?_
      rintro w h2 xs2 ⟨rfl, rfl⟩
      rw [(own_enc_utf ql).1] at B
      refine own_static4v (M' := M_uio) d_six_33 (pc' := 36) rfl (tw_149 hw) (tw_150 hw) (tw_45 hw) (tw_151 hw) (by decide) rfl (own_lenOf pd_14 rfl) rfl rfl rfl rfl (c_uio K a0 hw hU rf hrf SF b cs ch f _ F _ hcs hl (by omega) hf hF hn B) (by simp) ?_
      rintro w h3 xs3 ⟨r, rfl, hr, rfl⟩
      refine own_ireturn rfl d_six_36 rfl rfl ?_
      exact ⟨r, rfl, hr, rfl⟩
    · exact absurd (by simp) q
  · skip
    refine own_ifeq (pcT := 23) (pcF := 7) d_six_4 (by decide) (by decide) rfl (fun q => ?_) (fun q => ?_)
    · exact absurd q (by simp)
    · skip
      refine own_aload_n (pc' := 8) rfl d_six_7 rfl (by first | rfl | assumption) ?_
      refine own_getF (pc' := 11) rfl d_six_8 (tw_22 hw) Via.refl FV ?_
      refine own_iload_n (pc' := 12) rfl d_six_11 rfl ?_
      refine own_iload_n (pc' := 13) rfl d_six_12 rfl ?_
      refine own_aload_n (pc' := 14) rfl d_six_13 rfl (by first | rfl | assumption) ?_
      refine own_virtual0v (M' := M_sl) d_six_14 (pc' := 17) rfl (tw_76 hw) (tw_62 hw) (tw_64 hw) (tw_63 hw) (tw_2 hw) (tw_65 hw) (by decide) rfl (own_lenOf pd_20 rfl) rfl rfl rfl rfl E (c_sl K a0 hw g SC hg x cs _ S') (by simp) ?_
      rintro w h2 xs2 ⟨rfl, rfl⟩
      rw [(own_enc_lat ql).1] at B
      refine own_static4v (M' := M_lio) d_six_17 (pc' := 20) rfl (tw_100 hw) (tw_101 hw) (tw_7 hw) (tw_102 hw) (by decide) rfl (own_lenOf pd_14 rfl) rfl rfl rfl rfl (c_lio K a0 hw b cs ch f _ F _ hcs ql c0 c1 hf hF hn B) (by simp) ?_
      rintro w h3 xs3 ⟨r, rfl, hr, rfl⟩
      refine own_goto (pc' := 36) d_six_20 (by decide) (by decide) ?_
      refine own_ireturn rfl d_six_36 rfl rfl ?_
      exact ⟨r, rfl, hr, rfl⟩
theorem d_si1x_0 : decode jdk_42_method_79_code 0 = .ok (.aload_n 0, 1) := by decide +kernel
theorem d_si1x_1 : decode jdk_42_method_79_code 1 = .ok (.iload_n 1, 1) := by decide +kernel
theorem d_si1x_2 : decode jdk_42_method_79_code 2 = .ok (.iconst 0, 1) := by decide +kernel
theorem d_si1x_3 : decode jdk_42_method_79_code 3 = .ok (.invokevirtual 633, 3) := by decide +kernel
theorem d_si1x_6 : decode jdk_42_method_79_code 6 = .ok (.ireturn, 1) := by decide +kernel
abbrev M_si1x : own_Mi := ((⟨"java/lang/String", "indexOf", "(I)I"⟩ : MethodName), jdk_42_method_79_code, 2, (Option.some FieldType.int), ({ frames := 6, cells := 0, slots := 0, locals := 87 } : Room))
theorem pn_si1x : plainFor (own_Mi.y M_si1x) = true := plainFor_of_name (by first | (simp [plainName, overriddenIn]; done) | decide +kernel)
set_option maxRecDepth 65536 in
set_option maxHeartbeats 40000000 in
theorem c_si1x (K : own_Cx) (a0 : Array Value) (hw : ∀ d ∈ tables_1, d.before a0 K.Z = true)
    (hU : own_U16 K) (rf : Value) (hrf : rf.isRef = true) (SF : Sta K.Z K.Z.heap "jdk/internal/util/Preconditions" "SIOOBE_FORMATTER" "Ljava/util/function/BiFunction;" rf)
    (g : Int32) (SC : Sta K.Z K.Z.heap own_sC "COMPACT_STRINGS" "Z" (.int g)) (hg : ¬ g = 0) (x : Addr) (cs : List Int32) (ch : Int32) (h : Heap) (S : own_Str K.Z h x cs)
    (hl : cs.length < 2 ^ 29) (c0 : 0 ≤ ch.toInt) (c1 : ch.toInt < 256) :
    own_Met K M_si1x #[.ref x, .int ch] [] h (own_ret fun w h' _ => ∃ r : Int32, w = .int r ∧ r.toInt = own_ix cs ch 0 ∧ h' = h) := by
  refine own_met_2_0 (M := M_si1x) pn_si1x rfl (by first | rfl | exact own_cat (by assumption)) (by first | rfl | exact own_cat (by assumption)) ?_
  refine own_aload_n (pc' := 1) rfl d_si1x_0 rfl (by first | rfl | assumption) ?_
  refine own_iload_n (pc' := 2) rfl d_si1x_1 rfl ?_
  refine own_iconst (v := (0 : Int32)) (pc' := 3) rfl d_si1x_2 rfl ?_
  refine own_virtual2v (M' := M_six) d_si1x_3 (pc' := 6) rfl (tw_95 hw) (tw_96 hw) (tw_98 hw) (tw_97 hw) (tw_2 hw) (tw_99 hw) (by decide) rfl (own_lenOf pd_13 rfl) rfl rfl rfl rfl S.1 (c_six K a0 hw hU rf hrf SF g SC hg x cs ch 0 0 h S hl c0 c1 rfl (Nat.zero_le _)) (by simp) ?_
  rintro w h1 xs ⟨r, rfl, hr, rfl⟩
  refine own_ireturn rfl d_si1x_6 rfl rfl ?_
  exact ⟨r, rfl, hr, rfl⟩
/-! surrogates -/
def own_hi (c : Int32) : Bool := decide (55296 ≤ c.toInt) && decide (c.toInt < 56320)
def own_lo (c : Int32) : Bool := decide (56320 ≤ c.toInt) && decide (c.toInt < 57344)
theorem d_chs_0 : decode jdk_89_method_14_code 0 = .ok (.iload_n 0, 1) := by decide +kernel
theorem d_chs_1 : decode jdk_89_method_14_code 1 = .ok (.ldc 75, 2) := by decide +kernel
theorem d_chs_3 : decode jdk_89_method_14_code 3 = .ok (.if_icmp .lt 13, 3) := by decide +kernel
theorem d_chs_6 : decode jdk_89_method_14_code 6 = .ok (.iload_n 0, 1) := by decide +kernel
theorem d_chs_7 : decode jdk_89_method_14_code 7 = .ok (.ldc 76, 2) := by decide +kernel
theorem d_chs_9 : decode jdk_89_method_14_code 9 = .ok (.if_icmp .ge 7, 3) := by decide +kernel
theorem d_chs_12 : decode jdk_89_method_14_code 12 = .ok (.iconst 1, 1) := by decide +kernel
theorem d_chs_13 : decode jdk_89_method_14_code 13 = .ok (.goto 4, 3) := by decide +kernel
theorem d_chs_16 : decode jdk_89_method_14_code 16 = .ok (.iconst 0, 1) := by decide +kernel
theorem d_chs_17 : decode jdk_89_method_14_code 17 = .ok (.ireturn, 1) := by decide +kernel
abbrev M_chs : own_Mi := ((⟨"java/lang/Character", "isHighSurrogate", "(C)Z"⟩ : MethodName), jdk_89_method_14_code, 1, (Option.some FieldType.boolean), ({ frames := 0, cells := 0, slots := 0, locals := 0 } : Room))
theorem pn_chs : plainFor (own_Mi.y M_chs) = true := plainFor_of_name (by first | (simp [plainName, overriddenIn]; done) | decide +kernel)
set_option maxRecDepth 65536 in
set_option maxHeartbeats 40000000 in
theorem c_chs (K : own_Cx) (a0 : Array Value) (hw : ∀ d ∈ tables_1, d.before a0 K.Z = true) (c : Int32) (h : Heap) :
    own_Met K M_chs #[.int c] [] h (own_ret fun w h' _ => w = .int (if own_hi c then 1 else 0) ∧ h' = h) := by
  have v1 : (55296 : Int32).toInt = 55296 := rfl
  have v2 : (56320 : Int32).toInt = 56320 := rfl
  refine own_met_1_0 (M := M_chs) pn_chs rfl (by first | rfl | exact own_cat (by assumption)) ?_
  refine own_iload_n (pc' := 1) rfl d_chs_0 rfl ?_
  refine own_ldcI (pc' := 3) rfl d_chs_1 (tw_143 hw) ?_
  refine own_icmplt (pcT := 16) (pcF := 6) d_chs_3 (by decide) (by decide) rfl (fun q => ?_) (fun q => ?_)
  · rw [Int32.lt_iff_toInt_lt] at q
    refine own_iconst (v := (0 : Int32)) (pc' := 17) rfl d_chs_16 rfl ?_
    refine own_ireturnN (t := .boolean) rfl (by simp) (by first | exact own_nb0 | exact own_nb1 | rfl) d_chs_17 rfl rfl ?_
    exact ⟨by rw [show own_hi c = false by simp [own_hi]; omega]; rfl, rfl⟩
  · rw [Int32.lt_iff_toInt_lt] at q
    refine own_iload_n (pc' := 7) rfl d_chs_6 rfl ?_
    refine own_ldcI (pc' := 9) rfl d_chs_7 (tw_144 hw) ?_
    refine own_icmpge (pcT := 16) (pcF := 12) d_chs_9 (by decide) (by decide) rfl (fun q2 => ?_) (fun q2 => ?_)
    · rw [Int32.lt_iff_toInt_lt] at q2
      refine own_iconst (v := (0 : Int32)) (pc' := 17) rfl d_chs_16 rfl ?_
      refine own_ireturnN (t := .boolean) rfl (by simp) (by first | exact own_nb0 | exact own_nb1 | rfl) d_chs_17 rfl rfl ?_
      exact ⟨by rw [show own_hi c = false by simp [own_hi]; omega]; rfl, rfl⟩
    · rw [Int32.lt_iff_toInt_lt] at q2
      refine own_iconst (v := (1 : Int32)) (pc' := 13) rfl d_chs_12 rfl ?_
      refine own_goto (pc' := 17) d_chs_13 (by decide) (by decide) ?_
      refine own_ireturnN (t := .boolean) rfl (by simp) (by first | exact own_nb0 | exact own_nb1 | rfl) d_chs_17 rfl rfl ?_
      exact ⟨by rw [show own_hi c = true by simp [own_hi]; omega]; rfl, rfl⟩
theorem d_cls_0 : decode jdk_89_method_15_code 0 = .ok (.iload_n 0, 1) := by decide +kernel
theorem d_cls_1 : decode jdk_89_method_15_code 1 = .ok (.ldc 76, 2) := by decide +kernel
theorem d_cls_3 : decode jdk_89_method_15_code 3 = .ok (.if_icmp .lt 13, 3) := by decide +kernel
theorem d_cls_6 : decode jdk_89_method_15_code 6 = .ok (.iload_n 0, 1) := by decide +kernel
theorem d_cls_7 : decode jdk_89_method_15_code 7 = .ok (.ldc 77, 2) := by decide +kernel
theorem d_cls_9 : decode jdk_89_method_15_code 9 = .ok (.if_icmp .ge 7, 3) := by decide +kernel
theorem d_cls_12 : decode jdk_89_method_15_code 12 = .ok (.iconst 1, 1) := by decide +kernel
theorem d_cls_13 : decode jdk_89_method_15_code 13 = .ok (.goto 4, 3) := by decide +kernel
theorem d_cls_16 : decode jdk_89_method_15_code 16 = .ok (.iconst 0, 1) := by decide +kernel
theorem d_cls_17 : decode jdk_89_method_15_code 17 = .ok (.ireturn, 1) := by decide +kernel
abbrev M_cls : own_Mi := ((⟨"java/lang/Character", "isLowSurrogate", "(C)Z"⟩ : MethodName), jdk_89_method_15_code, 1, (Option.some FieldType.boolean), ({ frames := 0, cells := 0, slots := 0, locals := 0 } : Room))
theorem pn_cls : plainFor (own_Mi.y M_cls) = true := plainFor_of_name (by first | (simp [plainName, overriddenIn]; done) | decide +kernel)
set_option maxRecDepth 65536 in
set_option maxHeartbeats 40000000 in
theorem c_cls (K : own_Cx) (a0 : Array Value) (hw : ∀ d ∈ tables_1, d.before a0 K.Z = true) (c : Int32) (h : Heap) :
    own_Met K M_cls #[.int c] [] h (own_ret fun w h' _ => w = .int (if own_lo c then 1 else 0) ∧ h' = h) := by
  have v1 : (57344 : Int32).toInt = 57344 := rfl
  have v2 : (56320 : Int32).toInt = 56320 := rfl
  refine own_met_1_0 (M := M_cls) pn_cls rfl (by first | rfl | exact own_cat (by assumption)) ?_
  refine own_iload_n (pc' := 1) rfl d_cls_0 rfl ?_
  refine own_ldcI (pc' := 3) rfl d_cls_1 (tw_144 hw) ?_
  refine own_icmplt (pcT := 16) (pcF := 6) d_cls_3 (by decide) (by decide) rfl (fun q => ?_) (fun q => ?_)
  · rw [Int32.lt_iff_toInt_lt] at q
    refine own_iconst (v := (0 : Int32)) (pc' := 17) rfl d_cls_16 rfl ?_
    refine own_ireturnN (t := .boolean) rfl (by simp) (by first | exact own_nb0 | exact own_nb1 | rfl) d_cls_17 rfl rfl ?_
    exact ⟨by rw [show own_lo c = false by simp [own_lo]; omega]; rfl, rfl⟩
  · rw [Int32.lt_iff_toInt_lt] at q
    refine own_iload_n (pc' := 7) rfl d_cls_6 rfl ?_
    refine own_ldcI (pc' := 9) rfl d_cls_7 (tw_148 hw) ?_
    refine own_icmpge (pcT := 16) (pcF := 12) d_cls_9 (by decide) (by decide) rfl (fun q2 => ?_) (fun q2 => ?_)
    · rw [Int32.lt_iff_toInt_lt] at q2
      refine own_iconst (v := (0 : Int32)) (pc' := 17) rfl d_cls_16 rfl ?_
      refine own_ireturnN (t := .boolean) rfl (by simp) (by first | exact own_nb0 | exact own_nb1 | rfl) d_cls_17 rfl rfl ?_
      exact ⟨by rw [show own_lo c = false by simp [own_lo]; omega]; rfl, rfl⟩
    · rw [Int32.lt_iff_toInt_lt] at q2
      refine own_iconst (v := (1 : Int32)) (pc' := 13) rfl d_cls_12 rfl ?_
      refine own_goto (pc' := 17) d_cls_13 (by decide) (by decide) ?_
      refine own_ireturnN (t := .boolean) rfl (by simp) (by first | exact own_nb0 | exact own_nb1 | rfl) d_cls_17 rfl rfl ?_
      exact ⟨by rw [show own_lo c = true by simp [own_lo]; omega]; rfl, rfl⟩
theorem own_drop_cons {cs : List Int32} {i : Nat} {c : Int32} (hc : cs[i]? = some c) : cs.drop i = c :: cs.drop (i + 1) := by
  obtain ⟨h1, rfl⟩ := List.getElem?_eq_some_iff.mp hc
  exact List.drop_eq_getElem_cons h1
def own_prs : List Int32 → Nat
  | c :: d :: r => if own_hi c && own_lo d then 1 + own_prs r else own_prs (d :: r)
  | _ => 0
theorem own_prs_le : ∀ (n : Nat) (cs : List Int32), cs.length ≤ n → own_prs cs ≤ cs.length := by
  intro n
  induction n with
  | zero => intro cs q; match cs with
    | [] => simp [own_prs]
    | _ :: _ => simp at q
  | succ n ih =>
    intro cs q
    match cs with
    | [] => simp [own_prs]
    | [c] => simp [own_prs]
    | c :: d :: r =>
      simp only [List.length_cons] at q
      have h1 := ih r (by omega)
      have h2 := ih (d :: r) (by simp only [List.length_cons]; omega)
      simp only [own_prs]
      split
      · simp only [List.length_cons]; omega
      · simp only [List.length_cons] at h2 ⊢; omega
theorem own_prs_lat : ∀ {cs : List Int32}, own_lat cs = true → own_prs cs = 0
  | [], _ => rfl
  | [_], _ => rfl
  | c :: d :: r, q => by
    simp only [own_lat, List.all_cons, Bool.and_eq_true, decide_eq_true_eq] at q
    have h1 : own_hi c = false := by simp [own_hi]; omega
    simp only [own_prs, h1, Bool.false_and]
    exact own_prs_lat (cs := d :: r) (by simp only [own_lat, List.all_cons, Bool.and_eq_true, decide_eq_true_eq]; exact ⟨q.2.1, q.2.2⟩)
theorem d_cp4_0 : decode jdk_52_method_11_code 0 = .ok (.getstatic 44, 3) := by decide +kernel
theorem d_cp4_3 : decode jdk_52_method_11_code 3 = .ok (.ifCond .ne 16, 3) := by decide +kernel
theorem d_cp4_19 : decode jdk_52_method_11_code 19 = .ok (.iload_n 2, 1) := by decide +kernel
theorem d_cp4_20 : decode jdk_52_method_11_code 20 = .ok (.iload_n 1, 1) := by decide +kernel
theorem d_cp4_21 : decode jdk_52_method_11_code 21 = .ok (.isub, 1) := by decide +kernel
theorem d_cp4_22 : decode jdk_52_method_11_code 22 = .ok (.istore 4, 2) := by decide +kernel
theorem d_cp4_24 : decode jdk_52_method_11_code 24 = .ok (.iload_n 1, 1) := by decide +kernel
theorem d_cp4_25 : decode jdk_52_method_11_code 25 = .ok (.istore 5, 2) := by decide +kernel
theorem d_cp4_27 : decode jdk_52_method_11_code 27 = .ok (.iload_n 3, 1) := by decide +kernel
theorem d_cp4_28 : decode jdk_52_method_11_code 28 = .ok (.ifCond .eq 16, 3) := by decide +kernel
theorem d_cp4_44 : decode jdk_52_method_11_code 44 = .ok (.iload 5, 2) := by decide +kernel
theorem d_cp4_46 : decode jdk_52_method_11_code 46 = .ok (.iload_n 2, 1) := by decide +kernel
theorem d_cp4_47 : decode jdk_52_method_11_code 47 = .ok (.iconst 1, 1) := by decide +kernel
theorem d_cp4_48 : decode jdk_52_method_11_code 48 = .ok (.isub, 1) := by decide +kernel
theorem d_cp4_49 : decode jdk_52_method_11_code 49 = .ok (.if_icmp .ge 39, 3) := by decide +kernel
theorem d_cp4_52 : decode jdk_52_method_11_code 52 = .ok (.aload_n 0, 1) := by decide +kernel
theorem d_cp4_53 : decode jdk_52_method_11_code 53 = .ok (.iload 5, 2) := by decide +kernel
theorem d_cp4_55 : decode jdk_52_method_11_code 55 = .ok (.iinc 5 1, 3) := by decide +kernel
theorem d_cp4_58 : decode jdk_52_method_11_code 58 = .ok (.invokestatic 71, 3) := by decide +kernel
theorem d_cp4_61 : decode jdk_52_method_11_code 61 = .ok (.invokestatic 75, 3) := by decide +kernel
theorem d_cp4_64 : decode jdk_52_method_11_code 64 = .ok (.ifCond .eq (-20), 3) := by decide +kernel
theorem d_cp4_67 : decode jdk_52_method_11_code 67 = .ok (.aload_n 0, 1) := by decide +kernel
theorem d_cp4_68 : decode jdk_52_method_11_code 68 = .ok (.iload 5, 2) := by decide +kernel
theorem d_cp4_70 : decode jdk_52_method_11_code 70 = .ok (.invokestatic 71, 3) := by decide +kernel
theorem d_cp4_73 : decode jdk_52_method_11_code 73 = .ok (.invokestatic 81, 3) := by decide +kernel
theorem d_cp4_76 : decode jdk_52_method_11_code 76 = .ok (.ifCond .eq (-32), 3) := by decide +kernel
theorem d_cp4_79 : decode jdk_52_method_11_code 79 = .ok (.iinc 4 (-1), 3) := by decide +kernel
theorem d_cp4_82 : decode jdk_52_method_11_code 82 = .ok (.iinc 5 1, 3) := by decide +kernel
theorem d_cp4_85 : decode jdk_52_method_11_code 85 = .ok (.goto (-41), 3) := by decide +kernel
theorem d_cp4_88 : decode jdk_52_method_11_code 88 = .ok (.iload 4, 2) := by decide +kernel
theorem d_cp4_90 : decode jdk_52_method_11_code 90 = .ok (.ireturn, 1) := by decide +kernel
abbrev M_cp4 : own_Mi := ((⟨"java/lang/StringUTF16", "codePointCount", "([BIIZ)I"⟩ : MethodName), jdk_52_method_11_code, 6, (Option.some FieldType.int), ({ frames := 1, cells := 0, slots := 0, locals := 13 } : Room))
theorem pn_cp4 : plainFor (own_Mi.y M_cp4) = true := plainFor_of_name (by first | (simp [plainName, overriddenIn]; done) | decide +kernel)
set_option maxRecDepth 65536 in
set_option maxHeartbeats 40000000 in
theorem c_cp4 (K : own_Cx) (a0 : Array Value) (hw : ∀ d ∈ tables_1, d.before a0 K.Z = true) (hU : own_U16 K) (b : Addr) (cs : List Int32) (n : Int32) (h : Heap) (hcs : own_Chs cs) (hl : cs.length < 2 ^ 29) (hn : n.toInt = cs.length) (B : own_Ary K.Z h b .byte (own_ints (own_two cs))) :
    own_Met K M_cp4 #[.ref b, .int 0, .int n, .int 0] [] h (own_ret fun w h' _ => ∃ r : Int32, w = .int r ∧ r.toInt = (cs.length : Int) - own_prs cs ∧ h' = h) := by
  have hU' := hU
  obtain ⟨u1, u2, u3⟩ := hU
  have v0 : (0 : Int32).toInt = 0 := rfl
  have v1 : (1 : Int32).toInt = 1 := rfl
  have hpl := own_prs_le cs.length cs (Nat.le_refl _)
  refine own_met_4_2 (M := M_cp4) pn_cp4 rfl (by first | rfl | exact own_cat (by assumption)) (by first | rfl | exact own_cat (by assumption)) (by first | rfl | exact own_cat (by assumption)) (by first | rfl | exact own_cat (by assumption)) ?_
  refine own_getS (pc' := 3) rfl d_cp4_0 (tw_127 hw) Via.refl (by assumption) ?_
  refine own_ifne (pcT := 19) (pcF := 6) d_cp4_3 (by decide) (by decide) rfl (fun q => ?_) (fun q => ?_)
  · skip
    refine own_iload_n (pc' := 20) rfl d_cp4_19 rfl ?_
    refine own_iload_n (pc' := 21) rfl d_cp4_20 rfl ?_
    refine own_isub (pc' := 22) rfl d_cp4_21 ?_
    refine own_istore_4 (pc' := 24) rfl d_cp4_22 (by first | exact One.u | exact One.val rfl | assumption | exact One.val (by assumption)) ?_
    refine own_iload_n (pc' := 25) rfl d_cp4_24 rfl ?_
    refine own_istore_5 (pc' := 27) rfl d_cp4_25 (by first | exact One.u | exact One.val rfl | assumption | exact One.val (by assumption)) ?_
    refine own_iload_n (pc' := 28) rfl d_cp4_27 rfl ?_
    refine own_ifeq (pcT := 44) (pcF := 31) d_cp4_28 (by decide) (by decide) rfl (fun q1 => ?_) (fun q1 => ?_)
    · suffices key : ∀ (k i : Nat) (j m : Int32) (sf : List Addr), cs.length ≤ i + k → i ≤ cs.length → j.toInt = i → m.toInt = (cs.length : Int) - own_prs cs + own_prs (cs.drop i) → own_prs (cs.drop i) ≤ own_prs cs → own_WP K M_cp4 (own_ret fun w h' _ => ∃ r : Int32, w = .int r ∧ r.toInt = (cs.length : Int) - own_prs cs ∧ h' = h) 44 [.val (.ref b), .val (.int 0), .val (.int n), .val (.int 0), .val (.int m), .val (.int j)] [] sf h 0 0 from
        key cs.length 0 0 (n - 0) _ (by omega) (by omega) rfl (by rw [own_sub hn v0 (by omega) (by omega)]; simp) (by simp)
      intro k
      induction k with
      | zero =>
        intro i j m sf hik hile hj hm hle
        have e : cs.drop i = [] := List.drop_eq_nil_of_le (by omega)
        have hn1 : (n - 1).toInt = cs.length - 1 := by rw [own_sub hn v1] <;> omega
        refine own_iload (pc' := 46) rfl d_cp4_44 rfl ?_
        refine own_iload_n (pc' := 47) rfl d_cp4_46 rfl ?_
        refine own_iconst (v := (1 : Int32)) (pc' := 48) rfl d_cp4_47 rfl ?_
        refine own_isub (pc' := 49) rfl d_cp4_48 ?_
        refine own_icmpge (pcT := 88) (pcF := 52) d_cp4_49 (by decide) (by decide) rfl (fun q2 => ?_) (fun q2 => ?_)
        · skip
          refine own_iload (pc' := 90) rfl d_cp4_88 rfl ?_
          refine own_ireturn rfl d_cp4_90 rfl rfl ?_
          exact ⟨m, rfl, by rw [hm, e]; simp [own_prs], rfl⟩
        · rw [Int32.lt_iff_toInt_lt] at q2
          omega
      | succ k ih =>
        intro i j m sf hik hile hj hm hle
        have hn1 : (n - 1).toInt = cs.length - 1 := by rw [own_sub hn v1] <;> omega
        have hj1 : i < cs.length → (j + 1).toInt = ((i + 1 : Nat) : Int) := fun _ => by rw [own_add hj v1] <;> omega
        refine own_iload (pc' := 46) rfl d_cp4_44 rfl ?_
        refine own_iload_n (pc' := 47) rfl d_cp4_46 rfl ?_
        refine own_iconst (v := (1 : Int32)) (pc' := 48) rfl d_cp4_47 rfl ?_
        refine own_isub (pc' := 49) rfl d_cp4_48 ?_
        refine own_icmpge (pcT := 88) (pcF := 52) d_cp4_49 (by decide) (by decide) rfl (fun q2 => ?_) (fun q2 => ?_)
        · rw [Int32.lt_iff_toInt_lt] at q2
          have e : own_prs (cs.drop i) = 0 := by
            have hlen : (cs.drop i).length ≤ 1 := by rw [List.length_drop]; omega
            match hh : cs.drop i with
            | [] => rfl
            | [_] => rfl
            | _ :: _ :: _ => rw [hh] at hlen; simp at hlen
          refine own_iload (pc' := 90) rfl d_cp4_88 rfl ?_
          refine own_ireturn rfl d_cp4_90 rfl rfl ?_
          exact ⟨m, rfl, by rw [hm, e]; simp, rfl⟩
        · rw [Int32.lt_iff_toInt_lt] at q2
          obtain ⟨c, hc⟩ : ∃ c, cs[i]? = some c := ⟨cs[i], by simp [show i < cs.length by omega]⟩
          obtain ⟨d, hd⟩ : ∃ d, cs[i + 1]? = some d := ⟨cs[i + 1], by simp [show i + 1 < cs.length by omega]⟩
          have e1 := own_drop_cons hc
          have e2 := own_drop_cons hd
          refine own_aload_n (pc' := 53) rfl d_cp4_52 rfl (by first | rfl | assumption) ?_
          refine own_iload (pc' := 55) rfl d_cp4_53 rfl ?_
          refine own_iinc_5 (z := (1 : Int32)) (pc' := 58) rfl d_cp4_55 rfl ?_
          refine own_static2v (M' := M_gc) d_cp4_58 (pc' := 61) rfl (tw_130 hw) (tw_131 hw) (tw_45 hw) (tw_132 hw) (by decide) rfl (own_lenOf pd_5 rfl) rfl rfl rfl rfl (c_gc K a0 hw hU' b j i c cs h hj hc (by omega) hcs B) (by simp) ?_
          rintro w h1 xs ⟨rfl, rfl⟩
          refine own_static1v (M' := M_chs) d_cp4_61 (pc' := 64) rfl (tw_139 hw) (tw_140 hw) (tw_141 hw) (tw_142 hw) (by decide) rfl (own_lenOf pd_9 rfl) rfl rfl rfl rfl (c_chs K a0 hw c _) (by simp) ?_
          rintro w h2 xs2 ⟨rfl, rfl⟩
          cases qh : own_hi c
          · have e3 : own_prs (cs.drop i) = own_prs (cs.drop (i + 1)) := by rw [e1, e2]; simp [own_prs, qh]
            refine own_ifeq (pcT := 44) (pcF := 67) d_cp4_64 (by decide) (by decide) rfl (fun q3 => ?_) (fun q3 => ?_)
            · exact own_weak (ih (i + 1) (j + 1) m _ (by omega) (by omega) (hj1 (by omega)) (by rw [hm, e3]) (by rw [← e3]; exact hle)) (fun x hx => hx) (by exact Nat.le_of_ble_eq_true rfl) (by exact Nat.le_of_ble_eq_true rfl)
            · exact absurd (by simp) q3
          · skip
            refine own_ifeq (pcT := 44) (pcF := 67) d_cp4_64 (by decide) (by decide) rfl (fun q3 => ?_) (fun q3 => ?_)
            · exact absurd q3 (by simp)
            · skip
              refine own_aload_n (pc' := 68) rfl d_cp4_67 rfl (by first | rfl | assumption) ?_
              refine own_iload (pc' := 70) rfl d_cp4_68 rfl ?_
              refine own_static2v (M' := M_gc) d_cp4_70 (pc' := 73) rfl (tw_130 hw) (tw_131 hw) (tw_45 hw) (tw_132 hw) (by decide) rfl (own_lenOf pd_5 rfl) rfl rfl rfl rfl (c_gc K a0 hw hU' b (j + 1) (i + 1) d cs _ (hj1 (by omega)) hd (by omega) hcs B) (by simp) ?_
              rintro w h3 xs3 ⟨rfl, rfl⟩
              refine own_static1v (M' := M_cls) d_cp4_73 (pc' := 76) rfl (tw_145 hw) (tw_146 hw) (tw_141 hw) (tw_147 hw) (by decide) rfl (own_lenOf pd_9 rfl) rfl rfl rfl rfl (c_cls K a0 hw d _) (by simp) ?_
              rintro w h4 xs4 ⟨rfl, rfl⟩
              cases qd : own_lo d
              · have e3 : own_prs (cs.drop i) = own_prs (cs.drop (i + 1)) := by rw [e1, e2]; simp [own_prs, qd]
                refine own_ifeq (pcT := 44) (pcF := 79) d_cp4_76 (by decide) (by decide) rfl (fun q4 => ?_) (fun q4 => ?_)
                · exact own_weak (ih (i + 1) (j + 1) m _ (by omega) (by omega) (hj1 (by omega)) (by rw [hm, e3]) (by rw [← e3]; exact hle)) (fun x hx => hx) (by exact Nat.le_of_ble_eq_true rfl) (by exact Nat.le_of_ble_eq_true rfl)
                · exact absurd (by simp) q4
              · have e3 : own_prs (cs.drop i) = 1 + own_prs (cs.drop (i + 2)) := by rw [e1, e2]; simp [own_prs, qh, qd]
                refine own_ifeq (pcT := 44) (pcF := 79) d_cp4_76 (by decide) (by decide) rfl (fun q4 => ?_) (fun q4 => ?_)
                · exact absurd q4 (by simp)
                · skip
                  refine own_iinc_4 (z := (-1 : Int32)) (pc' := 82) rfl d_cp4_79 rfl ?_
                  refine own_iinc_5 (z := (1 : Int32)) (pc' := 85) rfl d_cp4_82 rfl ?_
                  refine own_goto (pc' := 44) d_cp4_85 (by decide) (by decide) ?_
                  have vm1 : (-1 : Int32).toInt = -1 := rfl
                  exact own_weak (ih (i + 2) (j + 1 + 1) (m + (-1)) _ (by omega) (by omega) (by rw [own_add (hj1 (by omega)) v1] <;> omega) (by rw [own_add hm vm1] <;> omega) (by omega)) (fun x hx => hx) (by exact Nat.le_of_ble_eq_true rfl) (by exact Nat.le_of_ble_eq_true rfl)
    · exact absurd rfl q1
  · exact absurd q (by decide)
theorem d_cp3n_0 : decode jdk_52_method_12_code 0 = .ok (.aload_n 0, 1) := by decide +kernel
theorem d_cp3n_1 : decode jdk_52_method_12_code 1 = .ok (.iload_n 1, 1) := by decide +kernel
theorem d_cp3n_2 : decode jdk_52_method_12_code 2 = .ok (.iload_n 2, 1) := by decide +kernel
theorem d_cp3n_3 : decode jdk_52_method_12_code 3 = .ok (.iconst 0, 1) := by decide +kernel
theorem d_cp3n_4 : decode jdk_52_method_12_code 4 = .ok (.invokestatic 100, 3) := by decide +kernel
theorem d_cp3n_7 : decode jdk_52_method_12_code 7 = .ok (.ireturn, 1) := by decide +kernel
abbrev M_cp3n : own_Mi := ((⟨"java/lang/StringUTF16", "codePointCount", "([BII)I"⟩ : MethodName), jdk_52_method_12_code, 3, (Option.some FieldType.int), ({ frames := 2, cells := 0, slots := 0, locals := 30 } : Room))
theorem pn_cp3n : plainFor (own_Mi.y M_cp3n) = true := plainFor_of_name (by first | (simp [plainName, overriddenIn]; done) | decide +kernel)
set_option maxRecDepth 65536 in
set_option maxHeartbeats 40000000 in
theorem c_cp3n (K : own_Cx) (a0 : Array Value) (hw : ∀ d ∈ tables_1, d.before a0 K.Z = true) (hU : own_U16 K) (b : Addr) (cs : List Int32) (n : Int32) (h : Heap) (hcs : own_Chs cs) (hl : cs.length < 2 ^ 29) (hn : n.toInt = cs.length) (B : own_Ary K.Z h b .byte (own_ints (own_two cs))) :
    own_Met K M_cp3n #[.ref b, .int 0, .int n] [] h (own_ret fun w h' _ => ∃ r : Int32, w = .int r ∧ r.toInt = (cs.length : Int) - own_prs cs ∧ h' = h) := by
  refine own_met_3_0 (M := M_cp3n) pn_cp3n rfl (by first | rfl | exact own_cat (by assumption)) (by first | rfl | exact own_cat (by assumption)) (by first | rfl | exact own_cat (by assumption)) ?_
  refine own_aload_n (pc' := 1) rfl d_cp3n_0 rfl (by first | rfl | assumption) ?_
  refine own_iload_n (pc' := 2) rfl d_cp3n_1 rfl ?_
  refine own_iload_n (pc' := 3) rfl d_cp3n_2 rfl ?_
  refine own_iconst (v := (0 : Int32)) (pc' := 4) rfl d_cp3n_3 rfl ?_
  refine own_static4v (M' := M_cp4) d_cp3n_4 (pc' := 7) rfl (tw_136 hw) (tw_137 hw) (tw_45 hw) (tw_138 hw) (by decide) rfl (own_lenOf pd_21 rfl) rfl rfl rfl rfl (c_cp4 K a0 hw hU b cs n h hcs hl hn B) (by simp) ?_
  rintro w h1 xs ⟨r, rfl, hr, rfl⟩
  refine own_ireturn rfl d_cp3n_7 rfl rfl ?_
  exact ⟨r, rfl, hr, rfl⟩
theorem d_oft_0 : decode jdk_31_method_18_code 0 = .ok (.iload_n 0, 1) := by decide +kernel
theorem d_oft_1 : decode jdk_31_method_18_code 1 = .ok (.iload_n 1, 1) := by decide +kernel
theorem d_oft_2 : decode jdk_31_method_18_code 2 = .ok (.iload_n 2, 1) := by decide +kernel
theorem d_oft_3 : decode jdk_31_method_18_code 3 = .ok (.aconst_null, 1) := by decide +kernel
theorem d_oft_4 : decode jdk_31_method_18_code 4 = .ok (.invokestatic 111, 3) := by decide +kernel
theorem d_oft_7 : decode jdk_31_method_18_code 7 = .ok (.ireturn, 1) := by decide +kernel
abbrev M_oft : own_Mi := ((⟨"java/util/Objects", "checkFromToIndex", "(III)I"⟩ : MethodName), jdk_31_method_18_code, 3, (Option.some FieldType.int), ({ frames := 1, cells := 0, slots := 0, locals := 15 } : Room))
theorem pn_oft : plainFor (own_Mi.y M_oft) = true := plainFor_of_name (by first | (simp [plainName, overriddenIn]; done) | decide +kernel)
set_option maxRecDepth 65536 in
set_option maxHeartbeats 40000000 in
theorem c_oft (K : own_Cx) (a0 : Array Value) (hw : ∀ d ∈ tables_1, d.before a0 K.Z = true) (i j n : Int32) (h : Heap) (h0 : 0 ≤ i.toInt) (h1 : i.toInt ≤ j.toInt) (h2 : j.toInt ≤ n.toInt) :
    own_Met K M_oft #[.int i, .int j, .int n] [] h (own_ret fun w h' _ => w = .int i ∧ h' = h) := by
  refine own_met_3_0 (M := M_oft) pn_oft rfl (by first | rfl | exact own_cat (by assumption)) (by first | rfl | exact own_cat (by assumption)) (by first | rfl | exact own_cat (by assumption)) ?_
  refine own_iload_n (pc' := 1) rfl d_oft_0 rfl ?_
  refine own_iload_n (pc' := 2) rfl d_oft_1 rfl ?_
  refine own_iload_n (pc' := 3) rfl d_oft_2 rfl ?_
  refine own_aconst_null (pc' := 4) rfl d_oft_3 ?_
  refine own_static4v (M' := M_pft) d_oft_4 (pc' := 7) rfl (tw_81 hw) (tw_82 hw) (tw_83 hw) (tw_84 hw) (by decide) rfl (own_lenOf pd_15 rfl) rfl rfl rfl rfl (c_pft K a0 hw .null rfl i j n h h0 h1 h2) (by simp) ?_
  rintro w h3 xs ⟨rfl, rfl⟩
  refine own_ireturn rfl d_oft_7 rfl rfl ?_
  exact ⟨rfl, rfl⟩
theorem d_scp_0 : decode jdk_42_method_59_code 0 = .ok (.iload_n 1, 1) := by decide +kernel
theorem d_scp_1 : decode jdk_42_method_59_code 1 = .ok (.iload_n 2, 1) := by decide +kernel
theorem d_scp_2 : decode jdk_42_method_59_code 2 = .ok (.aload_n 0, 1) := by decide +kernel
theorem d_scp_3 : decode jdk_42_method_59_code 3 = .ok (.invokevirtual 505, 3) := by decide +kernel
theorem d_scp_6 : decode jdk_42_method_59_code 6 = .ok (.invokestatic 511, 3) := by decide +kernel
theorem d_scp_9 : decode jdk_42_method_59_code 9 = .ok (.pop, 1) := by decide +kernel
theorem d_scp_10 : decode jdk_42_method_59_code 10 = .ok (.aload_n 0, 1) := by decide +kernel
theorem d_scp_11 : decode jdk_42_method_59_code 11 = .ok (.invokevirtual 492, 3) := by decide +kernel
theorem d_scp_14 : decode jdk_42_method_59_code 14 = .ok (.ifCond .eq 7, 3) := by decide +kernel
theorem d_scp_17 : decode jdk_42_method_59_code 17 = .ok (.iload_n 2, 1) := by decide +kernel
theorem d_scp_18 : decode jdk_42_method_59_code 18 = .ok (.iload_n 1, 1) := by decide +kernel
theorem d_scp_19 : decode jdk_42_method_59_code 19 = .ok (.isub, 1) := by decide +kernel
theorem d_scp_20 : decode jdk_42_method_59_code 20 = .ok (.ireturn, 1) := by decide +kernel
theorem d_scp_21 : decode jdk_42_method_59_code 21 = .ok (.aload_n 0, 1) := by decide +kernel
theorem d_scp_22 : decode jdk_42_method_59_code 22 = .ok (.getfield 9, 3) := by decide +kernel
theorem d_scp_25 : decode jdk_42_method_59_code 25 = .ok (.iload_n 1, 1) := by decide +kernel
theorem d_scp_26 : decode jdk_42_method_59_code 26 = .ok (.iload_n 2, 1) := by decide +kernel
theorem d_scp_27 : decode jdk_42_method_59_code 27 = .ok (.invokestatic 514, 3) := by decide +kernel
theorem d_scp_30 : decode jdk_42_method_59_code 30 = .ok (.ireturn, 1) := by decide +kernel
abbrev M_scp : own_Mi := ((⟨"java/lang/String", "codePointCount", "(II)I"⟩ : MethodName), jdk_42_method_59_code, 3, (Option.some FieldType.int), ({ frames := 3, cells := 0, slots := 0, locals := 44 } : Room))
theorem pn_scp : plainFor (own_Mi.y M_scp) = true := plainFor_of_name (by first | (simp [plainName, overriddenIn]; done) | decide +kernel)
set_option maxRecDepth 65536 in
set_option maxHeartbeats 40000000 in
theorem c_scp (K : own_Cx) (a0 : Array Value) (hw : ∀ d ∈ tables_1, d.before a0 K.Z = true) (hU : own_U16 K) (g : Int32) (SC : Sta K.Z K.Z.heap own_sC "COMPACT_STRINGS" "Z" (.int g)) (hg : ¬ g = 0) (x : Addr) (cs : List Int32) (h : Heap) (S : own_Str K.Z h x cs) (hl : cs.length < 2 ^ 29) :
    own_Met K M_scp #[.ref x, .int 0, .int cs.length.toInt32] [] h (own_ret fun w h' _ => ∃ r : Int32, w = .int r ∧ r.toInt = (cs.length : Int) - own_prs cs ∧ h' = h) := by
  have S' := S
  obtain ⟨E, hcs, -, b, FV, FC, B⟩ := S
  have hn : (cs.length.toInt32).toInt = cs.length := own_lit _ (by omega)
  have v0 : (0 : Int32).toInt = 0 := rfl
  refine own_met_3_0 (M := M_scp) pn_scp rfl (by first | rfl | exact own_cat (by assumption)) (by first | rfl | exact own_cat (by assumption)) (by first | rfl | exact own_cat (by assumption)) ?_
  refine own_iload_n (pc' := 1) rfl d_scp_0 rfl ?_
  refine own_iload_n (pc' := 2) rfl d_scp_1 rfl ?_
  refine own_aload_n (pc' := 3) rfl d_scp_2 rfl (by first | rfl | assumption) ?_
  refine own_virtual0v (M' := M_sl) d_scp_3 (pc' := 6) rfl (tw_76 hw) (tw_62 hw) (tw_64 hw) (tw_63 hw) (tw_2 hw) (tw_65 hw) (by decide) rfl (own_lenOf pd_20 rfl) rfl rfl rfl rfl E (c_sl K a0 hw g SC hg x cs h S') (by simp) ?_
  rintro w h1 xs ⟨rfl, rfl⟩
  refine own_static3v (M' := M_oft) d_scp_6 (pc' := 9) rfl (tw_77 hw) (tw_78 hw) (tw_79 hw) (tw_80 hw) (by decide) rfl (own_lenOf pd_22 rfl) rfl rfl rfl rfl (c_oft K a0 hw 0 _ _ _ (by omega) (by omega) (by omega)) (by simp) ?_
  rintro w h2 xs2 ⟨rfl, rfl⟩
  refine own_pop (pc' := 10) rfl d_scp_9 (by first | rfl | assumption) ?_
  refine own_aload_n (pc' := 11) rfl d_scp_10 rfl (by first | rfl | assumption) ?_
  refine own_virtual0v (M' := M_isl) d_scp_11 (pc' := 14) rfl (tw_85 hw) (tw_86 hw) (tw_88 hw) (tw_87 hw) (tw_2 hw) (tw_89 hw) (by decide) rfl (own_lenOf pd_19 rfl) rfl rfl rfl rfl E (c_isl K a0 hw g SC hg x cs _ S') (by simp) ?_
  rintro w h3 xs3 ⟨rfl, rfl⟩
  cases ql : own_lat cs
  · skip
    refine own_ifeq (pcT := 21) (pcF := 17) d_scp_14 (by decide) (by decide) rfl (fun q => ?_) (fun q => ?_)
    · skip
      refine own_aload_n (pc' := 22) rfl d_scp_21 rfl (by first | rfl | assumption) ?_
      refine own_getF (pc' := 25) rfl d_scp_22 (tw_22 hw) Via.refl FV ?_
      refine own_iload_n (pc' := 26) rfl d_scp_25 rfl ?_
      refine own_iload_n (pc' := 27) rfl d_scp_26 rfl ?_
      rw [(own_enc_utf ql).1] at B
      refine own_static3v (M' := M_cp3n) d_scp_27 (pc' := 30) rfl (tw_133 hw) (tw_134 hw) (tw_45 hw) (tw_135 hw) (by decide) rfl (own_lenOf pd_23 rfl) rfl rfl rfl rfl (c_cp3n K a0 hw hU b cs _ _ hcs hl hn B) (by simp) ?_
      rintro w h4 xs4 ⟨r, rfl, hr, rfl⟩
      refine own_ireturn rfl d_scp_30 rfl rfl ?_
      exact ⟨r, rfl, hr, rfl⟩
    · exact absurd (by simp) q
  · skip
    refine own_ifeq (pcT := 21) (pcF := 17) d_scp_14 (by decide) (by decide) rfl (fun q => ?_) (fun q => ?_)
    · exact absurd q (by simp)
    · skip
      refine own_iload_n (pc' := 18) rfl d_scp_17 rfl ?_
      refine own_iload_n (pc' := 19) rfl d_scp_18 rfl ?_
      refine own_isub (pc' := 20) rfl d_scp_19 ?_
      refine own_ireturn rfl d_scp_20 rfl rfl ?_
      exact ⟨_, rfl, by rw [own_sub hn v0 (by omega) (by omega), own_prs_lat ql]; simp, rfl⟩
def own_Unit (u : List Int32) : Prop := (∃ x : Int32, u = [x] ∧ 0 < x.toInt ∧ x.toInt < 65536 ∧ own_hi x = false) ∨ (∃ x y : Int32, u = [x, y] ∧ own_hi x = true ∧ own_lo y = true)
theorem own_hi_f {c : Int32} (q : c.toInt < 55296 ∨ 56320 ≤ c.toInt) : own_hi c = false := by
  simp only [own_hi, Bool.and_eq_false_iff, decide_eq_false_iff_not]
  omega
theorem own_hi_r {x : Int32} (q : own_hi x = true) : 0 < x.toInt ∧ x.toInt < 65536 := by
  simp only [own_hi, Bool.and_eq_true, decide_eq_true_eq] at q; omega
theorem own_lo_r {x : Int32} (q : own_lo x = true) : 0 < x.toInt ∧ x.toInt < 65536 := by
  simp only [own_lo, Bool.and_eq_true, decide_eq_true_eq] at q; omega
theorem own_Unit.r {u : List Int32} (U : own_Unit u) : ∀ c ∈ u, 0 < c.toInt ∧ c.toInt < 65536 := by
  intro c hc
  rcases U with ⟨x, rfl, h1, h2, -⟩ | ⟨x, y, rfl, h1, h2⟩
  · simp at hc; subst hc; exact ⟨h1, h2⟩
  · simp at hc
    rcases hc with rfl | rfl
    · exact own_hi_r h1
    · exact own_lo_r h2
theorem own_Unit.len {u : List Int32} (U : own_Unit u) : 1 ≤ u.length ∧ u.length ≤ 2 := by
  rcases U with ⟨x, rfl, -⟩ | ⟨x, y, rfl, -⟩ <;> simp
def own_Us (us : List (List Int32)) : Prop := ∀ u ∈ us, own_Unit u
theorem own_Us.snoc {us : List (List Int32)} {u : List Int32} (U : own_Us us) (V : own_Unit u) : own_Us (us ++ [u]) := by
  intro v hv
  rcases List.mem_append.mp hv with hv | hv
  · exact U v hv
  · cases List.mem_singleton.mp hv; exact V
theorem own_Us.r {us : List (List Int32)} (U : own_Us us) : ∀ c ∈ us.flatten, 0 < c.toInt ∧ c.toInt < 65536 := by
  intro c hc
  obtain ⟨u, hu, hcu⟩ := List.mem_flatten.mp hc
  exact (U u hu).r c hcu
theorem own_Us.len : ∀ {us : List (List Int32)}, own_Us us → us.flatten.length ≤ 2 * us.length
  | [], _ => by simp
  | u :: r, U => by
    have h1 := (U u (by simp)).len
    have h2 := own_Us.len (us := r) (fun v hv => U v (by simp [hv]))
    simp only [List.flatten_cons, List.length_append, List.length_cons] at h2 ⊢
    omega
theorem own_Us.prs : ∀ {us : List (List Int32)}, own_Us us → own_prs us.flatten + us.length = us.flatten.length
  | [], _ => by simp [own_prs]
  | u :: r, U => by
    have h2 := own_Us.prs (us := r) (fun v hv => U v (by simp [hv]))
    rcases U u (by simp) with ⟨x, rfl, -, -, hx⟩ | ⟨x, y, rfl, hx, hy⟩
    · have e : own_prs (x :: r.flatten) = own_prs r.flatten := by
        cases hr : r.flatten with
        | nil => rfl
        | cons d t => simp [own_prs, hx]
      simp only [List.flatten_cons, List.singleton_append, List.length_cons, e]
      omega
    · have e : own_prs (x :: y :: r.flatten) = 1 + own_prs r.flatten := by simp [own_prs, hx, hy]
      simp only [List.flatten_cons, List.cons_append, List.nil_append, List.length_cons, e]
      omega
theorem own_ix_none {cs : List Int32} {ch : Int32} (q : ∀ c ∈ cs, c ≠ ch) : ∀ (k i : Nat), own_ixf cs ch k i = -1 := by
  intro k
  induction k with
  | zero => intro i; rfl
  | succ k ih =>
    intro i
    have : ¬ cs[i]? = some ch := fun z => q ch (List.mem_of_getElem? z) rfl
    simp only [own_ixf, this, if_false]
    exact ih (i + 1)
theorem own_pairH (c : Int32) : own_hi ((55296 : Int32) ||| (XT.ushr c 10 &&& 1023)) = true := by
  have h1 := c_mask (XT.ushr c 10) 1023 10 (by decide) (by decide)
  have h2 := c_or (55296 : Int32) (XT.ushr c 10 &&& 1023) 10 (by decide) 1024 (by decide) (by decide) (by omega) (by omega)
  have h3 := rng32 ((55296 : Int32) ||| (XT.ushr c 10 &&& 1023))
  have v1 : (55296 : Int32).toInt = 55296 := rfl
  simp only [own_hi, Bool.and_eq_true, decide_eq_true_eq]
  omega
theorem own_pairL (c : Int32) : own_lo ((56320 : Int32) ||| (c &&& 1023)) = true := by
  have h1 := c_mask c 1023 10 (by decide) (by decide)
  have h2 := c_or (56320 : Int32) (c &&& 1023) 10 (by decide) 1024 (by decide) (by decide) (by omega) (by omega)
  have h3 := rng32 ((56320 : Int32) ||| (c &&& 1023))
  have v1 : (56320 : Int32).toInt = 56320 := rfl
  simp only [own_lo, Bool.and_eq_true, decide_eq_true_eq]
  omega
theorem own_chn {x : Int32} (h0 : 0 ≤ x.toInt) (h1 : x.toInt < 65536) : nar .char (x.toUInt32.toUInt16.toUInt32.toInt32) = x := by
  rw [own_i2c_id h0 h1]
  exact own_i2c_id h0 h1
theorem d_put_0 : decode method_3_code 0 = .ok (.iload_n 3, 1) := by decide +kernel
theorem d_put_1 : decode method_3_code 1 = .ok (.ifCond .eq 36, 3) := by decide +kernel
theorem d_put_4 : decode method_3_code 4 = .ok (.aload_n 0, 1) := by decide +kernel
theorem d_put_5 : decode method_3_code 5 = .ok (.iload_n 1, 1) := by decide +kernel
theorem d_put_6 : decode method_3_code 6 = .ok (.ldc 35, 2) := by decide +kernel
theorem d_put_8 : decode method_3_code 8 = .ok (.iload_n 2, 1) := by decide +kernel
theorem d_put_9 : decode method_3_code 9 = .ok (.bipush 10, 2) := by decide +kernel
theorem d_put_11 : decode method_3_code 11 = .ok (.iushr, 1) := by decide +kernel
theorem d_put_12 : decode method_3_code 12 = .ok (.sipush 1023, 3) := by decide +kernel
theorem d_put_15 : decode method_3_code 15 = .ok (.iand, 1) := by decide +kernel
theorem d_put_16 : decode method_3_code 16 = .ok (.ior, 1) := by decide +kernel
theorem d_put_17 : decode method_3_code 17 = .ok (.i2c, 1) := by decide +kernel
theorem d_put_18 : decode method_3_code 18 = .ok (.castore, 1) := by decide +kernel
theorem d_put_19 : decode method_3_code 19 = .ok (.aload_n 0, 1) := by decide +kernel
theorem d_put_20 : decode method_3_code 20 = .ok (.iload_n 1, 1) := by decide +kernel
theorem d_put_21 : decode method_3_code 21 = .ok (.iconst 1, 1) := by decide +kernel
theorem d_put_22 : decode method_3_code 22 = .ok (.iadd, 1) := by decide +kernel
theorem d_put_23 : decode method_3_code 23 = .ok (.ldc 36, 2) := by decide +kernel
theorem d_put_25 : decode method_3_code 25 = .ok (.iload_n 2, 1) := by decide +kernel
theorem d_put_26 : decode method_3_code 26 = .ok (.sipush 1023, 3) := by decide +kernel
theorem d_put_29 : decode method_3_code 29 = .ok (.iand, 1) := by decide +kernel
theorem d_put_30 : decode method_3_code 30 = .ok (.ior, 1) := by decide +kernel
theorem d_put_31 : decode method_3_code 31 = .ok (.i2c, 1) := by decide +kernel
theorem d_put_32 : decode method_3_code 32 = .ok (.castore, 1) := by decide +kernel
theorem d_put_33 : decode method_3_code 33 = .ok (.iload_n 1, 1) := by decide +kernel
theorem d_put_34 : decode method_3_code 34 = .ok (.iconst 2, 1) := by decide +kernel
theorem d_put_35 : decode method_3_code 35 = .ok (.iadd, 1) := by decide +kernel
theorem d_put_36 : decode method_3_code 36 = .ok (.ireturn, 1) := by decide +kernel
theorem d_put_37 : decode method_3_code 37 = .ok (.iload_n 2, 1) := by decide +kernel
theorem d_put_38 : decode method_3_code 38 = .ok (.ldc 37, 2) := by decide +kernel
theorem d_put_40 : decode method_3_code 40 = .ok (.iand, 1) := by decide +kernel
theorem d_put_41 : decode method_3_code 41 = .ok (.istore 4, 2) := by decide +kernel
theorem d_put_43 : decode method_3_code 43 = .ok (.iload 4, 2) := by decide +kernel
theorem d_put_45 : decode method_3_code 45 = .ok (.ifCond .ne 6, 3) := by decide +kernel
theorem d_put_48 : decode method_3_code 48 = .ok (.iconst 1, 1) := by decide +kernel
theorem d_put_49 : decode method_3_code 49 = .ok (.istore 4, 2) := by decide +kernel
theorem d_put_51 : decode method_3_code 51 = .ok (.iload 4, 2) := by decide +kernel
theorem d_put_53 : decode method_3_code 53 = .ok (.ldc 35, 2) := by decide +kernel
theorem d_put_55 : decode method_3_code 55 = .ok (.if_icmp .lt 18, 3) := by decide +kernel
theorem d_put_58 : decode method_3_code 58 = .ok (.iload 4, 2) := by decide +kernel
theorem d_put_60 : decode method_3_code 60 = .ok (.ldc 38, 2) := by decide +kernel
theorem d_put_62 : decode method_3_code 62 = .ok (.if_icmp .gt 11, 3) := by decide +kernel
theorem d_put_65 : decode method_3_code 65 = .ok (.iload 4, 2) := by decide +kernel
theorem d_put_67 : decode method_3_code 67 = .ok (.sipush 2048, 3) := by decide +kernel
theorem d_put_70 : decode method_3_code 70 = .ok (.isub, 1) := by decide +kernel
theorem d_put_71 : decode method_3_code 71 = .ok (.istore 4, 2) := by decide +kernel
theorem d_put_73 : decode method_3_code 73 = .ok (.aload_n 0, 1) := by decide +kernel
theorem d_put_74 : decode method_3_code 74 = .ok (.iload_n 1, 1) := by decide +kernel
theorem d_put_75 : decode method_3_code 75 = .ok (.iload 4, 2) := by decide +kernel
theorem d_put_77 : decode method_3_code 77 = .ok (.i2c, 1) := by decide +kernel
theorem d_put_78 : decode method_3_code 78 = .ok (.castore, 1) := by decide +kernel
theorem d_put_79 : decode method_3_code 79 = .ok (.iload_n 1, 1) := by decide +kernel
theorem d_put_80 : decode method_3_code 80 = .ok (.iconst 1, 1) := by decide +kernel
theorem d_put_81 : decode method_3_code 81 = .ok (.iadd, 1) := by decide +kernel
theorem d_put_82 : decode method_3_code 82 = .ok (.ireturn, 1) := by decide +kernel
abbrev M_put : own_Mi := ((⟨"com/example/table_to_topic/tabletotopic/TextCheckColumnPinLaw", "put", "([CIIZ)I"⟩ : MethodName), method_3_code, 5, (Option.some FieldType.int), ({ frames := 0, cells := 0, slots := 0, locals := 0 } : Room))
theorem pn_put : plainFor (own_Mi.y M_put) = true := plainFor_of_name (by first | (simp [plainName, overriddenIn]; done) | decide +kernel)
set_option maxRecDepth 65536 in
set_option maxHeartbeats 40000000 in
theorem c_put (K : own_Cx) (a0 : Array Value) (hw : ∀ d ∈ tables_1, d.before a0 K.Z = true) (a : Addr) (p c f : Int32) (L : List Int32) (m : Nat) (h : Heap) (hp : p.toInt = L.length) (hm : 2 ≤ m) (hlm : L.length + m = 6) (A : own_Ary K.Z h a .char (own_ints L ++ List.replicate m (.int 0))) :
    own_Met K M_put #[.ref a, .int p, .int c, .int f] [a] h (own_ret fun w h' _ => ∃ (r : Int32) (u : List Int32), w = .int r ∧ own_Unit u ∧ r.toInt = (L.length : Int) + u.length ∧ Keep h h' [a] ∧ own_Ary K.Z h' a .char (own_ints (L ++ u) ++ List.replicate (m - u.length) (.int 0))) := by
  have v1 : (1 : Int32).toInt = 1 := rfl
  have v2 : (2 : Int32).toInt = 2 := rfl
  obtain ⟨k, rfl⟩ : ∃ k, m = k + 2 := ⟨m - 2, by omega⟩
  have eL : (own_ints L).length = L.length := by simp
  refine own_met_4_1 (M := M_put) pn_put rfl (by first | rfl | exact own_cat (by assumption)) (by first | rfl | exact own_cat (by assumption)) (by first | rfl | exact own_cat (by assumption)) (by first | rfl | exact own_cat (by assumption)) ?_
  refine own_iload_n (pc' := 1) rfl d_put_0 rfl ?_
  refine own_ifeq (pcT := 37) (pcF := 4) d_put_1 (by decide) (by decide) rfl (fun q => ?_) (fun q => ?_)
  · suffices key : ∀ (o : Slot) (x : Int32), One o → 0 < x.toInt → x.toInt < 65536 → own_hi x = false → own_WP K M_put (own_ret fun w h' _ => ∃ (r : Int32) (u : List Int32), w = .int r ∧ own_Unit u ∧ r.toInt = (L.length : Int) + u.length ∧ Keep h h' [a] ∧ own_Ary K.Z h' a .char (own_ints (L ++ u) ++ List.replicate (k + 2 - u.length) (.int 0))) 73 [.val (.ref a), .val (.int p), .val (.int c), .val (.int f), .val (.int x)] [] [a] h 0 0 by
      have key2 : ∀ x : Int32, 0 < x.toInt → x.toInt < 65536 → own_WP K M_put (own_ret fun w h' _ => ∃ (r : Int32) (u : List Int32), w = .int r ∧ own_Unit u ∧ r.toInt = (L.length : Int) + u.length ∧ Keep h h' [a] ∧ own_Ary K.Z h' a .char (own_ints (L ++ u) ++ List.replicate (k + 2 - u.length) (.int 0))) 51 [.val (.ref a), .val (.int p), .val (.int c), .val (.int f), .val (.int x)] [] [a] h 0 0 := by
        intro x x0 x1
        have w1 : (55296 : Int32).toInt = 55296 := rfl
        have w2 : (57343 : Int32).toInt = 57343 := rfl
        have w3 : (2048 : Int32).toInt = 2048 := rfl
        refine own_iload (pc' := 53) rfl d_put_51 rfl ?_
        refine own_ldcI (pc' := 55) rfl d_put_53 (tw_32 hw) ?_
        refine own_icmplt (pcT := 73) (pcF := 58) d_put_55 (by decide) (by decide) rfl (fun q1 => ?_) (fun q1 => ?_)
        · rw [Int32.lt_iff_toInt_lt] at q1
          exact key .unset x One.u x0 x1 (own_hi_f (by omega))
        · rw [Int32.lt_iff_toInt_lt] at q1
          refine own_iload (pc' := 60) rfl d_put_58 rfl ?_
          refine own_ldcI (pc' := 62) rfl d_put_60 (tw_175 hw) ?_
          refine own_icmpgt (pcT := 73) (pcF := 65) d_put_62 (by decide) (by decide) rfl (fun q2 => ?_) (fun q2 => ?_)
          · rw [Int32.lt_iff_toInt_lt] at q2
            exact key .unset x One.u x0 x1 (own_hi_f (by omega))
          · rw [Int32.lt_iff_toInt_lt] at q2
            have e := own_sub (x := x) rfl w3 (by omega) (by omega)
            refine own_iload (pc' := 67) rfl d_put_65 rfl ?_
            refine own_sipush (v := (2048 : Int32)) (pc' := 70) rfl d_put_67 rfl ?_
            refine own_isub (pc' := 71) rfl d_put_70 ?_
            refine own_istore_4 (pc' := 73) rfl d_put_71 (by first | exact One.u | exact One.val rfl | assumption | exact One.val (by assumption)) ?_
            exact key .unset _ One.u (by omega) (by omega) (own_hi_f (by omega))
      have hx := c_mask c 65535 16 (by decide) (by decide)
      refine own_iload_n (pc' := 38) rfl d_put_37 rfl ?_
      refine own_ldcI (pc' := 40) rfl d_put_38 (tw_31 hw) ?_
      refine own_iand (pc' := 41) rfl d_put_40 ?_
      refine own_istore_4 (pc' := 43) rfl d_put_41 (by first | exact One.u | exact One.val rfl | assumption | exact One.val (by assumption)) ?_
      refine own_iload (pc' := 45) rfl d_put_43 rfl ?_
      refine own_ifne (pcT := 51) (pcF := 48) d_put_45 (by decide) (by decide) rfl (fun q1 => ?_) (fun q1 => ?_)
      · refine key2 _ ?_ (by omega)
        have : ¬ (c &&& 65535).toInt = 0 := fun z => q1 (Int32.toInt_inj.mp z)
        omega
      · skip
        refine own_iconst (v := (1 : Int32)) (pc' := 49) rfl d_put_48 rfl ?_
        refine own_istore_4 (pc' := 51) rfl d_put_49 (by first | exact One.u | exact One.val rfl | assumption | exact One.val (by assumption)) ?_
        exact key2 1 (by decide) (by decide)
    intro o x ho x0 x1 x2
    refine own_aload_n (pc' := 74) rfl d_put_73 rfl (by first | rfl | assumption) ?_
    refine own_iload_n (pc' := 75) rfl d_put_74 rfl ?_
    refine own_iload (pc' := 77) rfl d_put_75 rfl ?_
    refine own_i2c (pc' := 78) rfl d_put_77 ?_
    refine own_castore (pc' := 79) rfl d_put_78 A (i := L.length) hp (by simp) (own_chn (by omega) x1) (by simp) ?_
    intro h1 k1 A1
    refine own_iload_n (pc' := 80) rfl d_put_79 rfl ?_
    refine own_iconst (v := (1 : Int32)) (pc' := 81) rfl d_put_80 rfl ?_
    refine own_iadd (pc' := 82) rfl d_put_81 ?_
    refine own_ireturn rfl d_put_82 rfl rfl ?_
    refine ⟨_, [x], rfl, Or.inl ⟨x, rfl, x0, x1, x2⟩, by rw [own_add hp v1 (by omega) (by omega)]; simp, k1, ?_⟩
    have e := own_setmid (own_ints L) (.int 0) (.int x) (k + 1)
    rw [eL] at e
    have e2 : own_ints (L ++ [x]) = own_ints L ++ [.int x] := by simp [own_ints]
    rw [e2, show k + 2 - [x].length = k + 1 from rfl, ← e]
    exact A1
  · have r1 := own_hi_r (own_pairH c)
    have r2 := own_lo_r (own_pairL c)
    have hp1 : (p + 1).toInt = ((L.length + 1 : Nat) : Int) := by rw [own_add hp v1] <;> omega
    refine own_aload_n (pc' := 5) rfl d_put_4 rfl (by first | rfl | assumption) ?_
    refine own_iload_n (pc' := 6) rfl d_put_5 rfl ?_
    refine own_ldcI (pc' := 8) rfl d_put_6 (tw_32 hw) ?_
    refine own_iload_n (pc' := 9) rfl d_put_8 rfl ?_
    refine own_bipush (v := (10 : Int32)) (pc' := 11) rfl d_put_9 rfl ?_
    refine own_iushr (pc' := 12) rfl d_put_11 ?_
    refine own_sipush (v := (1023 : Int32)) (pc' := 15) rfl d_put_12 rfl ?_
    refine own_iand (pc' := 16) rfl d_put_15 ?_
    refine own_ior (pc' := 17) rfl d_put_16 ?_
    refine own_i2c (pc' := 18) rfl d_put_17 ?_
    refine own_castore (pc' := 19) rfl d_put_18 A (i := L.length) hp (by simp) (own_chn (by omega) r1.2) (by simp) ?_
    intro h1 k1 A1
    have e := own_setmid (own_ints L) (.int 0) (.int ((55296 : Int32) ||| (XT.ushr c 10 &&& 1023))) (k + 1)
    rw [eL] at e
    rw [e] at A1
    refine own_aload_n (pc' := 20) rfl d_put_19 rfl (by first | rfl | assumption) ?_
    refine own_iload_n (pc' := 21) rfl d_put_20 rfl ?_
    refine own_iconst (v := (1 : Int32)) (pc' := 22) rfl d_put_21 rfl ?_
    refine own_iadd (pc' := 23) rfl d_put_22 ?_
    refine own_ldcI (pc' := 25) rfl d_put_23 (tw_113 hw) ?_
    refine own_iload_n (pc' := 26) rfl d_put_25 rfl ?_
    refine own_sipush (v := (1023 : Int32)) (pc' := 29) rfl d_put_26 rfl ?_
    refine own_iand (pc' := 30) rfl d_put_29 ?_
    refine own_ior (pc' := 31) rfl d_put_30 ?_
    refine own_i2c (pc' := 32) rfl d_put_31 ?_
    refine own_castore (pc' := 33) rfl d_put_32 A1 (i := (L.length + 1)) hp1 (by simp) (own_chn (by omega) r2.2) (by simp) ?_
    intro h2 k2 A2
    have e3 := own_setmid (own_ints L ++ [.int ((55296 : Int32) ||| (XT.ushr c 10 &&& 1023))]) (.int 0) (.int ((56320 : Int32) ||| (c &&& 1023))) k
    rw [show (own_ints L ++ [Value.int ((55296 : Int32) ||| (XT.ushr c 10 &&& 1023))]).length = L.length + 1 by simp] at e3
    rw [e3] at A2
    refine own_iload_n (pc' := 34) rfl d_put_33 rfl ?_
    refine own_iconst (v := (2 : Int32)) (pc' := 35) rfl d_put_34 rfl ?_
    refine own_iadd (pc' := 36) rfl d_put_35 ?_
    refine own_ireturn rfl d_put_36 rfl rfl ?_
    refine ⟨_, [(55296 : Int32) ||| (XT.ushr c 10 &&& 1023), (56320 : Int32) ||| (c &&& 1023)], rfl, Or.inr ⟨_, _, rfl, own_pairH c, own_pairL c⟩, by rw [own_add hp v2 (by omega) (by omega)]; simp, k1.trans k2 (fun x hx => Or.inl hx), ?_⟩
    have e2 : own_ints (L ++ [(55296 : Int32) ||| (XT.ushr c 10 &&& 1023), (56320 : Int32) ||| (c &&& 1023)]) = own_ints L ++ [.int ((55296 : Int32) ||| (XT.ushr c 10 &&& 1023))] ++ [.int ((56320 : Int32) ||| (c &&& 1023))] := by simp [own_ints]
    rw [e2]
    exact A2
theorem d_take_0 : decode method_4_code 0 = .ok (.iload_n 1, 1) := by decide +kernel
theorem d_take_1 : decode method_4_code 1 = .ok (.ifCond .ne 14, 3) := by decide +kernel
theorem d_take_4 : decode method_4_code 4 = .ok (.new 8, 3) := by decide +kernel
theorem d_take_7 : decode method_4_code 7 = .ok (.dup, 1) := by decide +kernel
theorem d_take_8 : decode method_4_code 8 = .ok (.iconst 0, 1) := by decide +kernel
theorem d_take_9 : decode method_4_code 9 = .ok (.newarray .char, 2) := by decide +kernel
theorem d_take_11 : decode method_4_code 11 = .ok (.invokespecial 39, 3) := by decide +kernel
theorem d_take_14 : decode method_4_code 14 = .ok (.areturn, 1) := by decide +kernel
theorem d_take_15 : decode method_4_code 15 = .ok (.iload_n 1, 1) := by decide +kernel
theorem d_take_16 : decode method_4_code 16 = .ok (.iconst 1, 1) := by decide +kernel
theorem d_take_17 : decode method_4_code 17 = .ok (.if_icmp .ne 20, 3) := by decide +kernel
theorem d_take_20 : decode method_4_code 20 = .ok (.new 8, 3) := by decide +kernel
theorem d_take_23 : decode method_4_code 23 = .ok (.dup, 1) := by decide +kernel
theorem d_take_24 : decode method_4_code 24 = .ok (.iconst 1, 1) := by decide +kernel
theorem d_take_25 : decode method_4_code 25 = .ok (.newarray .char, 2) := by decide +kernel
theorem d_take_27 : decode method_4_code 27 = .ok (.dup, 1) := by decide +kernel
theorem d_take_28 : decode method_4_code 28 = .ok (.iconst 0, 1) := by decide +kernel
theorem d_take_29 : decode method_4_code 29 = .ok (.aload_n 0, 1) := by decide +kernel
theorem d_take_30 : decode method_4_code 30 = .ok (.iconst 0, 1) := by decide +kernel
theorem d_take_31 : decode method_4_code 31 = .ok (.caload, 1) := by decide +kernel
theorem d_take_32 : decode method_4_code 32 = .ok (.castore, 1) := by decide +kernel
theorem d_take_33 : decode method_4_code 33 = .ok (.invokespecial 39, 3) := by decide +kernel
theorem d_take_36 : decode method_4_code 36 = .ok (.areturn, 1) := by decide +kernel
theorem d_take_37 : decode method_4_code 37 = .ok (.iload_n 1, 1) := by decide +kernel
theorem d_take_38 : decode method_4_code 38 = .ok (.iconst 2, 1) := by decide +kernel
theorem d_take_39 : decode method_4_code 39 = .ok (.if_icmp .ne 26, 3) := by decide +kernel
theorem d_take_42 : decode method_4_code 42 = .ok (.new 8, 3) := by decide +kernel
theorem d_take_45 : decode method_4_code 45 = .ok (.dup, 1) := by decide +kernel
theorem d_take_46 : decode method_4_code 46 = .ok (.iconst 2, 1) := by decide +kernel
theorem d_take_47 : decode method_4_code 47 = .ok (.newarray .char, 2) := by decide +kernel
theorem d_take_49 : decode method_4_code 49 = .ok (.dup, 1) := by decide +kernel
theorem d_take_50 : decode method_4_code 50 = .ok (.iconst 0, 1) := by decide +kernel
theorem d_take_51 : decode method_4_code 51 = .ok (.aload_n 0, 1) := by decide +kernel
theorem d_take_52 : decode method_4_code 52 = .ok (.iconst 0, 1) := by decide +kernel
theorem d_take_53 : decode method_4_code 53 = .ok (.caload, 1) := by decide +kernel
theorem d_take_54 : decode method_4_code 54 = .ok (.castore, 1) := by decide +kernel
theorem d_take_55 : decode method_4_code 55 = .ok (.dup, 1) := by decide +kernel
theorem d_take_56 : decode method_4_code 56 = .ok (.iconst 1, 1) := by decide +kernel
theorem d_take_57 : decode method_4_code 57 = .ok (.aload_n 0, 1) := by decide +kernel
theorem d_take_58 : decode method_4_code 58 = .ok (.iconst 1, 1) := by decide +kernel
theorem d_take_59 : decode method_4_code 59 = .ok (.caload, 1) := by decide +kernel
theorem d_take_60 : decode method_4_code 60 = .ok (.castore, 1) := by decide +kernel
theorem d_take_61 : decode method_4_code 61 = .ok (.invokespecial 39, 3) := by decide +kernel
theorem d_take_64 : decode method_4_code 64 = .ok (.areturn, 1) := by decide +kernel
theorem d_take_65 : decode method_4_code 65 = .ok (.iload_n 1, 1) := by decide +kernel
theorem d_take_66 : decode method_4_code 66 = .ok (.iconst 3, 1) := by decide +kernel
theorem d_take_67 : decode method_4_code 67 = .ok (.if_icmp .ne 32, 3) := by decide +kernel
theorem d_take_70 : decode method_4_code 70 = .ok (.new 8, 3) := by decide +kernel
theorem d_take_73 : decode method_4_code 73 = .ok (.dup, 1) := by decide +kernel
theorem d_take_74 : decode method_4_code 74 = .ok (.iconst 3, 1) := by decide +kernel
theorem d_take_75 : decode method_4_code 75 = .ok (.newarray .char, 2) := by decide +kernel
theorem d_take_77 : decode method_4_code 77 = .ok (.dup, 1) := by decide +kernel
theorem d_take_78 : decode method_4_code 78 = .ok (.iconst 0, 1) := by decide +kernel
theorem d_take_79 : decode method_4_code 79 = .ok (.aload_n 0, 1) := by decide +kernel
theorem d_take_80 : decode method_4_code 80 = .ok (.iconst 0, 1) := by decide +kernel
theorem d_take_81 : decode method_4_code 81 = .ok (.caload, 1) := by decide +kernel
theorem d_take_82 : decode method_4_code 82 = .ok (.castore, 1) := by decide +kernel
theorem d_take_83 : decode method_4_code 83 = .ok (.dup, 1) := by decide +kernel
theorem d_take_84 : decode method_4_code 84 = .ok (.iconst 1, 1) := by decide +kernel
theorem d_take_85 : decode method_4_code 85 = .ok (.aload_n 0, 1) := by decide +kernel
theorem d_take_86 : decode method_4_code 86 = .ok (.iconst 1, 1) := by decide +kernel
theorem d_take_87 : decode method_4_code 87 = .ok (.caload, 1) := by decide +kernel
theorem d_take_88 : decode method_4_code 88 = .ok (.castore, 1) := by decide +kernel
theorem d_take_89 : decode method_4_code 89 = .ok (.dup, 1) := by decide +kernel
theorem d_take_90 : decode method_4_code 90 = .ok (.iconst 2, 1) := by decide +kernel
theorem d_take_91 : decode method_4_code 91 = .ok (.aload_n 0, 1) := by decide +kernel
theorem d_take_92 : decode method_4_code 92 = .ok (.iconst 2, 1) := by decide +kernel
theorem d_take_93 : decode method_4_code 93 = .ok (.caload, 1) := by decide +kernel
theorem d_take_94 : decode method_4_code 94 = .ok (.castore, 1) := by decide +kernel
theorem d_take_95 : decode method_4_code 95 = .ok (.invokespecial 39, 3) := by decide +kernel
theorem d_take_98 : decode method_4_code 98 = .ok (.areturn, 1) := by decide +kernel
theorem d_take_99 : decode method_4_code 99 = .ok (.iload_n 1, 1) := by decide +kernel
theorem d_take_100 : decode method_4_code 100 = .ok (.iconst 4, 1) := by decide +kernel
theorem d_take_101 : decode method_4_code 101 = .ok (.if_icmp .ne 38, 3) := by decide +kernel
theorem d_take_104 : decode method_4_code 104 = .ok (.new 8, 3) := by decide +kernel
theorem d_take_107 : decode method_4_code 107 = .ok (.dup, 1) := by decide +kernel
theorem d_take_108 : decode method_4_code 108 = .ok (.iconst 4, 1) := by decide +kernel
theorem d_take_109 : decode method_4_code 109 = .ok (.newarray .char, 2) := by decide +kernel
theorem d_take_111 : decode method_4_code 111 = .ok (.dup, 1) := by decide +kernel
theorem d_take_112 : decode method_4_code 112 = .ok (.iconst 0, 1) := by decide +kernel
theorem d_take_113 : decode method_4_code 113 = .ok (.aload_n 0, 1) := by decide +kernel
theorem d_take_114 : decode method_4_code 114 = .ok (.iconst 0, 1) := by decide +kernel
theorem d_take_115 : decode method_4_code 115 = .ok (.caload, 1) := by decide +kernel
theorem d_take_116 : decode method_4_code 116 = .ok (.castore, 1) := by decide +kernel
theorem d_take_117 : decode method_4_code 117 = .ok (.dup, 1) := by decide +kernel
theorem d_take_118 : decode method_4_code 118 = .ok (.iconst 1, 1) := by decide +kernel
theorem d_take_119 : decode method_4_code 119 = .ok (.aload_n 0, 1) := by decide +kernel
theorem d_take_120 : decode method_4_code 120 = .ok (.iconst 1, 1) := by decide +kernel
theorem d_take_121 : decode method_4_code 121 = .ok (.caload, 1) := by decide +kernel
theorem d_take_122 : decode method_4_code 122 = .ok (.castore, 1) := by decide +kernel
theorem d_take_123 : decode method_4_code 123 = .ok (.dup, 1) := by decide +kernel
theorem d_take_124 : decode method_4_code 124 = .ok (.iconst 2, 1) := by decide +kernel
theorem d_take_125 : decode method_4_code 125 = .ok (.aload_n 0, 1) := by decide +kernel
theorem d_take_126 : decode method_4_code 126 = .ok (.iconst 2, 1) := by decide +kernel
theorem d_take_127 : decode method_4_code 127 = .ok (.caload, 1) := by decide +kernel
theorem d_take_128 : decode method_4_code 128 = .ok (.castore, 1) := by decide +kernel
theorem d_take_129 : decode method_4_code 129 = .ok (.dup, 1) := by decide +kernel
theorem d_take_130 : decode method_4_code 130 = .ok (.iconst 3, 1) := by decide +kernel
theorem d_take_131 : decode method_4_code 131 = .ok (.aload_n 0, 1) := by decide +kernel
theorem d_take_132 : decode method_4_code 132 = .ok (.iconst 3, 1) := by decide +kernel
theorem d_take_133 : decode method_4_code 133 = .ok (.caload, 1) := by decide +kernel
theorem d_take_134 : decode method_4_code 134 = .ok (.castore, 1) := by decide +kernel
theorem d_take_135 : decode method_4_code 135 = .ok (.invokespecial 39, 3) := by decide +kernel
theorem d_take_138 : decode method_4_code 138 = .ok (.areturn, 1) := by decide +kernel
theorem d_take_139 : decode method_4_code 139 = .ok (.iload_n 1, 1) := by decide +kernel
theorem d_take_140 : decode method_4_code 140 = .ok (.iconst 5, 1) := by decide +kernel
theorem d_take_141 : decode method_4_code 141 = .ok (.if_icmp .ne 44, 3) := by decide +kernel
theorem d_take_144 : decode method_4_code 144 = .ok (.new 8, 3) := by decide +kernel
theorem d_take_147 : decode method_4_code 147 = .ok (.dup, 1) := by decide +kernel
theorem d_take_148 : decode method_4_code 148 = .ok (.iconst 5, 1) := by decide +kernel
theorem d_take_149 : decode method_4_code 149 = .ok (.newarray .char, 2) := by decide +kernel
theorem d_take_151 : decode method_4_code 151 = .ok (.dup, 1) := by decide +kernel
theorem d_take_152 : decode method_4_code 152 = .ok (.iconst 0, 1) := by decide +kernel
theorem d_take_153 : decode method_4_code 153 = .ok (.aload_n 0, 1) := by decide +kernel
theorem d_take_154 : decode method_4_code 154 = .ok (.iconst 0, 1) := by decide +kernel
theorem d_take_155 : decode method_4_code 155 = .ok (.caload, 1) := by decide +kernel
theorem d_take_156 : decode method_4_code 156 = .ok (.castore, 1) := by decide +kernel
theorem d_take_157 : decode method_4_code 157 = .ok (.dup, 1) := by decide +kernel
theorem d_take_158 : decode method_4_code 158 = .ok (.iconst 1, 1) := by decide +kernel
theorem d_take_159 : decode method_4_code 159 = .ok (.aload_n 0, 1) := by decide +kernel
theorem d_take_160 : decode method_4_code 160 = .ok (.iconst 1, 1) := by decide +kernel
theorem d_take_161 : decode method_4_code 161 = .ok (.caload, 1) := by decide +kernel
theorem d_take_162 : decode method_4_code 162 = .ok (.castore, 1) := by decide +kernel
theorem d_take_163 : decode method_4_code 163 = .ok (.dup, 1) := by decide +kernel
theorem d_take_164 : decode method_4_code 164 = .ok (.iconst 2, 1) := by decide +kernel
theorem d_take_165 : decode method_4_code 165 = .ok (.aload_n 0, 1) := by decide +kernel
theorem d_take_166 : decode method_4_code 166 = .ok (.iconst 2, 1) := by decide +kernel
theorem d_take_167 : decode method_4_code 167 = .ok (.caload, 1) := by decide +kernel
theorem d_take_168 : decode method_4_code 168 = .ok (.castore, 1) := by decide +kernel
theorem d_take_169 : decode method_4_code 169 = .ok (.dup, 1) := by decide +kernel
theorem d_take_170 : decode method_4_code 170 = .ok (.iconst 3, 1) := by decide +kernel
theorem d_take_171 : decode method_4_code 171 = .ok (.aload_n 0, 1) := by decide +kernel
theorem d_take_172 : decode method_4_code 172 = .ok (.iconst 3, 1) := by decide +kernel
theorem d_take_173 : decode method_4_code 173 = .ok (.caload, 1) := by decide +kernel
theorem d_take_174 : decode method_4_code 174 = .ok (.castore, 1) := by decide +kernel
theorem d_take_175 : decode method_4_code 175 = .ok (.dup, 1) := by decide +kernel
theorem d_take_176 : decode method_4_code 176 = .ok (.iconst 4, 1) := by decide +kernel
theorem d_take_177 : decode method_4_code 177 = .ok (.aload_n 0, 1) := by decide +kernel
theorem d_take_178 : decode method_4_code 178 = .ok (.iconst 4, 1) := by decide +kernel
theorem d_take_179 : decode method_4_code 179 = .ok (.caload, 1) := by decide +kernel
theorem d_take_180 : decode method_4_code 180 = .ok (.castore, 1) := by decide +kernel
theorem d_take_181 : decode method_4_code 181 = .ok (.invokespecial 39, 3) := by decide +kernel
theorem d_take_184 : decode method_4_code 184 = .ok (.areturn, 1) := by decide +kernel
theorem d_take_185 : decode method_4_code 185 = .ok (.new 8, 3) := by decide +kernel
theorem d_take_188 : decode method_4_code 188 = .ok (.dup, 1) := by decide +kernel
theorem d_take_189 : decode method_4_code 189 = .ok (.bipush 6, 2) := by decide +kernel
theorem d_take_191 : decode method_4_code 191 = .ok (.newarray .char, 2) := by decide +kernel
theorem d_take_193 : decode method_4_code 193 = .ok (.dup, 1) := by decide +kernel
theorem d_take_194 : decode method_4_code 194 = .ok (.iconst 0, 1) := by decide +kernel
theorem d_take_195 : decode method_4_code 195 = .ok (.aload_n 0, 1) := by decide +kernel
theorem d_take_196 : decode method_4_code 196 = .ok (.iconst 0, 1) := by decide +kernel
theorem d_take_197 : decode method_4_code 197 = .ok (.caload, 1) := by decide +kernel
theorem d_take_198 : decode method_4_code 198 = .ok (.castore, 1) := by decide +kernel
theorem d_take_199 : decode method_4_code 199 = .ok (.dup, 1) := by decide +kernel
theorem d_take_200 : decode method_4_code 200 = .ok (.iconst 1, 1) := by decide +kernel
theorem d_take_201 : decode method_4_code 201 = .ok (.aload_n 0, 1) := by decide +kernel
theorem d_take_202 : decode method_4_code 202 = .ok (.iconst 1, 1) := by decide +kernel
theorem d_take_203 : decode method_4_code 203 = .ok (.caload, 1) := by decide +kernel
theorem d_take_204 : decode method_4_code 204 = .ok (.castore, 1) := by decide +kernel
theorem d_take_205 : decode method_4_code 205 = .ok (.dup, 1) := by decide +kernel
theorem d_take_206 : decode method_4_code 206 = .ok (.iconst 2, 1) := by decide +kernel
theorem d_take_207 : decode method_4_code 207 = .ok (.aload_n 0, 1) := by decide +kernel
theorem d_take_208 : decode method_4_code 208 = .ok (.iconst 2, 1) := by decide +kernel
theorem d_take_209 : decode method_4_code 209 = .ok (.caload, 1) := by decide +kernel
theorem d_take_210 : decode method_4_code 210 = .ok (.castore, 1) := by decide +kernel
theorem d_take_211 : decode method_4_code 211 = .ok (.dup, 1) := by decide +kernel
theorem d_take_212 : decode method_4_code 212 = .ok (.iconst 3, 1) := by decide +kernel
theorem d_take_213 : decode method_4_code 213 = .ok (.aload_n 0, 1) := by decide +kernel
theorem d_take_214 : decode method_4_code 214 = .ok (.iconst 3, 1) := by decide +kernel
theorem d_take_215 : decode method_4_code 215 = .ok (.caload, 1) := by decide +kernel
theorem d_take_216 : decode method_4_code 216 = .ok (.castore, 1) := by decide +kernel
theorem d_take_217 : decode method_4_code 217 = .ok (.dup, 1) := by decide +kernel
theorem d_take_218 : decode method_4_code 218 = .ok (.iconst 4, 1) := by decide +kernel
theorem d_take_219 : decode method_4_code 219 = .ok (.aload_n 0, 1) := by decide +kernel
theorem d_take_220 : decode method_4_code 220 = .ok (.iconst 4, 1) := by decide +kernel
theorem d_take_221 : decode method_4_code 221 = .ok (.caload, 1) := by decide +kernel
theorem d_take_222 : decode method_4_code 222 = .ok (.castore, 1) := by decide +kernel
theorem d_take_223 : decode method_4_code 223 = .ok (.dup, 1) := by decide +kernel
theorem d_take_224 : decode method_4_code 224 = .ok (.iconst 5, 1) := by decide +kernel
theorem d_take_225 : decode method_4_code 225 = .ok (.aload_n 0, 1) := by decide +kernel
theorem d_take_226 : decode method_4_code 226 = .ok (.iconst 5, 1) := by decide +kernel
theorem d_take_227 : decode method_4_code 227 = .ok (.caload, 1) := by decide +kernel
theorem d_take_228 : decode method_4_code 228 = .ok (.castore, 1) := by decide +kernel
theorem d_take_229 : decode method_4_code 229 = .ok (.invokespecial 39, 3) := by decide +kernel
theorem d_take_232 : decode method_4_code 232 = .ok (.areturn, 1) := by decide +kernel
abbrev M_take : own_Mi := ((⟨"com/example/table_to_topic/tabletotopic/TextCheckColumnPinLaw", "take", "([CI)Ljava/lang/String;"⟩ : MethodName), method_4_code, 2, (Option.some (FieldType.object "java/lang/String")), ({ frames := 6, cells := 6, slots := 28, locals := 88 } : Room))
theorem pn_take : plainFor (own_Mi.y M_take) = true := plainFor_of_name (by first | (simp [plainName, overriddenIn]; done) | decide +kernel)
set_option maxRecDepth 65536 in
set_option maxHeartbeats 40000000 in
theorem c_take (K : own_Cx) (a0 : Array Value) (hw : ∀ d ∈ tables_1, d.before a0 K.Z = true) (hU : own_U16 K) (hnw : K.nw = false) (hEL : EW K.Z a0 K.E) (hme : ("java/lang/String", 7) ∈ K.E) (g : Int32) (SC : Sta K.Z K.Z.heap own_sC "COMPACT_STRINGS" "Z" (.int g)) (hg : ¬ g = 0) (a : Addr) (cs : List Int32) (m : Nat) (h : Heap) (hcs : own_Chs cs) (hlen : cs.length ≤ 6) (A : own_Ary K.Z h a .char (own_ints cs ++ List.replicate m (.int 0))) :
    own_Met K M_take #[.ref a, .int cs.length.toInt32] [] h (own_ret fun w h' _ => ∃ x : Addr, w = .ref x ∧ Ext h h' ∧ own_Str K.Z h' x cs) := by
  match cs, hcs, hlen, A with
  | [], hcs, hlen, A =>
    have al : @LT.lt Nat _ _ _ := A.lt
    refine own_met_2_0 (M := M_take) pn_take rfl (by first | rfl | exact own_cat (by assumption)) (by first | rfl | exact own_cat (by assumption)) ?_
    refine own_iload_n (pc' := 1) rfl d_take_0 rfl ?_
    refine own_ifne (pcT := 15) (pcF := 4) d_take_1 (by decide) (by decide) rfl (fun q0 => ?_) (fun q0 => ?_)
    · exact absurd rfl q0
    refine own_new (pc' := 7) rfl d_take_4 (tw_36 hw) (tw_10 hw) (tw_2 hw) rfl rfl ?_
    intro x hx ex Ex X D
    have FVx := D (Or.inr (tw_23 hw)) (ty := .array .byte) (by decide)
    have FCx := D (Or.inr (tw_25 hw)) (ty := .byte) (by decide)
    have lx : @LT.lt Nat _ _ _ := X.lt
    refine own_dup (pc' := 8) rfl d_take_7 (by first | rfl | assumption) ?_
    refine own_iconst (v := (0 : Int32)) (pc' := 9) rfl d_take_8 rfl ?_
    refine own_newarray (pc' := 11) rfl d_take_9 (tw_26 hw) (N := 0) (cap := 0) (by decide) (by decide) rfl rfl rfl ?_
    intro b hb0 eb Eb B0
    have nxb : x ≠ b := by show @Ne Nat x b; omega
    have nab : a ≠ b := by show @Ne Nat a b; have := Ex.1; omega
    have A0 := (A.ext Ex).ext Eb
    have k0 : Keep hb0 hb0 [b] := Keep.refl _ _
    have EB := own_ext_keep (own_ext_trans Ex Eb) k0 (by intro z hz; cases List.mem_singleton.mp hz; have := Ex.1; omega)
    refine own_special1n (M' := M_si1) d_take_11 (pc' := 14) rfl rfl rfl (tw_37 hw) (tw_38 hw) (tw_2 hw) (tw_39 hw) (by decide) rfl (own_lenOf pd_24 rfl) rfl rfl rfl rfl (c_si1 K a0 hw hU hnw hEL hme x b g [] hb0 (by simp) hcs B0 ((X.ext Eb).keep k0) ((FVx.ext Eb).keep k0 (ninS nxb nin0)) ((FCx.ext Eb).keep k0 (ninS nxb nin0)) SC hg) (by simp) ?_
    rintro hs xs ⟨ks, S⟩
    refine own_areturn rfl rfl (by first | rfl | assumption) d_take_14 rfl rfl ?_
    exact ⟨x, rfl, own_ext_keep EB ks (by intro z hz; cases List.mem_singleton.mp hz; omega), S⟩
  | [e0], hcs, hlen, A =>
    have r0 := hcs e0 (by simp)
    have al : @LT.lt Nat _ _ _ := A.lt
    refine own_met_2_0 (M := M_take) pn_take rfl (by first | rfl | exact own_cat (by assumption)) (by first | rfl | exact own_cat (by assumption)) ?_
    refine own_iload_n (pc' := 1) rfl d_take_0 rfl ?_
    refine own_ifne (pcT := 15) (pcF := 4) d_take_1 (by decide) (by decide) rfl (fun q0 => ?_) (fun q0 => ?_)
    rotate_left 1
    · exact absurd q0 (show ¬ ((1 : Nat).toInt32 = (0 : Int32)) by decide)
    refine own_iload_n (pc' := 16) rfl d_take_15 rfl ?_
    refine own_iconst (v := (1 : Int32)) (pc' := 17) rfl d_take_16 rfl ?_
    refine own_icmpne (pcT := 37) (pcF := 20) d_take_17 (by decide) (by decide) rfl (fun q1 => ?_) (fun q1 => ?_)
    · exact absurd rfl q1
    refine own_new (pc' := 23) rfl d_take_20 (tw_36 hw) (tw_10 hw) (tw_2 hw) rfl rfl ?_
    intro x hx ex Ex X D
    have FVx := D (Or.inr (tw_23 hw)) (ty := .array .byte) (by decide)
    have FCx := D (Or.inr (tw_25 hw)) (ty := .byte) (by decide)
    have lx : @LT.lt Nat _ _ _ := X.lt
    refine own_dup (pc' := 24) rfl d_take_23 (by first | rfl | assumption) ?_
    refine own_iconst (v := (1 : Int32)) (pc' := 25) rfl d_take_24 rfl ?_
    refine own_newarray (pc' := 27) rfl d_take_25 (tw_26 hw) (N := 1) (cap := 1) (by decide) (by decide) rfl rfl rfl ?_
    intro b hb0 eb Eb B0
    have nxb : x ≠ b := by show @Ne Nat x b; omega
    have nab : a ≠ b := by show @Ne Nat a b; have := Ex.1; omega
    have A0 := (A.ext Ex).ext Eb
    have k0 : Keep hb0 hb0 [b] := Keep.refl _ _
    refine own_dup (pc' := 28) rfl d_take_27 (by first | rfl | assumption) ?_
    refine own_iconst (v := (0 : Int32)) (pc' := 29) rfl d_take_28 rfl ?_
    refine own_aload_n (pc' := 30) rfl d_take_29 rfl (by first | rfl | assumption) ?_
    refine own_iconst (v := (0 : Int32)) (pc' := 31) rfl d_take_30 rfl ?_
    refine own_caload (pc' := 32) rfl d_take_31 A0 (i := 0) (by decide) rfl ?_
    refine own_castore (pc' := 33) rfl d_take_32 B0 (i := 0) (by decide) (by simp) (own_i2c_id r0.1 r0.2) (by simp) ?_
    intro h1 k1' B1
    have k1 := k0.trans k1' (fun z hz => Or.inl hz)
    have A1 := A0.keep k1' (ninS nab nin0)
    have EB := own_ext_keep (own_ext_trans Ex Eb) k1 (by intro z hz; cases List.mem_singleton.mp hz; have := Ex.1; omega)
    refine own_special1n (M' := M_si1) d_take_33 (pc' := 36) rfl rfl rfl (tw_37 hw) (tw_38 hw) (tw_2 hw) (tw_39 hw) (by decide) rfl (own_lenOf pd_24 rfl) rfl rfl rfl rfl (c_si1 K a0 hw hU hnw hEL hme x b g [e0] h1 (by simp) hcs B1 ((X.ext Eb).keep k1) ((FVx.ext Eb).keep k1 (ninS nxb nin0)) ((FCx.ext Eb).keep k1 (ninS nxb nin0)) SC hg) (by simp) ?_
    rintro hs xs ⟨ks, S⟩
    refine own_areturn rfl rfl (by first | rfl | assumption) d_take_36 rfl rfl ?_
    exact ⟨x, rfl, own_ext_keep EB ks (by intro z hz; cases List.mem_singleton.mp hz; omega), S⟩
  | [e0, e1], hcs, hlen, A =>
    have r0 := hcs e0 (by simp)
    have r1 := hcs e1 (by simp)
    have al : @LT.lt Nat _ _ _ := A.lt
    refine own_met_2_0 (M := M_take) pn_take rfl (by first | rfl | exact own_cat (by assumption)) (by first | rfl | exact own_cat (by assumption)) ?_
    refine own_iload_n (pc' := 1) rfl d_take_0 rfl ?_
    refine own_ifne (pcT := 15) (pcF := 4) d_take_1 (by decide) (by decide) rfl (fun q0 => ?_) (fun q0 => ?_)
    rotate_left 1
    · exact absurd q0 (show ¬ ((2 : Nat).toInt32 = (0 : Int32)) by decide)
    refine own_iload_n (pc' := 16) rfl d_take_15 rfl ?_
    refine own_iconst (v := (1 : Int32)) (pc' := 17) rfl d_take_16 rfl ?_
    refine own_icmpne (pcT := 37) (pcF := 20) d_take_17 (by decide) (by decide) rfl (fun q1 => ?_) (fun q1 => ?_)
    rotate_left 1
    · exact absurd q1 (show ¬ ((2 : Nat).toInt32 = (1 : Int32)) by decide)
    refine own_iload_n (pc' := 38) rfl d_take_37 rfl ?_
    refine own_iconst (v := (2 : Int32)) (pc' := 39) rfl d_take_38 rfl ?_
    refine own_icmpne (pcT := 65) (pcF := 42) d_take_39 (by decide) (by decide) rfl (fun q2 => ?_) (fun q2 => ?_)
    · exact absurd rfl q2
    refine own_new (pc' := 45) rfl d_take_42 (tw_36 hw) (tw_10 hw) (tw_2 hw) rfl rfl ?_
    intro x hx ex Ex X D
    have FVx := D (Or.inr (tw_23 hw)) (ty := .array .byte) (by decide)
    have FCx := D (Or.inr (tw_25 hw)) (ty := .byte) (by decide)
    have lx : @LT.lt Nat _ _ _ := X.lt
    refine own_dup (pc' := 46) rfl d_take_45 (by first | rfl | assumption) ?_
    refine own_iconst (v := (2 : Int32)) (pc' := 47) rfl d_take_46 rfl ?_
    refine own_newarray (pc' := 49) rfl d_take_47 (tw_26 hw) (N := 2) (cap := 2) (by decide) (by decide) rfl rfl rfl ?_
    intro b hb0 eb Eb B0
    have nxb : x ≠ b := by show @Ne Nat x b; omega
    have nab : a ≠ b := by show @Ne Nat a b; have := Ex.1; omega
    have A0 := (A.ext Ex).ext Eb
    have k0 : Keep hb0 hb0 [b] := Keep.refl _ _
    refine own_dup (pc' := 50) rfl d_take_49 (by first | rfl | assumption) ?_
    refine own_iconst (v := (0 : Int32)) (pc' := 51) rfl d_take_50 rfl ?_
    refine own_aload_n (pc' := 52) rfl d_take_51 rfl (by first | rfl | assumption) ?_
    refine own_iconst (v := (0 : Int32)) (pc' := 53) rfl d_take_52 rfl ?_
    refine own_caload (pc' := 54) rfl d_take_53 A0 (i := 0) (by decide) rfl ?_
    refine own_castore (pc' := 55) rfl d_take_54 B0 (i := 0) (by decide) (by simp) (own_i2c_id r0.1 r0.2) (by simp) ?_
    intro h1 k1' B1
    have k1 := k0.trans k1' (fun z hz => Or.inl hz)
    have A1 := A0.keep k1' (ninS nab nin0)
    refine own_dup (pc' := 56) rfl d_take_55 (by first | rfl | assumption) ?_
    refine own_iconst (v := (1 : Int32)) (pc' := 57) rfl d_take_56 rfl ?_
    refine own_aload_n (pc' := 58) rfl d_take_57 rfl (by first | rfl | assumption) ?_
    refine own_iconst (v := (1 : Int32)) (pc' := 59) rfl d_take_58 rfl ?_
    refine own_caload (pc' := 60) rfl d_take_59 A1 (i := 1) (by decide) rfl ?_
    refine own_castore (pc' := 61) rfl d_take_60 B1 (i := 1) (by decide) (by simp) (own_i2c_id r1.1 r1.2) (by simp) ?_
    intro h2 k2' B2
    have k2 := k1.trans k2' (fun z hz => Or.inl hz)
    have A2 := A1.keep k2' (ninS nab nin0)
    have EB := own_ext_keep (own_ext_trans Ex Eb) k2 (by intro z hz; cases List.mem_singleton.mp hz; have := Ex.1; omega)
    refine own_special1n (M' := M_si1) d_take_61 (pc' := 64) rfl rfl rfl (tw_37 hw) (tw_38 hw) (tw_2 hw) (tw_39 hw) (by decide) rfl (own_lenOf pd_24 rfl) rfl rfl rfl rfl (c_si1 K a0 hw hU hnw hEL hme x b g [e0, e1] h2 (by simp) hcs B2 ((X.ext Eb).keep k2) ((FVx.ext Eb).keep k2 (ninS nxb nin0)) ((FCx.ext Eb).keep k2 (ninS nxb nin0)) SC hg) (by simp) ?_
    rintro hs xs ⟨ks, S⟩
    refine own_areturn rfl rfl (by first | rfl | assumption) d_take_64 rfl rfl ?_
    exact ⟨x, rfl, own_ext_keep EB ks (by intro z hz; cases List.mem_singleton.mp hz; omega), S⟩
  | [e0, e1, e2], hcs, hlen, A =>
    have r0 := hcs e0 (by simp)
    have r1 := hcs e1 (by simp)
    have r2 := hcs e2 (by simp)
    have al : @LT.lt Nat _ _ _ := A.lt
    refine own_met_2_0 (M := M_take) pn_take rfl (by first | rfl | exact own_cat (by assumption)) (by first | rfl | exact own_cat (by assumption)) ?_
    refine own_iload_n (pc' := 1) rfl d_take_0 rfl ?_
    refine own_ifne (pcT := 15) (pcF := 4) d_take_1 (by decide) (by decide) rfl (fun q0 => ?_) (fun q0 => ?_)
    rotate_left 1
    · exact absurd q0 (show ¬ ((3 : Nat).toInt32 = (0 : Int32)) by decide)
    refine own_iload_n (pc' := 16) rfl d_take_15 rfl ?_
    refine own_iconst (v := (1 : Int32)) (pc' := 17) rfl d_take_16 rfl ?_
    refine own_icmpne (pcT := 37) (pcF := 20) d_take_17 (by decide) (by decide) rfl (fun q1 => ?_) (fun q1 => ?_)
    rotate_left 1
    · exact absurd q1 (show ¬ ((3 : Nat).toInt32 = (1 : Int32)) by decide)
    refine own_iload_n (pc' := 38) rfl d_take_37 rfl ?_
    refine own_iconst (v := (2 : Int32)) (pc' := 39) rfl d_take_38 rfl ?_
    refine own_icmpne (pcT := 65) (pcF := 42) d_take_39 (by decide) (by decide) rfl (fun q2 => ?_) (fun q2 => ?_)
    rotate_left 1
    · exact absurd q2 (show ¬ ((3 : Nat).toInt32 = (2 : Int32)) by decide)
    refine own_iload_n (pc' := 66) rfl d_take_65 rfl ?_
    refine own_iconst (v := (3 : Int32)) (pc' := 67) rfl d_take_66 rfl ?_
    refine own_icmpne (pcT := 99) (pcF := 70) d_take_67 (by decide) (by decide) rfl (fun q3 => ?_) (fun q3 => ?_)
    · exact absurd rfl q3
    refine own_new (pc' := 73) rfl d_take_70 (tw_36 hw) (tw_10 hw) (tw_2 hw) rfl rfl ?_
    intro x hx ex Ex X D
    have FVx := D (Or.inr (tw_23 hw)) (ty := .array .byte) (by decide)
    have FCx := D (Or.inr (tw_25 hw)) (ty := .byte) (by decide)
    have lx : @LT.lt Nat _ _ _ := X.lt
    refine own_dup (pc' := 74) rfl d_take_73 (by first | rfl | assumption) ?_
    refine own_iconst (v := (3 : Int32)) (pc' := 75) rfl d_take_74 rfl ?_
    refine own_newarray (pc' := 77) rfl d_take_75 (tw_26 hw) (N := 3) (cap := 3) (by decide) (by decide) rfl rfl rfl ?_
    intro b hb0 eb Eb B0
    have nxb : x ≠ b := by show @Ne Nat x b; omega
    have nab : a ≠ b := by show @Ne Nat a b; have := Ex.1; omega
    have A0 := (A.ext Ex).ext Eb
    have k0 : Keep hb0 hb0 [b] := Keep.refl _ _
    refine own_dup (pc' := 78) rfl d_take_77 (by first | rfl | assumption) ?_
    refine own_iconst (v := (0 : Int32)) (pc' := 79) rfl d_take_78 rfl ?_
    refine own_aload_n (pc' := 80) rfl d_take_79 rfl (by first | rfl | assumption) ?_
    refine own_iconst (v := (0 : Int32)) (pc' := 81) rfl d_take_80 rfl ?_
    refine own_caload (pc' := 82) rfl d_take_81 A0 (i := 0) (by decide) rfl ?_
    refine own_castore (pc' := 83) rfl d_take_82 B0 (i := 0) (by decide) (by simp) (own_i2c_id r0.1 r0.2) (by simp) ?_
    intro h1 k1' B1
    have k1 := k0.trans k1' (fun z hz => Or.inl hz)
    have A1 := A0.keep k1' (ninS nab nin0)
    refine own_dup (pc' := 84) rfl d_take_83 (by first | rfl | assumption) ?_
    refine own_iconst (v := (1 : Int32)) (pc' := 85) rfl d_take_84 rfl ?_
    refine own_aload_n (pc' := 86) rfl d_take_85 rfl (by first | rfl | assumption) ?_
    refine own_iconst (v := (1 : Int32)) (pc' := 87) rfl d_take_86 rfl ?_
    refine own_caload (pc' := 88) rfl d_take_87 A1 (i := 1) (by decide) rfl ?_
    refine own_castore (pc' := 89) rfl d_take_88 B1 (i := 1) (by decide) (by simp) (own_i2c_id r1.1 r1.2) (by simp) ?_
    intro h2 k2' B2
    have k2 := k1.trans k2' (fun z hz => Or.inl hz)
    have A2 := A1.keep k2' (ninS nab nin0)
    refine own_dup (pc' := 90) rfl d_take_89 (by first | rfl | assumption) ?_
    refine own_iconst (v := (2 : Int32)) (pc' := 91) rfl d_take_90 rfl ?_
    refine own_aload_n (pc' := 92) rfl d_take_91 rfl (by first | rfl | assumption) ?_
    refine own_iconst (v := (2 : Int32)) (pc' := 93) rfl d_take_92 rfl ?_
    refine own_caload (pc' := 94) rfl d_take_93 A2 (i := 2) (by decide) rfl ?_
    refine own_castore (pc' := 95) rfl d_take_94 B2 (i := 2) (by decide) (by simp) (own_i2c_id r2.1 r2.2) (by simp) ?_
    intro h3 k3' B3
    have k3 := k2.trans k3' (fun z hz => Or.inl hz)
    have A3 := A2.keep k3' (ninS nab nin0)
    have EB := own_ext_keep (own_ext_trans Ex Eb) k3 (by intro z hz; cases List.mem_singleton.mp hz; have := Ex.1; omega)
    refine own_special1n (M' := M_si1) d_take_95 (pc' := 98) rfl rfl rfl (tw_37 hw) (tw_38 hw) (tw_2 hw) (tw_39 hw) (by decide) rfl (own_lenOf pd_24 rfl) rfl rfl rfl rfl (c_si1 K a0 hw hU hnw hEL hme x b g [e0, e1, e2] h3 (by simp) hcs B3 ((X.ext Eb).keep k3) ((FVx.ext Eb).keep k3 (ninS nxb nin0)) ((FCx.ext Eb).keep k3 (ninS nxb nin0)) SC hg) (by simp) ?_
    rintro hs xs ⟨ks, S⟩
    refine own_areturn rfl rfl (by first | rfl | assumption) d_take_98 rfl rfl ?_
    exact ⟨x, rfl, own_ext_keep EB ks (by intro z hz; cases List.mem_singleton.mp hz; omega), S⟩
  | [e0, e1, e2, e3], hcs, hlen, A =>
    have r0 := hcs e0 (by simp)
    have r1 := hcs e1 (by simp)
    have r2 := hcs e2 (by simp)
    have r3 := hcs e3 (by simp)
    have al : @LT.lt Nat _ _ _ := A.lt
    refine own_met_2_0 (M := M_take) pn_take rfl (by first | rfl | exact own_cat (by assumption)) (by first | rfl | exact own_cat (by assumption)) ?_
    refine own_iload_n (pc' := 1) rfl d_take_0 rfl ?_
    refine own_ifne (pcT := 15) (pcF := 4) d_take_1 (by decide) (by decide) rfl (fun q0 => ?_) (fun q0 => ?_)
    rotate_left 1
    · exact absurd q0 (show ¬ ((4 : Nat).toInt32 = (0 : Int32)) by decide)
    refine own_iload_n (pc' := 16) rfl d_take_15 rfl ?_
    refine own_iconst (v := (1 : Int32)) (pc' := 17) rfl d_take_16 rfl ?_
    refine own_icmpne (pcT := 37) (pcF := 20) d_take_17 (by decide) (by decide) rfl (fun q1 => ?_) (fun q1 => ?_)
    rotate_left 1
    · exact absurd q1 (show ¬ ((4 : Nat).toInt32 = (1 : Int32)) by decide)
    refine own_iload_n (pc' := 38) rfl d_take_37 rfl ?_
    refine own_iconst (v := (2 : Int32)) (pc' := 39) rfl d_take_38 rfl ?_
    refine own_icmpne (pcT := 65) (pcF := 42) d_take_39 (by decide) (by decide) rfl (fun q2 => ?_) (fun q2 => ?_)
    rotate_left 1
    · exact absurd q2 (show ¬ ((4 : Nat).toInt32 = (2 : Int32)) by decide)
    refine own_iload_n (pc' := 66) rfl d_take_65 rfl ?_
    refine own_iconst (v := (3 : Int32)) (pc' := 67) rfl d_take_66 rfl ?_
    refine own_icmpne (pcT := 99) (pcF := 70) d_take_67 (by decide) (by decide) rfl (fun q3 => ?_) (fun q3 => ?_)
    rotate_left 1
    · exact absurd q3 (show ¬ ((4 : Nat).toInt32 = (3 : Int32)) by decide)
    refine own_iload_n (pc' := 100) rfl d_take_99 rfl ?_
    refine own_iconst (v := (4 : Int32)) (pc' := 101) rfl d_take_100 rfl ?_
    refine own_icmpne (pcT := 139) (pcF := 104) d_take_101 (by decide) (by decide) rfl (fun q4 => ?_) (fun q4 => ?_)
    · exact absurd rfl q4
    refine own_new (pc' := 107) rfl d_take_104 (tw_36 hw) (tw_10 hw) (tw_2 hw) rfl rfl ?_
    intro x hx ex Ex X D
    have FVx := D (Or.inr (tw_23 hw)) (ty := .array .byte) (by decide)
    have FCx := D (Or.inr (tw_25 hw)) (ty := .byte) (by decide)
    have lx : @LT.lt Nat _ _ _ := X.lt
    refine own_dup (pc' := 108) rfl d_take_107 (by first | rfl | assumption) ?_
    refine own_iconst (v := (4 : Int32)) (pc' := 109) rfl d_take_108 rfl ?_
    refine own_newarray (pc' := 111) rfl d_take_109 (tw_26 hw) (N := 4) (cap := 4) (by decide) (by decide) rfl rfl rfl ?_
    intro b hb0 eb Eb B0
    have nxb : x ≠ b := by show @Ne Nat x b; omega
    have nab : a ≠ b := by show @Ne Nat a b; have := Ex.1; omega
    have A0 := (A.ext Ex).ext Eb
    have k0 : Keep hb0 hb0 [b] := Keep.refl _ _
    refine own_dup (pc' := 112) rfl d_take_111 (by first | rfl | assumption) ?_
    refine own_iconst (v := (0 : Int32)) (pc' := 113) rfl d_take_112 rfl ?_
    refine own_aload_n (pc' := 114) rfl d_take_113 rfl (by first | rfl | assumption) ?_
    refine own_iconst (v := (0 : Int32)) (pc' := 115) rfl d_take_114 rfl ?_
    refine own_caload (pc' := 116) rfl d_take_115 A0 (i := 0) (by decide) rfl ?_
    refine own_castore (pc' := 117) rfl d_take_116 B0 (i := 0) (by decide) (by simp) (own_i2c_id r0.1 r0.2) (by simp) ?_
    intro h1 k1' B1
    have k1 := k0.trans k1' (fun z hz => Or.inl hz)
    have A1 := A0.keep k1' (ninS nab nin0)
    refine own_dup (pc' := 118) rfl d_take_117 (by first | rfl | assumption) ?_
    refine own_iconst (v := (1 : Int32)) (pc' := 119) rfl d_take_118 rfl ?_
    refine own_aload_n (pc' := 120) rfl d_take_119 rfl (by first | rfl | assumption) ?_
    refine own_iconst (v := (1 : Int32)) (pc' := 121) rfl d_take_120 rfl ?_
    refine own_caload (pc' := 122) rfl d_take_121 A1 (i := 1) (by decide) rfl ?_
    refine own_castore (pc' := 123) rfl d_take_122 B1 (i := 1) (by decide) (by simp) (own_i2c_id r1.1 r1.2) (by simp) ?_
    intro h2 k2' B2
    have k2 := k1.trans k2' (fun z hz => Or.inl hz)
    have A2 := A1.keep k2' (ninS nab nin0)
    refine own_dup (pc' := 124) rfl d_take_123 (by first | rfl | assumption) ?_
    refine own_iconst (v := (2 : Int32)) (pc' := 125) rfl d_take_124 rfl ?_
    refine own_aload_n (pc' := 126) rfl d_take_125 rfl (by first | rfl | assumption) ?_
    refine own_iconst (v := (2 : Int32)) (pc' := 127) rfl d_take_126 rfl ?_
    refine own_caload (pc' := 128) rfl d_take_127 A2 (i := 2) (by decide) rfl ?_
    refine own_castore (pc' := 129) rfl d_take_128 B2 (i := 2) (by decide) (by simp) (own_i2c_id r2.1 r2.2) (by simp) ?_
    intro h3 k3' B3
    have k3 := k2.trans k3' (fun z hz => Or.inl hz)
    have A3 := A2.keep k3' (ninS nab nin0)
    refine own_dup (pc' := 130) rfl d_take_129 (by first | rfl | assumption) ?_
    refine own_iconst (v := (3 : Int32)) (pc' := 131) rfl d_take_130 rfl ?_
    refine own_aload_n (pc' := 132) rfl d_take_131 rfl (by first | rfl | assumption) ?_
    refine own_iconst (v := (3 : Int32)) (pc' := 133) rfl d_take_132 rfl ?_
    refine own_caload (pc' := 134) rfl d_take_133 A3 (i := 3) (by decide) rfl ?_
    refine own_castore (pc' := 135) rfl d_take_134 B3 (i := 3) (by decide) (by simp) (own_i2c_id r3.1 r3.2) (by simp) ?_
    intro h4 k4' B4
    have k4 := k3.trans k4' (fun z hz => Or.inl hz)
    have A4 := A3.keep k4' (ninS nab nin0)
    have EB := own_ext_keep (own_ext_trans Ex Eb) k4 (by intro z hz; cases List.mem_singleton.mp hz; have := Ex.1; omega)
    refine own_special1n (M' := M_si1) d_take_135 (pc' := 138) rfl rfl rfl (tw_37 hw) (tw_38 hw) (tw_2 hw) (tw_39 hw) (by decide) rfl (own_lenOf pd_24 rfl) rfl rfl rfl rfl (c_si1 K a0 hw hU hnw hEL hme x b g [e0, e1, e2, e3] h4 (by simp) hcs B4 ((X.ext Eb).keep k4) ((FVx.ext Eb).keep k4 (ninS nxb nin0)) ((FCx.ext Eb).keep k4 (ninS nxb nin0)) SC hg) (by simp) ?_
    rintro hs xs ⟨ks, S⟩
    refine own_areturn rfl rfl (by first | rfl | assumption) d_take_138 rfl rfl ?_
    exact ⟨x, rfl, own_ext_keep EB ks (by intro z hz; cases List.mem_singleton.mp hz; omega), S⟩
  | [e0, e1, e2, e3, e4], hcs, hlen, A =>
    have r0 := hcs e0 (by simp)
    have r1 := hcs e1 (by simp)
    have r2 := hcs e2 (by simp)
    have r3 := hcs e3 (by simp)
    have r4 := hcs e4 (by simp)
    have al : @LT.lt Nat _ _ _ := A.lt
    refine own_met_2_0 (M := M_take) pn_take rfl (by first | rfl | exact own_cat (by assumption)) (by first | rfl | exact own_cat (by assumption)) ?_
    refine own_iload_n (pc' := 1) rfl d_take_0 rfl ?_
    refine own_ifne (pcT := 15) (pcF := 4) d_take_1 (by decide) (by decide) rfl (fun q0 => ?_) (fun q0 => ?_)
    rotate_left 1
    · exact absurd q0 (show ¬ ((5 : Nat).toInt32 = (0 : Int32)) by decide)
    refine own_iload_n (pc' := 16) rfl d_take_15 rfl ?_
    refine own_iconst (v := (1 : Int32)) (pc' := 17) rfl d_take_16 rfl ?_
    refine own_icmpne (pcT := 37) (pcF := 20) d_take_17 (by decide) (by decide) rfl (fun q1 => ?_) (fun q1 => ?_)
    rotate_left 1
    · exact absurd q1 (show ¬ ((5 : Nat).toInt32 = (1 : Int32)) by decide)
    refine own_iload_n (pc' := 38) rfl d_take_37 rfl ?_
    refine own_iconst (v := (2 : Int32)) (pc' := 39) rfl d_take_38 rfl ?_
    refine own_icmpne (pcT := 65) (pcF := 42) d_take_39 (by decide) (by decide) rfl (fun q2 => ?_) (fun q2 => ?_)
    rotate_left 1
    · exact absurd q2 (show ¬ ((5 : Nat).toInt32 = (2 : Int32)) by decide)
    refine own_iload_n (pc' := 66) rfl d_take_65 rfl ?_
    refine own_iconst (v := (3 : Int32)) (pc' := 67) rfl d_take_66 rfl ?_
    refine own_icmpne (pcT := 99) (pcF := 70) d_take_67 (by decide) (by decide) rfl (fun q3 => ?_) (fun q3 => ?_)
    rotate_left 1
    · exact absurd q3 (show ¬ ((5 : Nat).toInt32 = (3 : Int32)) by decide)
    refine own_iload_n (pc' := 100) rfl d_take_99 rfl ?_
    refine own_iconst (v := (4 : Int32)) (pc' := 101) rfl d_take_100 rfl ?_
    refine own_icmpne (pcT := 139) (pcF := 104) d_take_101 (by decide) (by decide) rfl (fun q4 => ?_) (fun q4 => ?_)
    rotate_left 1
    · exact absurd q4 (show ¬ ((5 : Nat).toInt32 = (4 : Int32)) by decide)
    refine own_iload_n (pc' := 140) rfl d_take_139 rfl ?_
    refine own_iconst (v := (5 : Int32)) (pc' := 141) rfl d_take_140 rfl ?_
    refine own_icmpne (pcT := 185) (pcF := 144) d_take_141 (by decide) (by decide) rfl (fun q5 => ?_) (fun q5 => ?_)
    · exact absurd rfl q5
    refine own_new (pc' := 147) rfl d_take_144 (tw_36 hw) (tw_10 hw) (tw_2 hw) rfl rfl ?_
    intro x hx ex Ex X D
    have FVx := D (Or.inr (tw_23 hw)) (ty := .array .byte) (by decide)
    have FCx := D (Or.inr (tw_25 hw)) (ty := .byte) (by decide)
    have lx : @LT.lt Nat _ _ _ := X.lt
    refine own_dup (pc' := 148) rfl d_take_147 (by first | rfl | assumption) ?_
    refine own_iconst (v := (5 : Int32)) (pc' := 149) rfl d_take_148 rfl ?_
    refine own_newarray (pc' := 151) rfl d_take_149 (tw_26 hw) (N := 5) (cap := 5) (by decide) (by decide) rfl rfl rfl ?_
    intro b hb0 eb Eb B0
    have nxb : x ≠ b := by show @Ne Nat x b; omega
    have nab : a ≠ b := by show @Ne Nat a b; have := Ex.1; omega
    have A0 := (A.ext Ex).ext Eb
    have k0 : Keep hb0 hb0 [b] := Keep.refl _ _
    refine own_dup (pc' := 152) rfl d_take_151 (by first | rfl | assumption) ?_
    refine own_iconst (v := (0 : Int32)) (pc' := 153) rfl d_take_152 rfl ?_
    refine own_aload_n (pc' := 154) rfl d_take_153 rfl (by first | rfl | assumption) ?_
    refine own_iconst (v := (0 : Int32)) (pc' := 155) rfl d_take_154 rfl ?_
    refine own_caload (pc' := 156) rfl d_take_155 A0 (i := 0) (by decide) rfl ?_
    refine own_castore (pc' := 157) rfl d_take_156 B0 (i := 0) (by decide) (by simp) (own_i2c_id r0.1 r0.2) (by simp) ?_
    intro h1 k1' B1
    have k1 := k0.trans k1' (fun z hz => Or.inl hz)
    have A1 := A0.keep k1' (ninS nab nin0)
    refine own_dup (pc' := 158) rfl d_take_157 (by first | rfl | assumption) ?_
    refine own_iconst (v := (1 : Int32)) (pc' := 159) rfl d_take_158 rfl ?_
    refine own_aload_n (pc' := 160) rfl d_take_159 rfl (by first | rfl | assumption) ?_
    refine own_iconst (v := (1 : Int32)) (pc' := 161) rfl d_take_160 rfl ?_
    refine own_caload (pc' := 162) rfl d_take_161 A1 (i := 1) (by decide) rfl ?_
    refine own_castore (pc' := 163) rfl d_take_162 B1 (i := 1) (by decide) (by simp) (own_i2c_id r1.1 r1.2) (by simp) ?_
    intro h2 k2' B2
    have k2 := k1.trans k2' (fun z hz => Or.inl hz)
    have A2 := A1.keep k2' (ninS nab nin0)
    refine own_dup (pc' := 164) rfl d_take_163 (by first | rfl | assumption) ?_
    refine own_iconst (v := (2 : Int32)) (pc' := 165) rfl d_take_164 rfl ?_
    refine own_aload_n (pc' := 166) rfl d_take_165 rfl (by first | rfl | assumption) ?_
    refine own_iconst (v := (2 : Int32)) (pc' := 167) rfl d_take_166 rfl ?_
    refine own_caload (pc' := 168) rfl d_take_167 A2 (i := 2) (by decide) rfl ?_
    refine own_castore (pc' := 169) rfl d_take_168 B2 (i := 2) (by decide) (by simp) (own_i2c_id r2.1 r2.2) (by simp) ?_
    intro h3 k3' B3
    have k3 := k2.trans k3' (fun z hz => Or.inl hz)
    have A3 := A2.keep k3' (ninS nab nin0)
    refine own_dup (pc' := 170) rfl d_take_169 (by first | rfl | assumption) ?_
    refine own_iconst (v := (3 : Int32)) (pc' := 171) rfl d_take_170 rfl ?_
    refine own_aload_n (pc' := 172) rfl d_take_171 rfl (by first | rfl | assumption) ?_
    refine own_iconst (v := (3 : Int32)) (pc' := 173) rfl d_take_172 rfl ?_
    refine own_caload (pc' := 174) rfl d_take_173 A3 (i := 3) (by decide) rfl ?_
    refine own_castore (pc' := 175) rfl d_take_174 B3 (i := 3) (by decide) (by simp) (own_i2c_id r3.1 r3.2) (by simp) ?_
    intro h4 k4' B4
    have k4 := k3.trans k4' (fun z hz => Or.inl hz)
    have A4 := A3.keep k4' (ninS nab nin0)
    refine own_dup (pc' := 176) rfl d_take_175 (by first | rfl | assumption) ?_
    refine own_iconst (v := (4 : Int32)) (pc' := 177) rfl d_take_176 rfl ?_
    refine own_aload_n (pc' := 178) rfl d_take_177 rfl (by first | rfl | assumption) ?_
    refine own_iconst (v := (4 : Int32)) (pc' := 179) rfl d_take_178 rfl ?_
    refine own_caload (pc' := 180) rfl d_take_179 A4 (i := 4) (by decide) rfl ?_
    refine own_castore (pc' := 181) rfl d_take_180 B4 (i := 4) (by decide) (by simp) (own_i2c_id r4.1 r4.2) (by simp) ?_
    intro h5 k5' B5
    have k5 := k4.trans k5' (fun z hz => Or.inl hz)
    have A5 := A4.keep k5' (ninS nab nin0)
    have EB := own_ext_keep (own_ext_trans Ex Eb) k5 (by intro z hz; cases List.mem_singleton.mp hz; have := Ex.1; omega)
    refine own_special1n (M' := M_si1) d_take_181 (pc' := 184) rfl rfl rfl (tw_37 hw) (tw_38 hw) (tw_2 hw) (tw_39 hw) (by decide) rfl (own_lenOf pd_24 rfl) rfl rfl rfl rfl (c_si1 K a0 hw hU hnw hEL hme x b g [e0, e1, e2, e3, e4] h5 (by simp) hcs B5 ((X.ext Eb).keep k5) ((FVx.ext Eb).keep k5 (ninS nxb nin0)) ((FCx.ext Eb).keep k5 (ninS nxb nin0)) SC hg) (by simp) ?_
    rintro hs xs ⟨ks, S⟩
    refine own_areturn rfl rfl (by first | rfl | assumption) d_take_184 rfl rfl ?_
    exact ⟨x, rfl, own_ext_keep EB ks (by intro z hz; cases List.mem_singleton.mp hz; omega), S⟩
  | [e0, e1, e2, e3, e4, e5], hcs, hlen, A =>
    have r0 := hcs e0 (by simp)
    have r1 := hcs e1 (by simp)
    have r2 := hcs e2 (by simp)
    have r3 := hcs e3 (by simp)
    have r4 := hcs e4 (by simp)
    have r5 := hcs e5 (by simp)
    have al : @LT.lt Nat _ _ _ := A.lt
    refine own_met_2_0 (M := M_take) pn_take rfl (by first | rfl | exact own_cat (by assumption)) (by first | rfl | exact own_cat (by assumption)) ?_
    refine own_iload_n (pc' := 1) rfl d_take_0 rfl ?_
    refine own_ifne (pcT := 15) (pcF := 4) d_take_1 (by decide) (by decide) rfl (fun q0 => ?_) (fun q0 => ?_)
    rotate_left 1
    · exact absurd q0 (show ¬ ((6 : Nat).toInt32 = (0 : Int32)) by decide)
    refine own_iload_n (pc' := 16) rfl d_take_15 rfl ?_
    refine own_iconst (v := (1 : Int32)) (pc' := 17) rfl d_take_16 rfl ?_
    refine own_icmpne (pcT := 37) (pcF := 20) d_take_17 (by decide) (by decide) rfl (fun q1 => ?_) (fun q1 => ?_)
    rotate_left 1
    · exact absurd q1 (show ¬ ((6 : Nat).toInt32 = (1 : Int32)) by decide)
    refine own_iload_n (pc' := 38) rfl d_take_37 rfl ?_
    refine own_iconst (v := (2 : Int32)) (pc' := 39) rfl d_take_38 rfl ?_
    refine own_icmpne (pcT := 65) (pcF := 42) d_take_39 (by decide) (by decide) rfl (fun q2 => ?_) (fun q2 => ?_)
    rotate_left 1
    · exact absurd q2 (show ¬ ((6 : Nat).toInt32 = (2 : Int32)) by decide)
    refine own_iload_n (pc' := 66) rfl d_take_65 rfl ?_
    refine own_iconst (v := (3 : Int32)) (pc' := 67) rfl d_take_66 rfl ?_
    refine own_icmpne (pcT := 99) (pcF := 70) d_take_67 (by decide) (by decide) rfl (fun q3 => ?_) (fun q3 => ?_)
    rotate_left 1
    · exact absurd q3 (show ¬ ((6 : Nat).toInt32 = (3 : Int32)) by decide)
    refine own_iload_n (pc' := 100) rfl d_take_99 rfl ?_
    refine own_iconst (v := (4 : Int32)) (pc' := 101) rfl d_take_100 rfl ?_
    refine own_icmpne (pcT := 139) (pcF := 104) d_take_101 (by decide) (by decide) rfl (fun q4 => ?_) (fun q4 => ?_)
    rotate_left 1
    · exact absurd q4 (show ¬ ((6 : Nat).toInt32 = (4 : Int32)) by decide)
    refine own_iload_n (pc' := 140) rfl d_take_139 rfl ?_
    refine own_iconst (v := (5 : Int32)) (pc' := 141) rfl d_take_140 rfl ?_
    refine own_icmpne (pcT := 185) (pcF := 144) d_take_141 (by decide) (by decide) rfl (fun q5 => ?_) (fun q5 => ?_)
    rotate_left 1
    · exact absurd q5 (show ¬ ((6 : Nat).toInt32 = (5 : Int32)) by decide)
    refine own_new (pc' := 188) rfl d_take_185 (tw_36 hw) (tw_10 hw) (tw_2 hw) rfl rfl ?_
    intro x hx ex Ex X D
    have FVx := D (Or.inr (tw_23 hw)) (ty := .array .byte) (by decide)
    have FCx := D (Or.inr (tw_25 hw)) (ty := .byte) (by decide)
    have lx : @LT.lt Nat _ _ _ := X.lt
    refine own_dup (pc' := 189) rfl d_take_188 (by first | rfl | assumption) ?_
    refine own_bipush (v := (6 : Int32)) (pc' := 191) rfl d_take_189 rfl ?_
    refine own_newarray (pc' := 193) rfl d_take_191 (tw_26 hw) (N := 6) (cap := 6) (by decide) (by decide) rfl rfl rfl ?_
    intro b hb0 eb Eb B0
    have nxb : x ≠ b := by show @Ne Nat x b; omega
    have nab : a ≠ b := by show @Ne Nat a b; have := Ex.1; omega
    have A0 := (A.ext Ex).ext Eb
    have k0 : Keep hb0 hb0 [b] := Keep.refl _ _
    refine own_dup (pc' := 194) rfl d_take_193 (by first | rfl | assumption) ?_
    refine own_iconst (v := (0 : Int32)) (pc' := 195) rfl d_take_194 rfl ?_
    refine own_aload_n (pc' := 196) rfl d_take_195 rfl (by first | rfl | assumption) ?_
    refine own_iconst (v := (0 : Int32)) (pc' := 197) rfl d_take_196 rfl ?_
    refine own_caload (pc' := 198) rfl d_take_197 A0 (i := 0) (by decide) rfl ?_
    refine own_castore (pc' := 199) rfl d_take_198 B0 (i := 0) (by decide) (by simp) (own_i2c_id r0.1 r0.2) (by simp) ?_
    intro h1 k1' B1
    have k1 := k0.trans k1' (fun z hz => Or.inl hz)
    have A1 := A0.keep k1' (ninS nab nin0)
    refine own_dup (pc' := 200) rfl d_take_199 (by first | rfl | assumption) ?_
    refine own_iconst (v := (1 : Int32)) (pc' := 201) rfl d_take_200 rfl ?_
    refine own_aload_n (pc' := 202) rfl d_take_201 rfl (by first | rfl | assumption) ?_
    refine own_iconst (v := (1 : Int32)) (pc' := 203) rfl d_take_202 rfl ?_
    refine own_caload (pc' := 204) rfl d_take_203 A1 (i := 1) (by decide) rfl ?_
    refine own_castore (pc' := 205) rfl d_take_204 B1 (i := 1) (by decide) (by simp) (own_i2c_id r1.1 r1.2) (by simp) ?_
    intro h2 k2' B2
    have k2 := k1.trans k2' (fun z hz => Or.inl hz)
    have A2 := A1.keep k2' (ninS nab nin0)
    refine own_dup (pc' := 206) rfl d_take_205 (by first | rfl | assumption) ?_
    refine own_iconst (v := (2 : Int32)) (pc' := 207) rfl d_take_206 rfl ?_
    refine own_aload_n (pc' := 208) rfl d_take_207 rfl (by first | rfl | assumption) ?_
    refine own_iconst (v := (2 : Int32)) (pc' := 209) rfl d_take_208 rfl ?_
    refine own_caload (pc' := 210) rfl d_take_209 A2 (i := 2) (by decide) rfl ?_
    refine own_castore (pc' := 211) rfl d_take_210 B2 (i := 2) (by decide) (by simp) (own_i2c_id r2.1 r2.2) (by simp) ?_
    intro h3 k3' B3
    have k3 := k2.trans k3' (fun z hz => Or.inl hz)
    have A3 := A2.keep k3' (ninS nab nin0)
    refine own_dup (pc' := 212) rfl d_take_211 (by first | rfl | assumption) ?_
    refine own_iconst (v := (3 : Int32)) (pc' := 213) rfl d_take_212 rfl ?_
    refine own_aload_n (pc' := 214) rfl d_take_213 rfl (by first | rfl | assumption) ?_
    refine own_iconst (v := (3 : Int32)) (pc' := 215) rfl d_take_214 rfl ?_
    refine own_caload (pc' := 216) rfl d_take_215 A3 (i := 3) (by decide) rfl ?_
    refine own_castore (pc' := 217) rfl d_take_216 B3 (i := 3) (by decide) (by simp) (own_i2c_id r3.1 r3.2) (by simp) ?_
    intro h4 k4' B4
    have k4 := k3.trans k4' (fun z hz => Or.inl hz)
    have A4 := A3.keep k4' (ninS nab nin0)
    refine own_dup (pc' := 218) rfl d_take_217 (by first | rfl | assumption) ?_
    refine own_iconst (v := (4 : Int32)) (pc' := 219) rfl d_take_218 rfl ?_
    refine own_aload_n (pc' := 220) rfl d_take_219 rfl (by first | rfl | assumption) ?_
    refine own_iconst (v := (4 : Int32)) (pc' := 221) rfl d_take_220 rfl ?_
    refine own_caload (pc' := 222) rfl d_take_221 A4 (i := 4) (by decide) rfl ?_
    refine own_castore (pc' := 223) rfl d_take_222 B4 (i := 4) (by decide) (by simp) (own_i2c_id r4.1 r4.2) (by simp) ?_
    intro h5 k5' B5
    have k5 := k4.trans k5' (fun z hz => Or.inl hz)
    have A5 := A4.keep k5' (ninS nab nin0)
    refine own_dup (pc' := 224) rfl d_take_223 (by first | rfl | assumption) ?_
    refine own_iconst (v := (5 : Int32)) (pc' := 225) rfl d_take_224 rfl ?_
    refine own_aload_n (pc' := 226) rfl d_take_225 rfl (by first | rfl | assumption) ?_
    refine own_iconst (v := (5 : Int32)) (pc' := 227) rfl d_take_226 rfl ?_
    refine own_caload (pc' := 228) rfl d_take_227 A5 (i := 5) (by decide) rfl ?_
    refine own_castore (pc' := 229) rfl d_take_228 B5 (i := 5) (by decide) (by simp) (own_i2c_id r5.1 r5.2) (by simp) ?_
    intro h6 k6' B6
    have k6 := k5.trans k6' (fun z hz => Or.inl hz)
    have A6 := A5.keep k6' (ninS nab nin0)
    have EB := own_ext_keep (own_ext_trans Ex Eb) k6 (by intro z hz; cases List.mem_singleton.mp hz; have := Ex.1; omega)
    refine own_special1n (M' := M_si1) d_take_229 (pc' := 232) rfl rfl rfl (tw_37 hw) (tw_38 hw) (tw_2 hw) (tw_39 hw) (by decide) rfl (own_lenOf pd_24 rfl) rfl rfl rfl rfl (c_si1 K a0 hw hU hnw hEL hme x b g [e0, e1, e2, e3, e4, e5] h6 (by simp) hcs B6 ((X.ext Eb).keep k6) ((FVx.ext Eb).keep k6 (ninS nxb nin0)) ((FCx.ext Eb).keep k6 (ninS nxb nin0)) SC hg) (by simp) ?_
    rintro hs xs ⟨ks, S⟩
    refine own_areturn rfl rfl (by first | rfl | assumption) d_take_232 rfl rfl ?_
    exact ⟨x, rfl, own_ext_keep EB ks (by intro z hz; cases List.mem_singleton.mp hz; omega), S⟩
  | _ :: _ :: _ :: _ :: _ :: _ :: _ :: _, _, hlen, _ => exact absurd hlen (by simp)
theorem d_cc_0 : decode prog_16_method_5_code 0 = .ok (.aload_n 2, 1) := by decide +kernel
theorem d_cc_1 : decode prog_16_method_5_code 1 = .ok (.ifnonnull 4, 3) := by decide +kernel
theorem d_cc_4 : decode prog_16_method_5_code 4 = .ok (.return_, 1) := by decide +kernel
theorem d_cc_5 : decode prog_16_method_5_code 5 = .ok (.aload_n 2, 1) := by decide +kernel
theorem d_cc_6 : decode prog_16_method_5_code 6 = .ok (.iconst 0, 1) := by decide +kernel
theorem d_cc_7 : decode prog_16_method_5_code 7 = .ok (.aload_n 2, 1) := by decide +kernel
theorem d_cc_8 : decode prog_16_method_5_code 8 = .ok (.invokevirtual 38, 3) := by decide +kernel
theorem d_cc_11 : decode prog_16_method_5_code 11 = .ok (.invokevirtual 78, 3) := by decide +kernel
theorem d_cc_14 : decode prog_16_method_5_code 14 = .ok (.istore 4, 2) := by decide +kernel
theorem d_cc_16 : decode prog_16_method_5_code 16 = .ok (.iload 4, 2) := by decide +kernel
theorem d_cc_18 : decode prog_16_method_5_code 18 = .ok (.iload_n 3, 1) := by decide +kernel
theorem d_cc_19 : decode prog_16_method_5_code 19 = .ok (.if_icmp .le 47, 3) := by decide +kernel
theorem d_cc_66 : decode prog_16_method_5_code 66 = .ok (.aload_n 2, 1) := by decide +kernel
theorem d_cc_67 : decode prog_16_method_5_code 67 = .ok (.iconst 0, 1) := by decide +kernel
theorem d_cc_68 : decode prog_16_method_5_code 68 = .ok (.invokevirtual 89, 3) := by decide +kernel
theorem d_cc_71 : decode prog_16_method_5_code 71 = .ok (.ifCond .lt 17, 3) := by decide +kernel
theorem d_cc_88 : decode prog_16_method_5_code 88 = .ok (.return_, 1) := by decide +kernel
abbrev M_cc : own_Mi := ((⟨"com/example/table_to_topic/tabletotopic/Text", "checkColumn", "(Ljava/lang/String;Ljava/lang/String;Ljava/lang/String;I)V"⟩ : MethodName), prog_16_method_5_code, 6, (Option.none : Option FieldType), ({ frames := 7, cells := 0, slots := 0, locals := 100 } : Room))
theorem pn_cc : plainFor (own_Mi.y M_cc) = true := plainFor_of_name (by first | (simp [plainName, overriddenIn]; done) | decide +kernel)
set_option maxRecDepth 65536 in
set_option maxHeartbeats 40000000 in
theorem c_ccn (K : own_Cx) (a0 : Array Value) (hw : ∀ d ∈ tables_1, d.before a0 K.Z = true) (t u : Addr) (w : Int32) (h : Heap) :
    own_Met K M_cc #[.ref t, .ref u, .null, .int w] [] h (own_void fun h' _ => h' = h) := by
  refine own_met_4_2 (M := M_cc) pn_cc rfl (by first | rfl | exact own_cat (by assumption)) (by first | rfl | exact own_cat (by assumption)) (by first | rfl | exact own_cat (by assumption)) (by first | rfl | exact own_cat (by assumption)) ?_
  refine own_aload_n (pc' := 1) rfl d_cc_0 rfl (by first | rfl | assumption) ?_
  refine own_ifnonnull_n (pc' := 4) rfl d_cc_1 ?_
  refine own_return rfl d_cc_4 rfl rfl ?_
  rfl
set_option maxRecDepth 65536 in
set_option maxHeartbeats 40000000 in
theorem c_cc (K : own_Cx) (a0 : Array Value) (hw : ∀ d ∈ tables_1, d.before a0 K.Z = true) (hU : own_U16 K) (rf : Value) (hrf : rf.isRef = true) (SF : Sta K.Z K.Z.heap "jdk/internal/util/Preconditions" "SIOOBE_FORMATTER" "Ljava/util/function/BiFunction;" rf) (g : Int32) (SC : Sta K.Z K.Z.heap own_sC "COMPACT_STRINGS" "Z" (.int g)) (hg : ¬ g = 0) (t u x : Addr) (w : Int32) (cs : List Int32) (h : Heap) (S : own_Str K.Z h x cs) (hl : cs.length < 2 ^ 29) (hwd : (cs.length : Int) - own_prs cs ≤ w.toInt) (hz : ∀ c ∈ cs, c ≠ 0) :
    own_Met K M_cc #[.ref t, .ref u, .ref x, .int w] [] h (own_void fun h' _ => h' = h) := by
  refine own_met_4_2 (M := M_cc) pn_cc rfl (by first | rfl | exact own_cat (by assumption)) (by first | rfl | exact own_cat (by assumption)) (by first | rfl | exact own_cat (by assumption)) (by first | rfl | exact own_cat (by assumption)) ?_
  refine own_aload_n (pc' := 1) rfl d_cc_0 rfl (by first | rfl | assumption) ?_
  refine own_ifnonnull_y (pc' := 5) d_cc_1 (by decide) (by decide) ?_
  refine own_aload_n (pc' := 6) rfl d_cc_5 rfl (by first | rfl | assumption) ?_
  refine own_iconst (v := (0 : Int32)) (pc' := 7) rfl d_cc_6 rfl ?_
  refine own_aload_n (pc' := 8) rfl d_cc_7 rfl (by first | rfl | assumption) ?_
  refine own_virtual0v (M' := M_sl) d_cc_8 (pc' := 11) rfl (tw_61 hw) (tw_62 hw) (tw_64 hw) (tw_63 hw) (tw_2 hw) (tw_65 hw) (by decide) rfl (own_lenOf pd_20 rfl) rfl rfl rfl rfl S.1 (c_sl K a0 hw g SC hg x cs h S) (by simp) ?_
  rintro w1 h1 xs ⟨rfl, rfl⟩
  refine own_virtual2v (M' := M_scp) d_cc_11 (pc' := 14) rfl (tw_71 hw) (tw_72 hw) (tw_74 hw) (tw_73 hw) (tw_2 hw) (tw_75 hw) (by decide) rfl (own_lenOf pd_13 rfl) rfl rfl rfl rfl S.1 (c_scp K a0 hw hU g SC hg x cs _ S hl) (by simp) ?_
  rintro w2 h2 xs2 ⟨r, rfl, hr, rfl⟩
  refine own_istore_4 (pc' := 16) rfl d_cc_14 (by first | exact One.u | exact One.val rfl | assumption | exact One.val (by assumption)) ?_
  refine own_iload (pc' := 18) rfl d_cc_16 rfl ?_
  refine own_iload_n (pc' := 19) rfl d_cc_18 rfl ?_
  refine own_icmple (pcT := 66) (pcF := 22) d_cc_19 (by decide) (by decide) rfl (fun q => ?_) (fun q => ?_)
  · skip
    refine own_aload_n (pc' := 67) rfl d_cc_66 rfl (by first | rfl | assumption) ?_
    refine own_iconst (v := (0 : Int32)) (pc' := 68) rfl d_cc_67 rfl ?_
    refine own_virtual1v (M' := M_si1x) d_cc_68 (pc' := 71) rfl (tw_90 hw) (tw_91 hw) (tw_93 hw) (tw_92 hw) (tw_2 hw) (tw_94 hw) (by decide) rfl (own_lenOf pd_0 rfl) rfl rfl rfl rfl S.1 (c_si1x K a0 hw hU rf hrf SF g SC hg x cs 0 _ S hl (by decide) (by decide)) (by simp) ?_
    rintro w3 h3 xs3 ⟨r3, rfl, hr3, rfl⟩
    have e3 := hr3.trans (own_ix_none hz _ _)
    refine own_iflt (pcT := 88) (pcF := 74) d_cc_71 (by decide) (by decide) rfl (fun q2 => ?_) (fun q2 => ?_)
    · skip
      refine own_return rfl d_cc_88 rfl rfl ?_
      rfl
    · exfalso
      apply q2
      rw [Int32.lt_iff_toInt_lt, e3]
      decide
  · rw [Int32.lt_iff_toInt_lt] at q
    omega
theorem own_r255u (c : Int32) : 0 ≤ (XT.ushr c 8 &&& 255).toInt ∧ (XT.ushr c 8 &&& 255).toInt < 256 := ⟨(own_r255 _).1, (own_r255 _).2.1⟩
theorem own_i255 (c : Int32) : (c &&& 255).toUInt32.toUInt16.toUInt32.toInt32 = c &&& 255 := own_i2c_id (own_r255 c).1 (own_r255 c).2.2
abbrev M_law : own_Mi := (x, code, maxLocals, ret, room_1)
theorem pn_law : plainFor (own_Mi.y M_law) = true := plainFor_of_name (by first | (simp [plainName, overriddenIn]; done) | decide +kernel)
set_option maxRecDepth 65536 in
set_option maxHeartbeats 40000000 in
theorem c_law (K : own_Cx) (a0 : Array Value) (hw : ∀ d ∈ tables_1, d.before a0 K.Z = true) (hnw : K.nw = false) (hEL : EW K.Z a0 K.E) (hme : ("java/lang/String", 7) ∈ K.E) (hU : own_U16 K) (rf : Value) (hrf : rf.isRef = true) (SF : Sta K.Z K.Z.heap "jdk/internal/util/Preconditions" "SIOOBE_FORMATTER" "Ljava/util/function/BiFunction;" rf) (g : Int32) (SC : Sta K.Z K.Z.heap "java/lang/String" "COMPACT_STRINGS" "Z" (.int g)) (hg : ¬ g = 0) (p0 p1 p2 p3 p4 p5 : Int32) (h : Heap) :
    own_Met K M_law #[.int p0, .int p1, .int p2, .int p3, .int p4, .int p5] [] h (own_ret fun w _ _ => w = .int 1) := by
  have v0 : (0 : Int32).toInt = 0 := rfl
  have v1 : (1 : Int32).toInt = 1 := rfl
  have v2 : (2 : Int32).toInt = 2 := rfl
  refine own_met_6_7 (M := M_law) pn_law rfl (by first | rfl | exact own_cat (by assumption)) (by first | rfl | exact own_cat (by assumption)) (by first | rfl | exact own_cat (by assumption)) (by first | rfl | exact own_cat (by assumption)) (by first | rfl | exact own_cat (by assumption)) (by first | rfl | exact own_cat (by assumption)) ?_
  refine own_iload (pc' := 2) rfl at_0 rfl ?_
  refine own_sipush (v := (255 : Int32)) (pc' := 5) rfl at_2 rfl ?_
  refine own_iand (pc' := 6) rfl at_5 ?_
  refine own_i2c (pc' := 7) rfl at_6 ?_
  rw [own_i255]
  refine own_static1v (M' := M_svc) at_7 (pc' := 10) rfl (tw_0 hw) (tw_1 hw) (tw_2 hw) (tw_3 hw) (by decide) rfl (own_lenOf pd_25 rfl) rfl rfl rfl rfl (c_svc K a0 hw g SC hg _ h (own_r255 p5).1 (own_r255 p5).2.1) (by simp) ?_
  rintro w h1 xs1 ⟨t, rfl, E1, -, -⟩
  refine own_astore_6 (pc' := 12) rfl at_10 (by first | exact One.u | exact One.val rfl | assumption | exact One.val (by assumption)) (by first | rfl | assumption) ?_
  refine own_iload (pc' := 14) rfl at_12 rfl ?_
  refine own_bipush (v := (8 : Int32)) (pc' := 16) rfl at_14 rfl ?_
  refine own_iushr (pc' := 17) rfl at_16 ?_
  refine own_sipush (v := (255 : Int32)) (pc' := 20) rfl at_17 rfl ?_
  refine own_iand (pc' := 21) rfl at_20 ?_
  refine own_i2c (pc' := 22) rfl at_21 ?_
  rw [own_i255]
  refine own_static1v (M' := M_svc) at_22 (pc' := 25) rfl (tw_0 hw) (tw_1 hw) (tw_2 hw) (tw_3 hw) (by decide) rfl (own_lenOf pd_25 rfl) rfl rfl rfl rfl (c_svc K a0 hw g SC hg _ h1 (own_r255u p5).1 (own_r255u p5).2) (by simp) ?_
  rintro w h2 xs2 ⟨u, rfl, E2, -, -⟩
  refine own_astore_7 (pc' := 27) rfl at_25 (by first | exact One.u | exact One.val rfl | assumption | exact One.val (by assumption)) (by first | rfl | assumption) ?_
  refine own_iload_n (pc' := 28) rfl at_27 rfl ?_
  refine own_bipush (v := (32 : Int32)) (pc' := 30) rfl at_28 rfl ?_
  refine own_iand (pc' := 31) rfl at_30 ?_
  refine own_ifeq (pcT := 46) (pcF := 34) at_31 (by decide) (by decide) rfl (fun q => ?_) (fun q => ?_)
  · obtain ⟨kN, hk, hk3⟩ : ∃ kN : Nat, (p3 &&& 3).toInt = kN ∧ kN ≤ 3 := ⟨(p3 &&& 3).toInt.toNat, by have := c_mask p3 3 2 (by decide) (by decide); omega, by have := c_mask p3 3 2 (by decide) (by decide); omega⟩
    refine own_iload_n (pc' := 47) rfl at_46 rfl ?_
    refine own_iconst (v := (3 : Int32)) (pc' := 48) rfl at_47 rfl ?_
    refine own_iand (pc' := 49) rfl at_48 ?_
    refine own_istore_8 (pc' := 51) rfl at_49 (by first | exact One.u | exact One.val rfl | assumption | exact One.val (by assumption)) ?_
    refine own_bipush (v := (6 : Int32)) (pc' := 53) rfl at_51 rfl ?_
    refine own_newarray (pc' := 55) rfl at_53 (tw_26 hw) (N := 6) (cap := 6) (by decide) (by decide) rfl rfl rfl ?_
    intro a h3 ea E3 A3
    suffices k142 : ∀ (us : List (List Int32)) (p : Int32) (m : Nat) (h5 : Heap) (sf : List Addr), own_Us us → us.length = kN → p.toInt = us.flatten.length → us.flatten.length + m = 6 → own_Ary K.Z h5 a .char (own_ints us.flatten ++ List.replicate m (.int 0)) → own_WP K M_law (own_ret fun w _ _ => w = .int 1) 142 [.val (.int p0), .val (.int p1), .val (.int p2), .val (.int p3), .val (.int p4), .val (.int p5), .val (.ref t), .val (.ref u), .val (.int (p3 &&& 3)), .val (.ref a), .val (.int p), .unset, .unset] [] sf h5 5 16 by
      suffices k114 : ∀ (us : List (List Int32)) (p : Int32) (m : Nat) (h5 : Heap) (sf : List Addr), own_Us us → us.length = min kN 2 → p.toInt = us.flatten.length → us.flatten.length + m = 6 → a ∈ sf → own_Ary K.Z h5 a .char (own_ints us.flatten ++ List.replicate m (.int 0)) → own_WP K M_law (own_ret fun w _ _ => w = .int 1) 114 [.val (.int p0), .val (.int p1), .val (.int p2), .val (.int p3), .val (.int p4), .val (.int p5), .val (.ref t), .val (.ref u), .val (.int (p3 &&& 3)), .val (.ref a), .val (.int p), .unset, .unset] [] sf h5 5 16 by
        suffices k86 : ∀ (us : List (List Int32)) (p : Int32) (m : Nat) (h5 : Heap) (sf : List Addr), own_Us us → us.length = min kN 1 → p.toInt = us.flatten.length → us.flatten.length + m = 6 → a ∈ sf → own_Ary K.Z h5 a .char (own_ints us.flatten ++ List.replicate m (.int 0)) → own_WP K M_law (own_ret fun w _ _ => w = .int 1) 86 [.val (.int p0), .val (.int p1), .val (.int p2), .val (.int p3), .val (.int p4), .val (.int p5), .val (.ref t), .val (.ref u), .val (.int (p3 &&& 3)), .val (.ref a), .val (.int p), .unset, .unset] [] sf h5 5 16 by
          refine own_astore_9 (pc' := 57) rfl at_55 (by first | exact One.u | exact One.val rfl | assumption | exact One.val (by assumption)) (by first | rfl | assumption) ?_
          refine own_iconst (v := (0 : Int32)) (pc' := 58) rfl at_57 rfl ?_
          refine own_istore_10 (pc' := 60) rfl at_58 (by first | exact One.u | exact One.val rfl | assumption | exact One.val (by assumption)) ?_
          refine own_iload (pc' := 62) rfl at_60 rfl ?_
          refine own_ifle (pcT := 86) (pcF := 65) at_62 (by decide) (by decide) rfl (fun q0 => ?_) (fun q0 => ?_)
          · rw [Int32.lt_iff_toInt_lt] at q0
            exact own_weak (k86 [] 0 6 h3 _ (fun v hv => nomatch hv) (by simp; omega) rfl rfl (by simp) A3) (fun x hx => hx) (by exact Nat.le_of_ble_eq_true rfl) (by exact Nat.le_of_ble_eq_true rfl)
          · rw [Int32.lt_iff_toInt_lt] at q0
            suffices kf : ∀ f : Int32, own_WP K M_law (own_ret fun w _ _ => w = .int 1) 81 [.val (.int p0), .val (.int p1), .val (.int p2), .val (.int p3), .val (.int p4), .val (.int p5), .val (.ref t), .val (.ref u), .val (.int (p3 &&& 3)), .val (.ref a), .val (.int 0), .unset, .unset] [.int f, .int p0, .int 0, .ref a] (a :: (xs2 ++ (xs1 ++ []))) h3 5 16 by
              refine own_aload (pc' := 67) rfl at_65 rfl (by first | rfl | assumption) ?_
              refine own_iload (pc' := 69) rfl at_67 rfl ?_
              refine own_iload_n (pc' := 70) rfl at_69 rfl ?_
              refine own_iload_n (pc' := 71) rfl at_70 rfl ?_
              refine own_iconst (v := (4 : Int32)) (pc' := 72) rfl at_71 rfl ?_
              refine own_iand (pc' := 73) rfl at_72 ?_
              refine own_ifeq (pcT := 80) (pcF := 76) at_73 (by decide) (by decide) rfl (fun q1 => ?_) (fun q1 => ?_)
              · skip
                refine own_iconst (v := (0 : Int32)) (pc' := 81) rfl at_80 rfl ?_
                exact own_weak (kf 0) (fun x hx => hx) (by exact Nat.le_of_ble_eq_true rfl) (by exact Nat.le_of_ble_eq_true rfl)
              · skip
                refine own_iconst (v := (1 : Int32)) (pc' := 77) rfl at_76 rfl ?_
                refine own_goto (pc' := 81) at_77 (by decide) (by decide) ?_
                exact own_weak (kf 1) (fun x hx => hx) (by exact Nat.le_of_ble_eq_true rfl) (by exact Nat.le_of_ble_eq_true rfl)
            intro f
            refine own_static4v (M' := M_put) at_81 (pc' := 84) rfl (tw_27 hw) (tw_28 hw) (tw_29 hw) (tw_30 hw) (by decide) rfl (own_lenOf pd_26 rfl) rfl rfl rfl rfl (c_put K a0 hw a 0 p0 f [] 6 h3 rfl (by decide) rfl A3) (by simp) ?_
            rintro w h4 xs4 ⟨r, v, rfl, V, hr, k4, A4⟩
            have vl := V.len
            refine own_istore_10 (pc' := 86) rfl at_84 (by first | exact One.u | exact One.val rfl | assumption | exact One.val (by assumption)) ?_
            exact own_weak (k86 [v] r (6 - v.length) h4 _ (own_Us.snoc (us := []) (fun v hv => nomatch hv) V) (by simp; omega) (by simpa using hr) (by simp; omega) (by simp) (by simpa using A4)) (fun x hx => hx) (by exact Nat.le_of_ble_eq_true rfl) (by exact Nat.le_of_ble_eq_true rfl)
        intro us p m h5 sf hus hul hp hm has A5
        have hfl := hus.len
        refine own_iload (pc' := 88) rfl at_86 rfl ?_
        refine own_iconst (v := (1 : Int32)) (pc' := 89) rfl at_88 rfl ?_
        refine own_icmple (pcT := 114) (pcF := 92) at_89 (by decide) (by decide) rfl (fun q0 => ?_) (fun q0 => ?_)
        · rw [Int32.lt_iff_toInt_lt] at q0
          exact k114 us p m h5 sf hus (by omega) hp hm has A5
        · rw [Int32.lt_iff_toInt_lt] at q0
          suffices kf : ∀ f : Int32, own_WP K M_law (own_ret fun w _ _ => w = .int 1) 109 [.val (.int p0), .val (.int p1), .val (.int p2), .val (.int p3), .val (.int p4), .val (.int p5), .val (.ref t), .val (.ref u), .val (.int (p3 &&& 3)), .val (.ref a), .val (.int p), .unset, .unset] [.int f, .int p1, .int p, .ref a] sf h5 5 16 by
            refine own_aload (pc' := 94) rfl at_92 rfl (by first | rfl | assumption) ?_
            refine own_iload (pc' := 96) rfl at_94 rfl ?_
            refine own_iload_n (pc' := 97) rfl at_96 rfl ?_
            refine own_iload_n (pc' := 98) rfl at_97 rfl ?_
            refine own_bipush (v := (8 : Int32)) (pc' := 100) rfl at_98 rfl ?_
            refine own_iand (pc' := 101) rfl at_100 ?_
            refine own_ifeq (pcT := 108) (pcF := 104) at_101 (by decide) (by decide) rfl (fun q1 => ?_) (fun q1 => ?_)
            · skip
              refine own_iconst (v := (0 : Int32)) (pc' := 109) rfl at_108 rfl ?_
              exact kf 0
            · skip
              refine own_iconst (v := (1 : Int32)) (pc' := 105) rfl at_104 rfl ?_
              refine own_goto (pc' := 109) at_105 (by decide) (by decide) ?_
              exact kf 1
          intro f
          refine own_static4v (M' := M_put) at_109 (pc' := 112) rfl (tw_27 hw) (tw_28 hw) (tw_29 hw) (tw_30 hw) (by decide) rfl (own_lenOf pd_26 rfl) rfl rfl rfl rfl (c_put K a0 hw a p p1 f us.flatten m h5 hp (by omega) hm A5) (by simpa using has) ?_
          rintro w h6 xs6 ⟨r, v, rfl, V, hr, k6, A6⟩
          have vl := V.len
          have ef : (us ++ [v]).flatten = us.flatten ++ v := by simp
          refine own_istore_10 (pc' := 114) rfl at_112 (by first | exact One.u | exact One.val rfl | assumption | exact One.val (by assumption)) ?_
          exact own_weak (k114 (us ++ [v]) r (m - v.length) h6 _ (hus.snoc V) (by simp; omega) (by rw [ef, hr, List.length_append]; omega) (by rw [ef, List.length_append]; omega) (List.mem_append_right _ has) (by rw [ef]; exact A6)) (fun x hx => hx) (by exact Nat.le_of_ble_eq_true rfl) (by exact Nat.le_of_ble_eq_true rfl)
      intro us p m h5 sf hus hul hp hm has A5
      have hfl := hus.len
      refine own_iload (pc' := 116) rfl at_114 rfl ?_
      refine own_iconst (v := (2 : Int32)) (pc' := 117) rfl at_116 rfl ?_
      refine own_icmple (pcT := 142) (pcF := 120) at_117 (by decide) (by decide) rfl (fun q0 => ?_) (fun q0 => ?_)
      · rw [Int32.lt_iff_toInt_lt] at q0
        exact k142 us p m h5 sf hus (by omega) hp hm A5
      · rw [Int32.lt_iff_toInt_lt] at q0
        suffices kf : ∀ f : Int32, own_WP K M_law (own_ret fun w _ _ => w = .int 1) 137 [.val (.int p0), .val (.int p1), .val (.int p2), .val (.int p3), .val (.int p4), .val (.int p5), .val (.ref t), .val (.ref u), .val (.int (p3 &&& 3)), .val (.ref a), .val (.int p), .unset, .unset] [.int f, .int p2, .int p, .ref a] sf h5 5 16 by
          refine own_aload (pc' := 122) rfl at_120 rfl (by first | rfl | assumption) ?_
          refine own_iload (pc' := 124) rfl at_122 rfl ?_
          refine own_iload_n (pc' := 125) rfl at_124 rfl ?_
          refine own_iload_n (pc' := 126) rfl at_125 rfl ?_
          refine own_bipush (v := (16 : Int32)) (pc' := 128) rfl at_126 rfl ?_
          refine own_iand (pc' := 129) rfl at_128 ?_
          refine own_ifeq (pcT := 136) (pcF := 132) at_129 (by decide) (by decide) rfl (fun q1 => ?_) (fun q1 => ?_)
          · skip
            refine own_iconst (v := (0 : Int32)) (pc' := 137) rfl at_136 rfl ?_
            exact kf 0
          · skip
            refine own_iconst (v := (1 : Int32)) (pc' := 133) rfl at_132 rfl ?_
            refine own_goto (pc' := 137) at_133 (by decide) (by decide) ?_
            exact kf 1
        intro f
        refine own_static4v (M' := M_put) at_137 (pc' := 140) rfl (tw_27 hw) (tw_28 hw) (tw_29 hw) (tw_30 hw) (by decide) rfl (own_lenOf pd_26 rfl) rfl rfl rfl rfl (c_put K a0 hw a p p2 f us.flatten m h5 hp (by omega) hm A5) (by simpa using has) ?_
        rintro w h6 xs6 ⟨r, v, rfl, V, hr, k6, A6⟩
        have vl := V.len
        have ef : (us ++ [v]).flatten = us.flatten ++ v := by simp
        refine own_istore_10 (pc' := 142) rfl at_140 (by first | exact One.u | exact One.val rfl | assumption | exact One.val (by assumption)) ?_
        exact own_weak (k142 (us ++ [v]) r (m - v.length) h6 _ (hus.snoc V) (by simp; omega) (by rw [ef, hr, List.length_append]; omega) (by rw [ef, List.length_append]; omega) (by rw [ef]; exact A6)) (fun x hx => hx) (by exact Nat.le_of_ble_eq_true rfl) (by exact Nat.le_of_ble_eq_true rfl)
    intro us p m h5 sf hus hul hp hm A5
    have hfl := hus.len
    have hprs := hus.prs
    obtain rfl : p = us.flatten.length.toInt32 := Int32.toInt_inj.mp (by rw [hp, own_lit _ (by omega)])
    refine own_aload (pc' := 144) rfl at_142 rfl (by first | rfl | assumption) ?_
    refine own_iload (pc' := 146) rfl at_144 rfl ?_
    refine own_static2v (M' := M_take) at_146 (pc' := 149) rfl (tw_33 hw) (tw_34 hw) (tw_29 hw) (tw_35 hw) (by decide) rfl (own_lenOf pd_27 rfl) rfl rfl rfl rfl (c_take K a0 hw hU hnw hEL hme g SC hg a us.flatten m h5 (fun c hc => ⟨by have := hus.r c hc; omega, (hus.r c hc).2⟩) (by omega) A5) (by simp) ?_
    rintro w h6 xs6 ⟨x, rfl, E6, S6⟩
    refine own_astore_11 (pc' := 151) rfl at_149 (by first | exact One.u | exact One.val rfl | assumption | exact One.val (by assumption)) (by first | rfl | assumption) ?_
    refine own_iload (pc' := 153) rfl at_151 rfl ?_
    refine own_iload (pc' := 155) rfl at_153 rfl ?_
    refine own_static2v (M' := M_mmx) at_155 (pc' := 158) rfl (tw_53 hw) (tw_54 hw) (tw_55 hw) (tw_56 hw) (by decide) rfl (own_lenOf pd_13 rfl) rfl rfl rfl rfl (c_mmx K a0 hw p4 (p3 &&& 3) _) (by simp) ?_
    rintro w h7 xs7 ⟨r, rfl, hr, rfl⟩
    refine own_istore_12 (pc' := 160) rfl at_158 (by first | exact One.u | exact One.val rfl | assumption | exact One.val (by assumption)) ?_
    refine own_aload (pc' := 162) rfl at_160 rfl (by first | rfl | assumption) ?_
    refine own_aload (pc' := 164) rfl at_162 rfl (by first | rfl | assumption) ?_
    refine own_aload (pc' := 166) rfl at_164 rfl (by first | rfl | assumption) ?_
    refine own_iload (pc' := 168) rfl at_166 rfl ?_
    refine own_static4n (M' := M_cc) at_168 (pc' := 171) rfl (tw_57 hw) (tw_58 hw) (tw_59 hw) (tw_60 hw) (by decide) rfl (own_lenOf pd_28 rfl) rfl rfl rfl rfl (c_cc K a0 hw hU rf hrf SF g SC hg t u x r us.flatten _ S6 (by omega) (by rcases hr with ⟨z, rfl⟩ | ⟨z, rfl⟩ <;> omega) (fun c hc z => by have := (hus.r c hc).1; rw [z, v0] at this; omega)) (by simp) ?_
    rintro h8 xs8 rfl
    refine own_iconst (v := (1 : Int32)) (pc' := 172) rfl at_171 rfl ?_
    refine own_ireturnN (t := .boolean) rfl (by simp) (by first | exact own_nb0 | exact own_nb1 | rfl) at_172 rfl rfl ?_
    rfl
  · skip
    refine own_aload (pc' := 36) rfl at_34 rfl (by first | rfl | assumption) ?_
    refine own_aload (pc' := 38) rfl at_36 rfl (by first | rfl | assumption) ?_
    refine own_aconst_null (pc' := 39) rfl at_38 ?_
    refine own_iload (pc' := 41) rfl at_39 rfl ?_
    refine own_static4n (M' := M_cc) at_41 (pc' := 44) rfl (tw_57 hw) (tw_58 hw) (tw_59 hw) (tw_60 hw) (by decide) rfl (own_lenOf pd_28 rfl) rfl rfl rfl rfl (c_ccn K a0 hw t u p4 _) (by simp) ?_
    rintro h3 xs3 rfl
    refine own_iconst (v := (1 : Int32)) (pc' := 45) rfl at_44 rfl ?_
    refine own_ireturnN (t := .boolean) rfl (by simp) (by first | exact own_nb0 | exact own_nb1 | rfl) at_45 rfl rfl ?_
    rfl
abbrev own_EL : List (String × Nat) := [("java/lang/String", 7)]
theorem own_EW {a0 : Array Value} {Z : State} (hw : ∀ d ∈ tables_1, d.before a0 Z = true) : EW Z a0 own_EL := (EW.cons (hw _ (List.mem_of_getElem? (i := 172) rfl)) (by decide +kernel) EW.nil)
set_option maxRecDepth 65536 in
set_option maxHeartbeats 40000000 in
theorem comes_1 {Post : Tables → Env → Array Value → State → Outcome → State → Prop} (hpost : ∀ tb e args s v u, (limb_1_1.after args s (.returned v) u = true ∧ limb_1_2.after args s (.returned v) u = true ∧ True) → ReturnedEndW s (.returned v) u (Jvm.fieldLocs frame_1_writes args s ++ Jvm.arrayLocs frame_1_arrays args s ++ Jvm.staticLocs frame_1_statics s) 32 1216 → Post tb e args s (.returned v) u) :
    ArmFor flags0 classFile x code maxLocals ret World_1 tables_1 room_1 Calls_1 rest_1 Pre_1 Post := by
  intro l hfl _ _ p e ha hc hk s m args below hf hA hF happ hP
  obtain ⟨hcalls, hrest, hpre⟩ := hP
  obtain ⟨-, -, -, hnamed, -, -, -, hat⟩ := (Spec.applies_iff hf).mp happ
  obtain ⟨hg, hn⟩ := and_e (Cond.before_iff.mp (show (Jvm.Cond.and given_1 narrow_1).before args s = true from hpre))
  obtain ⟨gc, gv⟩ := and_e hg
  obtain ⟨g0, gv⟩ := and_e gv
  obtain ⟨g1, gv⟩ := and_e gv
  obtain ⟨g2, gv⟩ := and_e gv
  obtain ⟨g3, gv⟩ := and_e gv
  obtain ⟨g4, gv⟩ := and_e gv
  obtain ⟨w0, w1, w2, w3, w4, w5, rfl⟩ : ∃ w0 w1 w2 w3 w4 w5 : Value, args = #[w0, w1, w2, w3, w4, w5] := by
    have hs : args.size = 6 := by simpa [Cond.value, given_1] using gc
    obtain ⟨L⟩ := args
    match L, hs with
    | [w0, w1, w2, w3, w4, w5], _ => exact ⟨w0, w1, w2, w3, w4, w5, rfl⟩
  have hw := fun d (hd : d ∈ tables_1) => atoms_spec (ws := Jvm.Cond.code x code maxLocals ret :: tables_1) hat d (List.mem_cons_of_mem _ hd)
  obtain ⟨hsets, hown0⟩ := atoms_of _ (rest_1_c_eq ▸ (show rest_1_c.before _ s = true from hrest))
  have hfit : Fit s := fun {y c} hc i hi => by
    obtain ⟨ha, rfl⟩ := Array.getElem?_eq_some_iff.mp hc
    have q := List.all_eq_true.mp ((Array.all_eq_true_iff_forall_mem.mp hF) _ (Array.getElem_mem ha)) i (List.mem_range.mpr hi)
    simpa [Array.getElem?_eq_getElem hi] using q
  obtain ⟨p0, ev0⟩ := is_v g0
  obtain rfl : w0 = (.int p0) := Option.some.inj ev0
  obtain ⟨p1, ev1⟩ := is_v g1
  obtain rfl : w1 = (.int p1) := Option.some.inj ev1
  obtain ⟨p2, ev2⟩ := is_v g2
  obtain rfl : w2 = (.int p2) := Option.some.inj ev2
  obtain ⟨p3, ev3⟩ := is_v g3
  obtain rfl : w3 = (.int p3) := Option.some.inj ev3
  obtain ⟨p4, ev4⟩ := is_v g4
  obtain rfl : w4 = (.int p4) := Option.some.inj ev4
  obtain ⟨p5, ev5⟩ := is_v gv
  obtain rfl : w5 = (.int p5) := Option.some.inj ev5
  obtain ⟨gcs, ecs⟩ := is_v (Cond.before_iff.mp (hsets _ (List.mem_of_getElem? (i := 1) rfl)))
  have SC : Sta s s.heap "java/lang/String" "COMPACT_STRINGS" "Z" (.int gcs) := Sta.start ecs (Or.inl (hsets _ (List.mem_of_getElem? (i := 0) rfl)))
  have hgc : ¬ (gcs = (0 : Int32)) := gotF (Cond.eq_ints ecs (Term.int_eval (0))) (not_v (Cond.before_iff.mp (hsets _ (List.mem_of_getElem? (i := 2) rfl))))
  have hEW := own_EW hw
  have hCH : CHv s own_EL s.vm s.heap := CHv.start hEW (fun p hp => hcalls.1 p (by simpa [consts_1] using hp)) (hsets _ (List.mem_of_getElem? (i := 2) rfl)) (tw_14 hw) (tw_10 hw)
  have own_seti : ∀ (t : Term) (i : Int32), (Jvm.Cond.eq t (Term.int i)).before #[.int p0, .int p1, .int p2, .int p3, .int p4, .int p5] s = true → t.eval #[.int p0, .int p1, .int p2, .int p3, .int p4, .int p5] s none [] s = some (.int i) := by
    intro t i hq
    have hq := Cond.before_iff.mp hq
    obtain ⟨x, y, q1, q2, q3, -⟩ := cmp_v (Or.inl hq)
    cases (Term.int_eval i).symm.trans q2
    cases x <;> simp only [Kin] at q3
    · have := gotT (Cond.eq_ints q1 (Term.int_eval i)) hq
      rw [q1, this]
    all_goals first | (obtain ⟨z, q3⟩ := q3; cases q3) | (cases q3.2)
  have hU : own_U16 (l, s, own_EL, false) := ⟨Sta.start (own_seti _ _ (hsets _ (List.mem_of_getElem? (i := 12) rfl))) (Or.inl (hsets _ (List.mem_of_getElem? (i := 11) rfl))), Sta.start (own_seti _ _ (hsets _ (List.mem_of_getElem? (i := 15) rfl))) (Or.inl (hsets _ (List.mem_of_getElem? (i := 14) rfl))), Sta.start (own_seti _ _ (hsets _ (List.mem_of_getElem? (i := 18) rfl))) (Or.inl (hsets _ (List.mem_of_getElem? (i := 17) rfl)))⟩
  obtain ⟨rf, erf, hrf⟩ := isR_v (Cond.before_iff.mp (hsets _ (List.mem_of_getElem? (i := 8) rfl)))
  have SF : Sta s s.heap "jdk/internal/util/Preconditions" "SIOOBE_FORMATTER" "Ljava/util/function/BiFunction;" rf := Sta.start erf (Or.inl (hsets _ (List.mem_of_getElem? (i := 7) rfl)))
  have main := c_law (l, s, own_EL, false) _ hw rfl hEW (by show _ ∈ own_EL; simp [own_EL]) hU rf hrf SF gcs SC hgc p0 p1 p2 p3 p4 p5 s.heap
  obtain ⟨n, o, h1, h2, h3, v, L, xs, rfl, ⟨w, e0, hq⟩, N, hC, hS, hE, hR, hwm⟩ := main tables_1 p e ha hc hk s m _ below hf ((Spec.applies_iff_loose hf).mp happ).1 ⟨rfl, State.Warmed39.refl s, rfl, ⟨_, hEW⟩, hCH, (fun x hx => nomatch hx), own_ext_refl _⟩ trivial
  subst e0
  subst hq
  refine ⟨n, _, h1, h2, h3, hpost _ _ _ _ _ _ ⟨Cond.after_iff.mpr rfl, Cond.after_iff.mpr (eq_i res_at (Term.int_eval (1)) rfl), trivial⟩ ⟨⟨_, rfl⟩, hR.2.1, hR.2.2.1, (hR.2.2.2.sift fun y hy => Or.inr (N y hy)).mono (by decide) (by decide)⟩⟩
theorem main_1_1 : Claimed_1_1 := comes_1 fun _ _ _ _ _ _ h hF => ⟨h.1, hF⟩
theorem main_1_2 : Claimed_1_2 := comes_1 fun _ _ _ _ _ _ h hF => ⟨h.2.1, hF⟩
end Jvm.Pilot.@@N@@
namespace Jvm.Pilot.@@N@@
open Jvm Jvm.ClassFile Sem Op Lib Jvm.Free Jvm.Stand Jvm.Pilot.@@N@@.Jvm.D
/-! MADE BY PROGRAM (witnessworld.py) out of the Statement's table words and the real class files: 23 classes; the members and pool entries that the words name. The judged class is class 1, her method 1. -/
namespace start1
open Jvm.ClassFile
def u (s : String) : CpInfo := .utf8 (stringToUtf16 s)
/-- a pool by its gaps: so many unusable entries, then the entry; so many at the end -/
def gap : Nat → List CpInfo → List CpInfo
  | 0, r => r
  | n + 1, r => .unusable :: gap n r
def poolList (es : List (Nat × CpInfo)) (last : Nat) : List CpInfo := es.foldr (fun e r => gap e.1 (e.2 :: r)) (gap last [])
def pool (es : List (Nat × CpInfo)) (last : Nat) : Array CpInfo := ⟨poolList es last⟩
def fileOf (pool : Array CpInfo) (this : Nat) (attrs : Array Attribute := #[]) (ms : Array MethodInfo := #[]) (fl : Nat := 33) (sup : Nat := 0) (ifs : Array Nat := #[]) (fds : Array FieldInfo := #[]) : ClassFile where
  minorVersion := 0
  majorVersion := 65
  constantPool := pool
  accessFlags := fl
  thisClass := this
  superClass := sup
  interfaces := ifs
  fields := fds
  methods := ms
  attributes := attrs
def plain (name : String) (sup : Option ClassId) : Class where
  name := name
  kind := .ordinary
  loader := none
  accessFlags := 33
  super := sup
  interfaces := #[]
  cf := none
  fields := #[]
  methods := #[]
  instanceTypes := #[]
  staticTypes := #[]
  resolved := #[]
  callSites := []
  init := .initialized
  statics := none
  mirror := none

def pool0 : Array CpInfo := pool [(5, u "<init>"), (0, u "()V"), (1, .class_ 10), (1, u "java/lang/Object")] 113

def k0c0 : Code := { maxStack := 0, maxLocals := 1, code := object_method_1_code, exceptionTable := #[], attributes := #[] }
def k0m0 : Method := { name := "<init>", desc := "()V", sig := { parameters := [], returnType := none }, accessFlags := 1, code := some k0c0 }
/-- java/lang/Object -/
def k0 : Class := { plain "java/lang/Object" none with
  accessFlags := 33
  interfaces := #[]
  cf := some (fileOf pool0 8 #[] #[{ accessFlags := 1, nameIndex := 5, descriptorIndex := 6, attributes := #[] }] 33 0 #[] #[])
  fields := #[]
  methods := #[k0m0]
  instanceTypes := #[]
  staticTypes := #[]
  resolved := Array.replicate 124 none
  statics := none }

def pool1 : Array CpInfo := pool [(2, .class_ 4), (1, u "java/lang/Object"), (0, u "<init>"), (0, u "()V"), (0, .methodref 8 9), (0, .class_ 10), (0, .nameAndType 11 12), (0, u "java/lang/String"), (0, u "valueOf"), (0, u "(C)Ljava/lang/String;"), (0, .methodref 14 15), (0, .class_ 16), (0, .nameAndType 17 18), (0, u "com/example/table_to_topic/tabletotopic/Text"), (0, u "checkColumn"), (0, u "(Ljava/lang/String;Ljava/lang/String;Ljava/lang/String;I)V"), (0, .methodref 20 21), (0, .class_ 22), (0, .nameAndType 23 24), (0, u "com/example/table_to_topic/tabletotopic/TextCheckColumnPinLaw"), (0, u "put"), (0, u "([CIIZ)I"), (0, .methodref 20 26), (0, .nameAndType 27 28), (0, u "take"), (0, u "([CI)Ljava/lang/String;"), (0, .methodref 30 31), (0, .class_ 32), (0, .nameAndType 33 34), (0, u "java/lang/Math"), (0, u "max"), (0, u "(II)I"), (0, .integer 55296), (0, .integer 56320), (0, .integer 65535), (0, .integer 57343), (0, .methodref 8 40), (0, .nameAndType 5 41), (0, u "([C)V"), (2, u "law"), (0, u "(IIIIII)Z")] 5

def k1m0 : Method := { name := "<init>", desc := "()V", sig := { parameters := [], returnType := none }, accessFlags := 1, code := none }
def k1c1 : Code := { maxStack := 5, maxLocals := 13, code := code, exceptionTable := #[], attributes := #[] }
def k1m1 : Method := { name := "law", desc := "(IIIIII)Z", sig := { parameters := [.int, .int, .int, .int, .int, .int], returnType := some .boolean }, accessFlags := 9, code := some k1c1 }
def k1c2 : Code := { maxStack := 5, maxLocals := 5, code := method_3_code, exceptionTable := #[], attributes := #[] }
def k1m2 : Method := { name := "put", desc := "([CIIZ)I", sig := { parameters := [(.array .char), .int, .int, .boolean], returnType := some .int }, accessFlags := 10, code := some k1c2 }
def k1c3 : Code := { maxStack := 7, maxLocals := 2, code := method_4_code, exceptionTable := #[], attributes := #[] }
def k1m3 : Method := { name := "take", desc := "([CI)Ljava/lang/String;", sig := { parameters := [(.array .char), .int], returnType := some (.object "java/lang/String") }, accessFlags := 10, code := some k1c3 }
/-- com/example/table_to_topic/tabletotopic/TextCheckColumnPinLaw -/
def k1 : Class := { plain "com/example/table_to_topic/tabletotopic/TextCheckColumnPinLaw" (some 0) with
  accessFlags := 49
  interfaces := #[]
  cf := some (fileOf pool1 20 #[] #[{ accessFlags := 1, nameIndex := 5, descriptorIndex := 6, attributes := #[] }, { accessFlags := 9, nameIndex := 44, descriptorIndex := 45, attributes := #[] }, { accessFlags := 10, nameIndex := 23, descriptorIndex := 24, attributes := #[] }, { accessFlags := 10, nameIndex := 27, descriptorIndex := 28, attributes := #[] }] 49 2 #[] #[])
  fields := #[]
  methods := #[k1m0, k1m1, k1m2, k1m3]
  instanceTypes := #[]
  staticTypes := #[]
  resolved := Array.replicate 51 none
  statics := none }

def pool2 : Array CpInfo := pool [(1, .class_ 2), (0, u "java/io/Serializable"), (0, .class_ 4), (0, u "java/lang/Object")] 2

/-- java/io/Serializable -/
def k2 : Class := { plain "java/io/Serializable" (some 0) with
  accessFlags := 1537
  interfaces := #[]
  cf := some (fileOf pool2 1 #[] #[] 1537 3 #[] #[])
  fields := #[]
  methods := #[]
  instanceTypes := #[]
  staticTypes := #[]
  resolved := Array.replicate 7 none
  statics := none }

def pool3 : Array CpInfo := pool [(1, .class_ 2), (0, u "java/lang/Comparable"), (0, .class_ 4), (0, u "java/lang/Object")] 7

/-- java/lang/Comparable -/
def k3 : Class := { plain "java/lang/Comparable" (some 0) with
  accessFlags := 1537
  interfaces := #[]
  cf := some (fileOf pool3 1 #[] #[] 1537 3 #[] #[])
  fields := #[]
  methods := #[]
  instanceTypes := #[]
  staticTypes := #[]
  resolved := Array.replicate 12 none
  statics := none }

def pool4 : Array CpInfo := pool [(2, .class_ 4), (1, u "java/lang/CharSequence"), (42, .class_ 48), (0, u "java/lang/CharSequence$1CodePointIterator"), (10, .class_ 60), (0, u "java/lang/CharSequence$1CharIterator"), (5, .class_ 67), (0, u "java/lang/Object")] 63

/-- java/lang/CharSequence -/
def k4 : Class := { plain "java/lang/CharSequence" (some 0) with
  accessFlags := 1537
  interfaces := #[]
  cf := some (fileOf pool4 2 #[.nestMembers #[47, 59]] #[] 1537 66 #[] #[])
  fields := #[]
  methods := #[]
  instanceTypes := #[]
  staticTypes := #[]
  resolved := Array.replicate 131 none
  statics := none }

def pool5 : Array CpInfo := pool [(1, .class_ 2), (0, u "java/lang/constant/Constable"), (0, .class_ 4), (0, u "java/lang/Object")] 6

/-- java/lang/constant/Constable -/
def k5 : Class := { plain "java/lang/constant/Constable" (some 0) with
  accessFlags := 1537
  interfaces := #[]
  cf := some (fileOf pool5 1 #[] #[] 1537 3 #[] #[])
  fields := #[]
  methods := #[]
  instanceTypes := #[]
  staticTypes := #[]
  resolved := Array.replicate 11 none
  statics := none }

def pool6 : Array CpInfo := pool [(1, .class_ 2), (0, u "java/lang/constant/ConstantDesc"), (0, .class_ 4), (0, u "java/lang/Object")] 32

/-- java/lang/constant/ConstantDesc -/
def k6 : Class := { plain "java/lang/constant/ConstantDesc" (some 0) with
  accessFlags := 1537
  interfaces := #[]
  cf := some (fileOf pool6 1 #[] #[] 1537 3 #[] #[])
  fields := #[]
  methods := #[]
  instanceTypes := #[]
  staticTypes := #[]
  resolved := Array.replicate 37 none
  statics := none }

def pool7 : Array CpInfo := pool [(1, .methodref 2 3), (0, .class_ 4), (0, .nameAndType 5 6), (0, u "java/lang/Object"), (0, u "<init>"), (0, u "()V"), (0, .string 8), (0, u ""), (0, .fieldref 10 11), (0, .class_ 12), (0, .nameAndType 13 14), (0, u "java/lang/String"), (0, u "value"), (0, u "[B"), (0, .fieldref 10 16), (0, .nameAndType 17 18), (0, u "coder"), (0, u "B"), (2, u "hash"), (0, u "I"), (2, u "hashIsZero"), (0, u "Z"), (0, .methodref 10 28), (0, .nameAndType 5 29), (0, u "([CIILjava/lang/Void;)V"), (7, u "(III)I"), (0, .fieldref 10 39), (0, .nameAndType 40 26), (0, u "COMPACT_STRINGS"), (1, .class_ 44), (1, u "java/lang/StringUTF16"), (0, u "compress"), (1, .methodref 42 48), (0, .nameAndType 49 50), (0, u "coderFromArrayLen"), (0, u "([BI)B"), (2, u "toBytes"), (25, .class_ 81), (1, u "java/util/Objects"), (15, u "([BII)I"), (9, .class_ 109), (1, u "java/lang/StringLatin1"), (32, u "()Z"), (34, .methodref 42 178), (0, .nameAndType 45 179), (0, u "([CII)[B"), (29, .methodref 10 210), (0, .nameAndType 5 211), (0, u "([BB)V"), (122, u "()I"), (0, .methodref 10 336), (0, .nameAndType 17 337), (0, u "()B"), (31, u "(C)Z"), (122, .methodref 10 493), (0, .nameAndType 494 142), (0, u "isLatin1"), (10, .methodref 10 506), (0, .nameAndType 507 334), (0, u "length"), (3, .methodref 79 512), (0, .nameAndType 513 37), (0, u "checkFromToIndex"), (0, .methodref 42 515), (0, .nameAndType 516 97), (0, u "codePointCount"), (6, u "checkBoundsBeginEnd"), (0, u "(III)V"), (50, .class_ 576), (0, u "java/lang/CharSequence"), (22, u "CASE_INSENSITIVE_ORDER"), (0, u "Ljava/util/Comparator;"), (32, .methodref 10 634), (0, .nameAndType 635 636), (0, u "indexOf"), (0, u "(II)I"), (0, .methodref 107 638), (0, .nameAndType 635 639), (0, u "([BIII)I"), (0, .methodref 42 638), (124, u "(I)I"), (16, u "valueOf"), (0, u "(C)Ljava/lang/String;"), (226, u "([C)V"), (4, .methodref 107 1016), (0, .nameAndType 1017 369), (0, u "canEncode"), (0, .methodref 107 1019), (0, .nameAndType 53 1020), (0, u "(C)[B"), (32, .fieldref 1054 1055), (0, .class_ 1056), (0, .nameAndType 1057 1058), (0, u "jdk/internal/util/Preconditions"), (0, u "SIOOBE_FORMATTER"), (0, u "Ljava/util/function/BiFunction;"), (3, .methodref 1054 1063), (0, .nameAndType 513 1064), (0, u "(IIILjava/util/function/BiFunction;)I"), (36, u "serialPersistentFields"), (0, u "[Ljava/io/ObjectStreamField;"), (0, .class_ 1104), (0, u "java/lang/String$CaseInsensitiveComparator"), (1, .class_ 1107), (0, u "java/io/Serializable"), (0, .class_ 1109), (0, u "java/lang/Comparable"), (0, .class_ 1111), (0, u "java/lang/constant/Constable"), (0, .class_ 1113), (0, u "java/lang/constant/ConstantDesc"), (2, u "serialVersionUID"), (0, u "J"), (3, u "REPL"), (0, u "C"), (2, u "LATIN1"), (1, u "UTF16")] 323

def k7m0 : Method := { name := "<init>", desc := "()V", sig := { parameters := [], returnType := none }, accessFlags := 1, code := none }
def k7c1 : Code := { maxStack := 5, maxLocals := 2, code := jdk_42_method_3_code, exceptionTable := #[], attributes := #[] }
def k7m1 : Method := { name := "<init>", desc := "([C)V", sig := { parameters := [(.array .char)], returnType := none }, accessFlags := 1, code := some k7c1 }
def k7c2 : Code := { maxStack := 2, maxLocals := 1, code := jdk_42_method_54_code, exceptionTable := #[], attributes := #[] }
def k7m2 : Method := { name := "length", desc := "()I", sig := { parameters := [], returnType := some .int }, accessFlags := 1, code := some k7c2 }
def k7c3 : Code := { maxStack := 3, maxLocals := 3, code := jdk_42_method_59_code, exceptionTable := #[], attributes := #[] }
def k7m3 : Method := { name := "codePointCount", desc := "(II)I", sig := { parameters := [.int, .int], returnType := some .int }, accessFlags := 1, code := some k7c3 }
def k7c4 : Code := { maxStack := 3, maxLocals := 2, code := jdk_42_method_79_code, exceptionTable := #[], attributes := #[] }
def k7m4 : Method := { name := "indexOf", desc := "(I)I", sig := { parameters := [.int], returnType := some .int }, accessFlags := 1, code := some k7c4 }
def k7c5 : Code := { maxStack := 4, maxLocals := 3, code := jdk_42_method_80_code, exceptionTable := #[], attributes := #[] }
def k7m5 : Method := { name := "indexOf", desc := "(II)I", sig := { parameters := [.int, .int], returnType := some .int }, accessFlags := 1, code := some k7c5 }
def k7c6 : Code := { maxStack := 4, maxLocals := 1, code := jdk_42_method_139_code, exceptionTable := #[], attributes := #[] }
def k7m6 : Method := { name := "valueOf", desc := "(C)Ljava/lang/String;", sig := { parameters := [.char], returnType := some (.object "java/lang/String") }, accessFlags := 9, code := some k7c6 }
def k7c7 : Code := { maxStack := 4, maxLocals := 6, code := jdk_42_method_149_code, exceptionTable := #[], attributes := #[] }
def k7m7 : Method := { name := "<init>", desc := "([CIILjava/lang/Void;)V", sig := { parameters := [(.array .char), .int, .int, (.object "java/lang/Void")], returnType := none }, accessFlags := 2, code := some k7c7 }
def k7c8 : Code := { maxStack := 2, maxLocals := 3, code := jdk_42_method_151_code, exceptionTable := #[], attributes := #[] }
def k7m8 : Method := { name := "<init>", desc := "([BB)V", sig := { parameters := [(.array .byte), .byte], returnType := none }, accessFlags := 0, code := some k7c8 }
def k7c9 : Code := { maxStack := 1, maxLocals := 1, code := jdk_42_method_152_code, exceptionTable := #[], attributes := #[] }
def k7m9 : Method := { name := "coder", desc := "()B", sig := { parameters := [], returnType := some .byte }, accessFlags := 0, code := some k7c9 }
def k7c10 : Code := { maxStack := 1, maxLocals := 1, code := jdk_42_method_154_code, exceptionTable := #[], attributes := #[] }
def k7m10 : Method := { name := "isLatin1", desc := "()Z", sig := { parameters := [], returnType := some .boolean }, accessFlags := 0, code := some k7c10 }
def k7c11 : Code := { maxStack := 4, maxLocals := 3, code := jdk_42_method_158_code, exceptionTable := #[], attributes := #[] }
def k7m11 : Method := { name := "checkBoundsBeginEnd", desc := "(III)V", sig := { parameters := [.int, .int, .int], returnType := none }, accessFlags := 8, code := some k7c11 }
/-- java/lang/String -/
def k7 : Class := { plain "java/lang/String" (some 0) with
  accessFlags := 49
  interfaces := #[2, 3, 4, 5, 6]
  cf := some (fileOf pool7 10 #[.nestMembers #[1103]] #[{ accessFlags := 1, nameIndex := 5, descriptorIndex := 6, attributes := #[] }, { accessFlags := 1, nameIndex := 5, descriptorIndex := 1010, attributes := #[] }, { accessFlags := 1, nameIndex := 507, descriptorIndex := 334, attributes := #[] }, { accessFlags := 1, nameIndex := 516, descriptorIndex := 636, attributes := #[] }, { accessFlags := 1, nameIndex := 635, descriptorIndex := 765, attributes := #[] }, { accessFlags := 1, nameIndex := 635, descriptorIndex := 636, attributes := #[] }, { accessFlags := 9, nameIndex := 782, descriptorIndex := 783, attributes := #[] }, { accessFlags := 2, nameIndex := 5, descriptorIndex := 29, attributes := #[] }, { accessFlags := 0, nameIndex := 5, descriptorIndex := 211, attributes := #[] }, { accessFlags := 0, nameIndex := 17, descriptorIndex := 337, attributes := #[] }, { accessFlags := 0, nameIndex := 494, descriptorIndex := 142, attributes := #[] }, { accessFlags := 8, nameIndex := 523, descriptorIndex := 524, attributes := #[] }] 49 2 #[1106, 1108, 575, 1110, 1112] #[{ accessFlags := 18, nameIndex := 13, descriptorIndex := 14, attributes := #[] }, { accessFlags := 18, nameIndex := 17, descriptorIndex := 18, attributes := #[] }, { accessFlags := 2, nameIndex := 21, descriptorIndex := 22, attributes := #[] }, { accessFlags := 2, nameIndex := 25, descriptorIndex := 26, attributes := #[] }, { accessFlags := 26, nameIndex := 1116, descriptorIndex := 1117, attributes := #[] }, { accessFlags := 24, nameIndex := 40, descriptorIndex := 26, attributes := #[] }, { accessFlags := 26, nameIndex := 1101, descriptorIndex := 1102, attributes := #[] }, { accessFlags := 26, nameIndex := 1121, descriptorIndex := 1122, attributes := #[] }, { accessFlags := 25, nameIndex := 599, descriptorIndex := 600, attributes := #[] }, { accessFlags := 24, nameIndex := 1125, descriptorIndex := 18, attributes := #[] }, { accessFlags := 24, nameIndex := 1127, descriptorIndex := 18, attributes := #[] }])
  fields := #[{ name := "value", type := (.array .byte), accessFlags := 18, slot := 0, constantValue := 0 }, { name := "coder", type := .byte, accessFlags := 18, slot := 1, constantValue := 0 }, { name := "hash", type := .int, accessFlags := 2, slot := 2, constantValue := 0 }, { name := "hashIsZero", type := .boolean, accessFlags := 2, slot := 3, constantValue := 0 }, { name := "serialVersionUID", type := .long, accessFlags := 26, slot := 0, constantValue := 0 }, { name := "COMPACT_STRINGS", type := .boolean, accessFlags := 24, slot := 1, constantValue := 0 }, { name := "serialPersistentFields", type := (.array (.object "java/io/ObjectStreamField")), accessFlags := 26, slot := 2, constantValue := 0 }, { name := "REPL", type := .char, accessFlags := 26, slot := 3, constantValue := 0 }, { name := "CASE_INSENSITIVE_ORDER", type := (.object "java/util/Comparator"), accessFlags := 25, slot := 4, constantValue := 0 }, { name := "LATIN1", type := .byte, accessFlags := 24, slot := 5, constantValue := 0 }, { name := "UTF16", type := .byte, accessFlags := 24, slot := 6, constantValue := 0 }]
  methods := #[k7m0, k7m1, k7m2, k7m3, k7m4, k7m5, k7m6, k7m7, k7m8, k7m9, k7m10, k7m11]
  instanceTypes := #[(.array .byte), .byte, .int, .boolean]
  staticTypes := #[.long, .boolean, (.array (.object "java/io/ObjectStreamField")), .char, (.object "java/util/Comparator"), .byte, .byte]
  resolved := Array.replicate 1451 none
  statics := some 0 }

def pool8 : Array CpInfo := pool [(4, .class_ 6), (1, u "java/lang/Object"), (0, u "<init>"), (0, u "()V"), (5, .class_ 16), (1, u "java/lang/StringLatin1"), (21, .methodref 39 40), (0, .class_ 41), (0, .nameAndType 42 43), (0, u "java/lang/Math"), (0, u "min"), (0, u "(II)I"), (44, .methodref 14 89), (0, .nameAndType 90 91), (0, u "canEncode"), (0, u "(I)Z"), (0, .methodref 39 93), (0, .nameAndType 94 43), (0, u "max"), (0, .methodref 14 96), (0, .nameAndType 97 98), (0, u "indexOfChar"), (0, u "([BIII)I"), (2, u "indexOf"), (3, u "(C)Z"), (15, u "$assertionsDisabled"), (0, u "Z"), (98, .class_ 223), (1, u "java/lang/StringLatin1$LinesSpliterator"), (156, u "toBytes"), (1, u "(C)[B"), (7, .class_ 391), (0, u "java/lang/StringLatin1$CharsSpliterator")] 3

def k8m0 : Method := { name := "<init>", desc := "()V", sig := { parameters := [], returnType := none }, accessFlags := 0, code := none }
def k8c1 : Code := { maxStack := 2, maxLocals := 1, code := jdk_43_method_3_code, exceptionTable := #[], attributes := #[] }
def k8m1 : Method := { name := "canEncode", desc := "(C)Z", sig := { parameters := [.char], returnType := some .boolean }, accessFlags := 9, code := some k8c1 }
def k8c2 : Code := { maxStack := 2, maxLocals := 1, code := jdk_43_method_4_code, exceptionTable := #[], attributes := #[] }
def k8m2 : Method := { name := "canEncode", desc := "(I)Z", sig := { parameters := [.int], returnType := some .boolean }, accessFlags := 9, code := some k8c2 }
def k8c3 : Code := { maxStack := 4, maxLocals := 4, code := jdk_43_method_22_code, exceptionTable := #[], attributes := #[] }
def k8m3 : Method := { name := "indexOf", desc := "([BIII)I", sig := { parameters := [(.array .byte), .int, .int, .int], returnType := some .int }, accessFlags := 9, code := some k8c3 }
def k8c4 : Code := { maxStack := 2, maxLocals := 6, code := jdk_43_method_23_code, exceptionTable := #[], attributes := #[] }
def k8m4 : Method := { name := "indexOfChar", desc := "([BIII)I", sig := { parameters := [(.array .byte), .int, .int, .int], returnType := some .int }, accessFlags := 10, code := some k8c4 }
def k8c5 : Code := { maxStack := 4, maxLocals := 1, code := jdk_43_method_46_code, exceptionTable := #[], attributes := #[] }
def k8m5 : Method := { name := "toBytes", desc := "(C)[B", sig := { parameters := [.char], returnType := some (.array .byte) }, accessFlags := 9, code := some k8c5 }
/-- java/lang/StringLatin1 -/
def k8 : Class := { plain "java/lang/StringLatin1" (some 0) with
  accessFlags := 48
  interfaces := #[]
  cf := some (fileOf pool8 14 #[.nestMembers #[390, 221]] #[{ accessFlags := 0, nameIndex := 7, descriptorIndex := 8, attributes := #[] }, { accessFlags := 9, nameIndex := 90, descriptorIndex := 105, attributes := #[] }, { accessFlags := 9, nameIndex := 90, descriptorIndex := 91, attributes := #[] }, { accessFlags := 9, nameIndex := 101, descriptorIndex := 98, attributes := #[] }, { accessFlags := 10, nameIndex := 97, descriptorIndex := 98, attributes := #[] }, { accessFlags := 9, nameIndex := 380, descriptorIndex := 382, attributes := #[] }] 48 4 #[] #[{ accessFlags := 4120, nameIndex := 121, descriptorIndex := 122, attributes := #[] }])
  fields := #[{ name := "$assertionsDisabled", type := .boolean, accessFlags := 4120, slot := 0, constantValue := 0 }]
  methods := #[k8m0, k8m1, k8m2, k8m3, k8m4, k8m5]
  instanceTypes := #[]
  staticTypes := #[.boolean]
  resolved := Array.replicate 395 none
  statics := none }

def pool9 : Array CpInfo := pool [(3, .class_ 4), (0, u "java/lang/String"), (1, .class_ 8), (1, u "java/lang/Object"), (0, u "<init>"), (0, u "()V"), (0, .methodref 12 13), (0, .class_ 14), (0, .nameAndType 15 16), (0, u "java/lang/StringUTF16"), (0, u "newBytesLength"), (0, u "(I)I"), (3, .integer 1073741823), (23, .fieldref 12 45), (0, .nameAndType 46 47), (0, u "$assertionsDisabled"), (0, u "Z"), (0, .methodref 12 49), (0, .nameAndType 50 51), (0, u "length"), (0, u "([B)I"), (7, .fieldref 12 60), (0, .nameAndType 61 62), (0, u "HI_BYTE_SHIFT"), (0, u "I"), (0, .fieldref 12 64), (0, .nameAndType 65 62), (0, u "LO_BYTE_SHIFT"), (5, .methodref 12 72), (0, .nameAndType 73 74), (0, u "getChar"), (0, u "([BI)C"), (0, .methodref 76 77), (0, .class_ 78), (0, .nameAndType 79 80), (0, u "java/lang/Character"), (0, u "isHighSurrogate"), (0, u "(C)Z"), (0, .methodref 76 82), (0, .nameAndType 83 80), (0, u "isLowSurrogate"), (7, u "([BIIZ)I"), (4, .methodref 12 97), (0, .nameAndType 98 99), (0, u "checkBoundsBeginEnd"), (0, u "(II[B)V"), (0, .methodref 12 101), (0, .nameAndType 102 91), (0, u "codePointCount"), (4, .methodref 12 108), (0, .nameAndType 109 110), (0, u "newBytesFor"), (0, u "(I)[B"), (0, .methodref 12 112), (0, .nameAndType 113 114), (0, u "putChar"), (0, u "([BII)V"), (0, .methodref 12 116), (0, .nameAndType 117 118), (0, u "compress"), (0, u "([CI[BII)I"), (0, .methodref 12 120), (0, .nameAndType 121 122), (0, u "toBytes"), (0, u "([CII)[B"), (60, .methodref 184 185), (0, .class_ 186), (0, .nameAndType 187 188), (0, u "java/lang/Math"), (0, u "min"), (0, u "(II)I"), (35, .methodref 184 225), (0, .nameAndType 226 188), (0, u "max"), (0, .integer 65536), (0, .methodref 12 229), (0, .nameAndType 230 231), (0, u "indexOfChar"), (0, u "([BIII)I"), (9, .methodref 3 242), (0, .nameAndType 98 243), (0, u "(III)V"), (0, .methodref 12 245), (0, .nameAndType 246 231), (0, u "indexOfCharUnsafe"), (3, u "([BII)I"), (10, u "coderFromArrayLen"), (0, u "([BI)B"), (5, u "indexOf"), (100, .class_ 371), (1, u "java/lang/StringUTF16$LinesSpliterator"), (58, u "MAX_LENGTH"), (196, .class_ 628), (0, u "java/lang/StringUTF16$CodePointsSpliterator"), (0, .class_ 630), (0, u "java/lang/StringUTF16$CharsSpliterator")] 4

def k9m0 : Method := { name := "<init>", desc := "()V", sig := { parameters := [], returnType := none }, accessFlags := 0, code := none }
def k9c1 : Code := { maxStack := 1, maxLocals := 1, code := jdk_52_method_2_code, exceptionTable := #[], attributes := #[] }
def k9m1 : Method := { name := "newBytesFor", desc := "(I)[B", sig := { parameters := [.int], returnType := some (.array .byte) }, accessFlags := 9, code := some k9c1 }
def k9c2 : Code := { maxStack := 4, maxLocals := 1, code := jdk_52_method_3_code, exceptionTable := #[], attributes := #[] }
def k9m2 : Method := { name := "newBytesLength", desc := "(I)I", sig := { parameters := [.int], returnType := some .int }, accessFlags := 9, code := some k9c2 }
def k9c3 : Code := { maxStack := 4, maxLocals := 3, code := jdk_52_method_4_code, exceptionTable := #[], attributes := #[] }
def k9m3 : Method := { name := "putChar", desc := "([BII)V", sig := { parameters := [(.array .byte), .int, .int], returnType := none }, accessFlags := 8, code := some k9c3 }
def k9c4 : Code := { maxStack := 3, maxLocals := 2, code := jdk_52_method_5_code, exceptionTable := #[], attributes := #[] }
def k9m4 : Method := { name := "getChar", desc := "([BI)C", sig := { parameters := [(.array .byte), .int], returnType := some .char }, accessFlags := 8, code := some k9c4 }
def k9c5 : Code := { maxStack := 2, maxLocals := 1, code := jdk_52_method_6_code, exceptionTable := #[], attributes := #[] }
def k9m5 : Method := { name := "length", desc := "([B)I", sig := { parameters := [(.array .byte)], returnType := some .int }, accessFlags := 9, code := some k9c5 }
def k9c6 : Code := { maxStack := 3, maxLocals := 6, code := jdk_52_method_11_code, exceptionTable := #[], attributes := #[] }
def k9m6 : Method := { name := "codePointCount", desc := "([BIIZ)I", sig := { parameters := [(.array .byte), .int, .int, .boolean], returnType := some .int }, accessFlags := 10, code := some k9c6 }
def k9c7 : Code := { maxStack := 4, maxLocals := 3, code := jdk_52_method_12_code, exceptionTable := #[], attributes := #[] }
def k9m7 : Method := { name := "codePointCount", desc := "([BII)I", sig := { parameters := [(.array .byte), .int, .int], returnType := some .int }, accessFlags := 9, code := some k9c7 }
def k9c8 : Code := { maxStack := 4, maxLocals := 5, code := jdk_52_method_14_code, exceptionTable := #[], attributes := #[] }
def k9m8 : Method := { name := "toBytes", desc := "([CII)[B", sig := { parameters := [(.array .char), .int, .int], returnType := some (.array .byte) }, accessFlags := 9, code := some k9c8 }
def k9c9 : Code := { maxStack := 2, maxLocals := 2, code := jdk_52_method_15_code, exceptionTable := #[], attributes := #[] }
def k9m9 : Method := { name := "coderFromArrayLen", desc := "([BI)B", sig := { parameters := [(.array .byte), .int], returnType := some .byte }, accessFlags := 8, code := some k9c9 }
def k9c10 : Code := { maxStack := 5, maxLocals := 6, code := jdk_52_method_16_code, exceptionTable := #[], attributes := #[] }
def k9m10 : Method := { name := "compress", desc := "([CII)[B", sig := { parameters := [(.array .char), .int, .int], returnType := some (.array .byte) }, accessFlags := 9, code := some k9c10 }
def k9c11 : Code := { maxStack := 3, maxLocals := 7, code := jdk_52_method_21_code, exceptionTable := #[], attributes := #[] }
def k9m11 : Method := { name := "compress", desc := "([CI[BII)I", sig := { parameters := [(.array .char), .int, (.array .byte), .int, .int], returnType := some .int }, accessFlags := 9, code := some k9c11 }
def k9c12 : Code := { maxStack := 4, maxLocals := 4, code := jdk_52_method_40_code, exceptionTable := #[], attributes := #[] }
def k9m12 : Method := { name := "indexOf", desc := "([BIII)I", sig := { parameters := [(.array .byte), .int, .int, .int], returnType := some .int }, accessFlags := 9, code := some k9c12 }
def k9c13 : Code := { maxStack := 4, maxLocals := 4, code := jdk_52_method_47_code, exceptionTable := #[], attributes := #[] }
def k9m13 : Method := { name := "indexOfChar", desc := "([BIII)I", sig := { parameters := [(.array .byte), .int, .int, .int], returnType := some .int }, accessFlags := 10, code := some k9c13 }
def k9c14 : Code := { maxStack := 2, maxLocals := 5, code := jdk_52_method_48_code, exceptionTable := #[], attributes := #[] }
def k9m14 : Method := { name := "indexOfCharUnsafe", desc := "([BIII)I", sig := { parameters := [(.array .byte), .int, .int, .int], returnType := some .int }, accessFlags := 10, code := some k9c14 }
def k9c15 : Code := { maxStack := 3, maxLocals := 3, code := jdk_52_method_93_code, exceptionTable := #[], attributes := #[] }
def k9m15 : Method := { name := "checkBoundsBeginEnd", desc := "(II[B)V", sig := { parameters := [.int, .int, (.array .byte)], returnType := none }, accessFlags := 9, code := some k9c15 }
/-- java/lang/StringUTF16 -/
def k9 : Class := { plain "java/lang/StringUTF16" (some 0) with
  accessFlags := 48
  interfaces := #[]
  cf := some (fileOf pool9 12 #[.nestMembers #[627, 629, 369]] #[{ accessFlags := 0, nameIndex := 9, descriptorIndex := 10, attributes := #[] }, { accessFlags := 9, nameIndex := 109, descriptorIndex := 110, attributes := #[] }, { accessFlags := 9, nameIndex := 15, descriptorIndex := 16, attributes := #[] }, { accessFlags := 8, nameIndex := 113, descriptorIndex := 114, attributes := #[] }, { accessFlags := 8, nameIndex := 73, descriptorIndex := 74, attributes := #[] }, { accessFlags := 9, nameIndex := 50, descriptorIndex := 51, attributes := #[] }, { accessFlags := 10, nameIndex := 102, descriptorIndex := 91, attributes := #[] }, { accessFlags := 9, nameIndex := 102, descriptorIndex := 250, attributes := #[] }, { accessFlags := 9, nameIndex := 121, descriptorIndex := 122, attributes := #[] }, { accessFlags := 8, nameIndex := 261, descriptorIndex := 262, attributes := #[] }, { accessFlags := 9, nameIndex := 117, descriptorIndex := 122, attributes := #[] }, { accessFlags := 9, nameIndex := 117, descriptorIndex := 118, attributes := #[] }, { accessFlags := 9, nameIndex := 268, descriptorIndex := 231, attributes := #[] }, { accessFlags := 10, nameIndex := 230, descriptorIndex := 231, attributes := #[] }, { accessFlags := 10, nameIndex := 246, descriptorIndex := 231, attributes := #[] }, { accessFlags := 9, nameIndex := 98, descriptorIndex := 99, attributes := #[] }] 48 6 #[] #[{ accessFlags := 26, nameIndex := 61, descriptorIndex := 62, attributes := #[] }, { accessFlags := 26, nameIndex := 65, descriptorIndex := 62, attributes := #[] }, { accessFlags := 24, nameIndex := 430, descriptorIndex := 62, attributes := #[] }, { accessFlags := 4120, nameIndex := 46, descriptorIndex := 47, attributes := #[] }])
  fields := #[{ name := "HI_BYTE_SHIFT", type := .int, accessFlags := 26, slot := 0, constantValue := 0 }, { name := "LO_BYTE_SHIFT", type := .int, accessFlags := 26, slot := 1, constantValue := 0 }, { name := "MAX_LENGTH", type := .int, accessFlags := 24, slot := 2, constantValue := 0 }, { name := "$assertionsDisabled", type := .boolean, accessFlags := 4120, slot := 3, constantValue := 0 }]
  methods := #[k9m0, k9m1, k9m2, k9m3, k9m4, k9m5, k9m6, k9m7, k9m8, k9m9, k9m10, k9m11, k9m12, k9m13, k9m14, k9m15]
  instanceTypes := #[]
  staticTypes := #[.int, .int, .int, .boolean]
  resolved := Array.replicate 635 none
  statics := some 1 }

def pool10 : Array CpInfo := pool [(1, .class_ 2), (0, u "java/lang/Math"), (1, .class_ 6), (1, u "java/lang/Object"), (0, u "<init>"), (0, u "()V"), (89, .class_ 100), (1, u "java/lang/Math$RandomNumberGeneratorHolder"), (71, u "negativeZeroFloatBits"), (0, u "J"), (2, u "negativeZeroDoubleBits"), (21, u "max"), (2, u "min"), (43, u "$assertionsDisabled"), (0, u "Z"), (88, u "(II)I"), (2, u "twoToTheDoubleScaleDown"), (0, u "D"), (4, u "twoToTheDoubleScaleUp"), (9, u "E"), (3, u "PI"), (2, u "TAU"), (2, u "DEGREES_TO_RADIANS"), (0, u "RADIANS_TO_DEGREES")] 94

def k10m0 : Method := { name := "<init>", desc := "()V", sig := { parameters := [], returnType := none }, accessFlags := 2, code := none }
def k10c1 : Code := { maxStack := 2, maxLocals := 2, code := jdk_29_method_65_code, exceptionTable := #[], attributes := #[] }
def k10m1 : Method := { name := "max", desc := "(II)I", sig := { parameters := [.int, .int], returnType := some .int }, accessFlags := 9, code := some k10c1 }
def k10c2 : Code := { maxStack := 2, maxLocals := 2, code := jdk_29_method_69_code, exceptionTable := #[], attributes := #[] }
def k10m2 : Method := { name := "min", desc := "(II)I", sig := { parameters := [.int, .int], returnType := some .int }, accessFlags := 9, code := some k10c2 }
/-- java/lang/Math -/
def k10 : Class := { plain "java/lang/Math" (some 0) with
  accessFlags := 49
  interfaces := #[]
  cf := some (fileOf pool10 1 #[.nestMembers #[98]] #[{ accessFlags := 2, nameIndex := 7, descriptorIndex := 8, attributes := #[] }, { accessFlags := 9, nameIndex := 198, descriptorIndex := 335, attributes := #[] }, { accessFlags := 9, nameIndex := 201, descriptorIndex := 335, attributes := #[] }] 49 4 #[] #[{ accessFlags := 25, nameIndex := 354, descriptorIndex := 339, attributes := #[] }, { accessFlags := 25, nameIndex := 358, descriptorIndex := 339, attributes := #[] }, { accessFlags := 25, nameIndex := 361, descriptorIndex := 339, attributes := #[] }, { accessFlags := 26, nameIndex := 364, descriptorIndex := 339, attributes := #[] }, { accessFlags := 26, nameIndex := 365, descriptorIndex := 339, attributes := #[] }, { accessFlags := 26, nameIndex := 172, descriptorIndex := 173, attributes := #[] }, { accessFlags := 26, nameIndex := 176, descriptorIndex := 173, attributes := #[] }, { accessFlags := 8, nameIndex := 344, descriptorIndex := 339, attributes := #[] }, { accessFlags := 8, nameIndex := 338, descriptorIndex := 339, attributes := #[] }, { accessFlags := 4120, nameIndex := 245, descriptorIndex := 246, attributes := #[] }])
  fields := #[{ name := "E", type := .double, accessFlags := 25, slot := 0, constantValue := 0 }, { name := "PI", type := .double, accessFlags := 25, slot := 1, constantValue := 0 }, { name := "TAU", type := .double, accessFlags := 25, slot := 2, constantValue := 0 }, { name := "DEGREES_TO_RADIANS", type := .double, accessFlags := 26, slot := 3, constantValue := 0 }, { name := "RADIANS_TO_DEGREES", type := .double, accessFlags := 26, slot := 4, constantValue := 0 }, { name := "negativeZeroFloatBits", type := .long, accessFlags := 26, slot := 5, constantValue := 0 }, { name := "negativeZeroDoubleBits", type := .long, accessFlags := 26, slot := 6, constantValue := 0 }, { name := "twoToTheDoubleScaleUp", type := .double, accessFlags := 8, slot := 7, constantValue := 0 }, { name := "twoToTheDoubleScaleDown", type := .double, accessFlags := 8, slot := 8, constantValue := 0 }, { name := "$assertionsDisabled", type := .boolean, accessFlags := 4120, slot := 9, constantValue := 0 }]
  methods := #[k10m0, k10m1, k10m2]
  instanceTypes := #[]
  staticTypes := #[.double, .double, .double, .double, .double, .long, .long, .double, .double, .boolean]
  resolved := Array.replicate 460 none
  statics := none }

def pool11 : Array CpInfo := pool [(2, .class_ 4), (1, u "java/lang/Object"), (0, u "<init>"), (0, u "()V"), (16, .class_ 24), (0, u "java/lang/String"), (3, .class_ 29), (0, u "com/example/table_to_topic/tabletotopic/Text"), (8, .methodref 23 39), (0, .nameAndType 40 41), (0, u "length"), (0, u "()I"), (34, u "checkColumn"), (0, u "(Ljava/lang/String;Ljava/lang/String;Ljava/lang/String;I)V"), (0, .methodref 23 79), (0, .nameAndType 80 81), (0, u "codePointCount"), (0, u "(II)I"), (7, .methodref 23 90), (0, .nameAndType 91 92), (0, u "indexOf"), (0, u "(I)I"), (4, u "HIDDEN"), (0, u "Ljava/lang/String;")] 27

def k11m0 : Method := { name := "<init>", desc := "()V", sig := { parameters := [], returnType := none }, accessFlags := 2, code := none }
def k11c1 : Code := { maxStack := 7, maxLocals := 6, code := prog_16_method_5_code, exceptionTable := #[], attributes := #[] }
def k11m1 : Method := { name := "checkColumn", desc := "(Ljava/lang/String;Ljava/lang/String;Ljava/lang/String;I)V", sig := { parameters := [(.object "java/lang/String"), (.object "java/lang/String"), (.object "java/lang/String"), .int], returnType := none }, accessFlags := 8, code := some k11c1 }
/-- com/example/table_to_topic/tabletotopic/Text -/
def k11 : Class := { plain "com/example/table_to_topic/tabletotopic/Text" (some 0) with
  accessFlags := 32
  interfaces := #[]
  cf := some (fileOf pool11 28 #[] #[{ accessFlags := 2, nameIndex := 5, descriptorIndex := 6, attributes := #[] }, { accessFlags := 8, nameIndex := 76, descriptorIndex := 77, attributes := #[] }] 32 2 #[] #[{ accessFlags := 26, nameIndex := 97, descriptorIndex := 98, attributes := #[] }])
  fields := #[{ name := "HIDDEN", type := (.object "java/lang/String"), accessFlags := 26, slot := 0, constantValue := 0 }]
  methods := #[k11m0, k11m1]
  instanceTypes := #[]
  staticTypes := #[(.object "java/lang/String")]
  resolved := Array.replicate 126 none
  statics := none }

def pool12 : Array CpInfo := pool [(2, .class_ 4), (1, u "java/lang/Object"), (0, u "<init>"), (0, u "()V"), (35, .class_ 44), (1, u "java/util/Objects"), (61, .class_ 108), (1, u "jdk/internal/util/Preconditions"), (2, .methodref 106 112), (0, .nameAndType 113 114), (0, u "checkFromToIndex"), (0, u "(IIILjava/util/function/BiFunction;)I"), (60, u "(III)I")] 8

def k12m0 : Method := { name := "<init>", desc := "()V", sig := { parameters := [], returnType := none }, accessFlags := 2, code := none }
def k12c1 : Code := { maxStack := 4, maxLocals := 3, code := jdk_31_method_18_code, exceptionTable := #[], attributes := #[] }
def k12m1 : Method := { name := "checkFromToIndex", desc := "(III)I", sig := { parameters := [.int, .int, .int], returnType := some .int }, accessFlags := 9, code := some k12c1 }
/-- java/util/Objects -/
def k12 : Class := { plain "java/util/Objects" (some 0) with
  accessFlags := 49
  interfaces := #[]
  cf := some (fileOf pool12 42 #[] #[{ accessFlags := 2, nameIndex := 5, descriptorIndex := 6, attributes := #[] }, { accessFlags := 9, nameIndex := 113, descriptorIndex := 175, attributes := #[] }] 49 2 #[] #[])
  fields := #[]
  methods := #[k12m0, k12m1]
  instanceTypes := #[]
  staticTypes := #[]
  resolved := Array.replicate 184 none
  statics := none }

def pool13 : Array CpInfo := pool [(2, .class_ 4), (1, u "java/lang/Object"), (0, u "<init>"), (0, u "()V"), (17, .class_ 26), (1, u "jdk/internal/util/Preconditions"), (20, u "checkFromToIndex"), (7, .class_ 56), (0, u "jdk/internal/util/Preconditions$4"), (57, .class_ 115), (0, u "jdk/internal/util/Preconditions$1"), (7, u "SIOOBE_FORMATTER"), (0, u "Ljava/util/function/BiFunction;"), (0, .class_ 126), (0, u "jdk/internal/util/Preconditions$2"), (3, u "AIOOBE_FORMATTER"), (0, .class_ 132), (0, u "jdk/internal/util/Preconditions$3"), (3, u "IOOBE_FORMATTER"), (46, u "(IIILjava/util/function/BiFunction;)I")] 10

def k13m0 : Method := { name := "<init>", desc := "()V", sig := { parameters := [], returnType := none }, accessFlags := 1, code := none }
def k13c1 : Code := { maxStack := 4, maxLocals := 4, code := jdk_41_method_12_code, exceptionTable := #[], attributes := #[] }
def k13m1 : Method := { name := "checkFromToIndex", desc := "(IIILjava/util/function/BiFunction;)I", sig := { parameters := [.int, .int, .int, (.object "java/util/function/BiFunction")], returnType := some .int }, accessFlags := 9, code := some k13c1 }
/-- jdk/internal/util/Preconditions -/
def k13 : Class := { plain "jdk/internal/util/Preconditions" (some 0) with
  accessFlags := 33
  interfaces := #[]
  cf := some (fileOf pool13 24 #[.nestMembers #[55, 131, 125, 114]] #[{ accessFlags := 1, nameIndex := 5, descriptorIndex := 6, attributes := #[] }, { accessFlags := 9, nameIndex := 47, descriptorIndex := 183, attributes := #[] }] 33 2 #[] #[{ accessFlags := 25, nameIndex := 123, descriptorIndex := 124, attributes := #[] }, { accessFlags := 25, nameIndex := 130, descriptorIndex := 124, attributes := #[] }, { accessFlags := 25, nameIndex := 136, descriptorIndex := 124, attributes := #[] }])
  fields := #[{ name := "SIOOBE_FORMATTER", type := (.object "java/util/function/BiFunction"), accessFlags := 25, slot := 0, constantValue := 0 }, { name := "AIOOBE_FORMATTER", type := (.object "java/util/function/BiFunction"), accessFlags := 25, slot := 1, constantValue := 0 }, { name := "IOOBE_FORMATTER", type := (.object "java/util/function/BiFunction"), accessFlags := 25, slot := 2, constantValue := 0 }]
  methods := #[k13m0, k13m1]
  instanceTypes := #[]
  staticTypes := #[(.object "java/util/function/BiFunction"), (.object "java/util/function/BiFunction"), (.object "java/util/function/BiFunction")]
  resolved := Array.replicate 194 none
  statics := some 2 }

def pool14 : Array CpInfo := pool [(1, .class_ 2), (0, u "java/lang/Character"), (18, u "value"), (0, u "C"), (19, .class_ 44), (1, u "java/lang/Object"), (3, .class_ 50), (1, u "java/lang/Character$CharacterCache"), (24, .integer 55296), (0, .integer 56320), (0, .integer 57344), (2, u "isHighSurrogate"), (0, u "(C)Z"), (2, u "isLowSurrogate"), (199, u "$assertionsDisabled"), (0, u "Z"), (21, .class_ 309), (1, u "java/lang/Character$UnicodeBlock"), (73, u "TYPE"), (0, u "Ljava/lang/Class;"), (0, .class_ 386), (0, u "java/io/Serializable"), (0, .class_ 388), (0, u "java/lang/Comparable"), (0, .class_ 390), (0, u "java/lang/constant/Constable"), (0, u "MIN_RADIX"), (0, u "I"), (2, u "MAX_RADIX"), (1, u "MIN_VALUE"), (1, u "MAX_VALUE"), (3, u "UNASSIGNED"), (0, u "B"), (0, u "UPPERCASE_LETTER"), (1, u "LOWERCASE_LETTER"), (0, u "TITLECASE_LETTER"), (1, u "MODIFIER_LETTER"), (1, u "OTHER_LETTER"), (1, u "NON_SPACING_MARK"), (1, u "ENCLOSING_MARK"), (1, u "COMBINING_SPACING_MARK"), (1, u "DECIMAL_DIGIT_NUMBER"), (1, u "LETTER_NUMBER"), (1, u "OTHER_NUMBER"), (1, u "SPACE_SEPARATOR"), (1, u "LINE_SEPARATOR"), (1, u "PARAGRAPH_SEPARATOR"), (1, u "CONTROL"), (1, u "FORMAT"), (1, u "PRIVATE_USE"), (1, u "SURROGATE"), (1, u "DASH_PUNCTUATION"), (1, u "START_PUNCTUATION"), (1, u "END_PUNCTUATION"), (1, u "CONNECTOR_PUNCTUATION"), (1, u "OTHER_PUNCTUATION"), (1, u "MATH_SYMBOL"), (1, u "CURRENCY_SYMBOL"), (1, u "MODIFIER_SYMBOL"), (1, u "OTHER_SYMBOL"), (1, u "INITIAL_QUOTE_PUNCTUATION"), (1, u "FINAL_QUOTE_PUNCTUATION"), (1, u "ERROR"), (1, u "DIRECTIONALITY_UNDEFINED"), (0, u "DIRECTIONALITY_LEFT_TO_RIGHT"), (0, u "DIRECTIONALITY_RIGHT_TO_LEFT"), (0, u "DIRECTIONALITY_RIGHT_TO_LEFT_ARABIC"), (0, u "DIRECTIONALITY_EUROPEAN_NUMBER"), (0, u "DIRECTIONALITY_EUROPEAN_NUMBER_SEPARATOR"), (0, u "DIRECTIONALITY_EUROPEAN_NUMBER_TERMINATOR"), (0, u "DIRECTIONALITY_ARABIC_NUMBER"), (0, u "DIRECTIONALITY_COMMON_NUMBER_SEPARATOR"), (0, u "DIRECTIONALITY_NONSPACING_MARK"), (0, u "DIRECTIONALITY_BOUNDARY_NEUTRAL"), (0, u "DIRECTIONALITY_PARAGRAPH_SEPARATOR"), (0, u "DIRECTIONALITY_SEGMENT_SEPARATOR"), (0, u "DIRECTIONALITY_WHITESPACE"), (0, u "DIRECTIONALITY_OTHER_NEUTRALS"), (0, u "DIRECTIONALITY_LEFT_TO_RIGHT_EMBEDDING"), (0, u "DIRECTIONALITY_LEFT_TO_RIGHT_OVERRIDE"), (0, u "DIRECTIONALITY_RIGHT_TO_LEFT_EMBEDDING"), (0, u "DIRECTIONALITY_RIGHT_TO_LEFT_OVERRIDE"), (1, u "DIRECTIONALITY_POP_DIRECTIONAL_FORMAT"), (0, u "DIRECTIONALITY_LEFT_TO_RIGHT_ISOLATE"), (0, u "DIRECTIONALITY_RIGHT_TO_LEFT_ISOLATE"), (0, u "DIRECTIONALITY_FIRST_STRONG_ISOLATE"), (0, u "DIRECTIONALITY_POP_DIRECTIONAL_ISOLATE"), (0, u "MIN_HIGH_SURROGATE"), (0, u "MAX_HIGH_SURROGATE"), (1, u "MIN_LOW_SURROGATE"), (0, u "MAX_LOW_SURROGATE"), (1, u "MIN_SURROGATE"), (0, u "MAX_SURROGATE"), (0, u "MIN_SUPPLEMENTARY_CODE_POINT"), (0, u "MIN_CODE_POINT"), (0, u "MAX_CODE_POINT"), (1, u "serialVersionUID"), (0, u "J"), (2, u "SIZE"), (0, u "BYTES"), (88, .class_ 596), (0, u "java/lang/Character$UnicodeScript"), (0, .class_ 598), (0, u "java/lang/Character$Subset")] 5

def k14c0 : Code := { maxStack := 2, maxLocals := 1, code := jdk_89_method_14_code, exceptionTable := #[], attributes := #[] }
def k14m0 : Method := { name := "isHighSurrogate", desc := "(C)Z", sig := { parameters := [.char], returnType := some .boolean }, accessFlags := 9, code := some k14c0 }
def k14c1 : Code := { maxStack := 2, maxLocals := 1, code := jdk_89_method_15_code, exceptionTable := #[], attributes := #[] }
def k14m1 : Method := { name := "isLowSurrogate", desc := "(C)Z", sig := { parameters := [.char], returnType := some .boolean }, accessFlags := 9, code := some k14c1 }
/-- java/lang/Character -/
def k14 : Class := { plain "java/lang/Character" (some 0) with
  accessFlags := 49
  interfaces := #[2, 3, 5]
  cf := some (fileOf pool14 1 #[.nestMembers #[48, 595, 307, 597]] #[{ accessFlags := 9, nameIndex := 80, descriptorIndex := 81, attributes := #[] }, { accessFlags := 9, nameIndex := 84, descriptorIndex := 81, attributes := #[] }] 49 42 #[385, 387, 389] #[{ accessFlags := 25, nameIndex := 391, descriptorIndex := 392, attributes := #[] }, { accessFlags := 25, nameIndex := 395, descriptorIndex := 392, attributes := #[] }, { accessFlags := 25, nameIndex := 397, descriptorIndex := 22, attributes := #[] }, { accessFlags := 25, nameIndex := 399, descriptorIndex := 22, attributes := #[] }, { accessFlags := 25, nameIndex := 383, descriptorIndex := 384, attributes := #[] }, { accessFlags := 25, nameIndex := 403, descriptorIndex := 404, attributes := #[] }, { accessFlags := 25, nameIndex := 405, descriptorIndex := 404, attributes := #[] }, { accessFlags := 25, nameIndex := 407, descriptorIndex := 404, attributes := #[] }, { accessFlags := 25, nameIndex := 408, descriptorIndex := 404, attributes := #[] }, { accessFlags := 25, nameIndex := 410, descriptorIndex := 404, attributes := #[] }, { accessFlags := 25, nameIndex := 412, descriptorIndex := 404, attributes := #[] }, { accessFlags := 25, nameIndex := 414, descriptorIndex := 404, attributes := #[] }, { accessFlags := 25, nameIndex := 416, descriptorIndex := 404, attributes := #[] }, { accessFlags := 25, nameIndex := 418, descriptorIndex := 404, attributes := #[] }, { accessFlags := 25, nameIndex := 420, descriptorIndex := 404, attributes := #[] }, { accessFlags := 25, nameIndex := 422, descriptorIndex := 404, attributes := #[] }, { accessFlags := 25, nameIndex := 424, descriptorIndex := 404, attributes := #[] }, { accessFlags := 25, nameIndex := 426, descriptorIndex := 404, attributes := #[] }, { accessFlags := 25, nameIndex := 428, descriptorIndex := 404, attributes := #[] }, { accessFlags := 25, nameIndex := 430, descriptorIndex := 404, attributes := #[] }, { accessFlags := 25, nameIndex := 432, descriptorIndex := 404, attributes := #[] }, { accessFlags := 25, nameIndex := 434, descriptorIndex := 404, attributes := #[] }, { accessFlags := 25, nameIndex := 436, descriptorIndex := 404, attributes := #[] }, { accessFlags := 25, nameIndex := 438, descriptorIndex := 404, attributes := #[] }, { accessFlags := 25, nameIndex := 440, descriptorIndex := 404, attributes := #[] }, { accessFlags := 25, nameIndex := 442, descriptorIndex := 404, attributes := #[] }, { accessFlags := 25, nameIndex := 444, descriptorIndex := 404, attributes := #[] }, { accessFlags := 25, nameIndex := 446, descriptorIndex := 404, attributes := #[] }, { accessFlags := 25, nameIndex := 448, descriptorIndex := 404, attributes := #[] }, { accessFlags := 25, nameIndex := 450, descriptorIndex := 404, attributes := #[] }, { accessFlags := 25, nameIndex := 452, descriptorIndex := 404, attributes := #[] }, { accessFlags := 25, nameIndex := 454, descriptorIndex := 404, attributes := #[] }, { accessFlags := 25, nameIndex := 456, descriptorIndex := 404, attributes := #[] }, { accessFlags := 25, nameIndex := 458, descriptorIndex := 404, attributes := #[] }, { accessFlags := 25, nameIndex := 460, descriptorIndex := 404, attributes := #[] }, { accessFlags := 24, nameIndex := 462, descriptorIndex := 392, attributes := #[] }, { accessFlags := 25, nameIndex := 464, descriptorIndex := 404, attributes := #[] }, { accessFlags := 25, nameIndex := 465, descriptorIndex := 404, attributes := #[] }, { accessFlags := 25, nameIndex := 466, descriptorIndex := 404, attributes := #[] }, { accessFlags := 25, nameIndex := 467, descriptorIndex := 404, attributes := #[] }, { accessFlags := 25, nameIndex := 468, descriptorIndex := 404, attributes := #[] }, { accessFlags := 25, nameIndex := 469, descriptorIndex := 404, attributes := #[] }, { accessFlags := 25, nameIndex := 470, descriptorIndex := 404, attributes := #[] }, { accessFlags := 25, nameIndex := 471, descriptorIndex := 404, attributes := #[] }, { accessFlags := 25, nameIndex := 472, descriptorIndex := 404, attributes := #[] }, { accessFlags := 25, nameIndex := 473, descriptorIndex := 404, attributes := #[] }, { accessFlags := 25, nameIndex := 474, descriptorIndex := 404, attributes := #[] }, { accessFlags := 25, nameIndex := 475, descriptorIndex := 404, attributes := #[] }, { accessFlags := 25, nameIndex := 476, descriptorIndex := 404, attributes := #[] }, { accessFlags := 25, nameIndex := 477, descriptorIndex := 404, attributes := #[] }, { accessFlags := 25, nameIndex := 478, descriptorIndex := 404, attributes := #[] }, { accessFlags := 25, nameIndex := 479, descriptorIndex := 404, attributes := #[] }, { accessFlags := 25, nameIndex := 480, descriptorIndex := 404, attributes := #[] }, { accessFlags := 25, nameIndex := 481, descriptorIndex := 404, attributes := #[] }, { accessFlags := 25, nameIndex := 482, descriptorIndex := 404, attributes := #[] }, { accessFlags := 25, nameIndex := 484, descriptorIndex := 404, attributes := #[] }, { accessFlags := 25, nameIndex := 485, descriptorIndex := 404, attributes := #[] }, { accessFlags := 25, nameIndex := 486, descriptorIndex := 404, attributes := #[] }, { accessFlags := 25, nameIndex := 487, descriptorIndex := 404, attributes := #[] }, { accessFlags := 25, nameIndex := 488, descriptorIndex := 404, attributes := #[] }, { accessFlags := 25, nameIndex := 489, descriptorIndex := 22, attributes := #[] }, { accessFlags := 25, nameIndex := 490, descriptorIndex := 22, attributes := #[] }, { accessFlags := 25, nameIndex := 492, descriptorIndex := 22, attributes := #[] }, { accessFlags := 25, nameIndex := 493, descriptorIndex := 22, attributes := #[] }, { accessFlags := 25, nameIndex := 495, descriptorIndex := 22, attributes := #[] }, { accessFlags := 25, nameIndex := 496, descriptorIndex := 22, attributes := #[] }, { accessFlags := 25, nameIndex := 497, descriptorIndex := 392, attributes := #[] }, { accessFlags := 25, nameIndex := 498, descriptorIndex := 392, attributes := #[] }, { accessFlags := 25, nameIndex := 499, descriptorIndex := 392, attributes := #[] }, { accessFlags := 18, nameIndex := 21, descriptorIndex := 22, attributes := #[] }, { accessFlags := 26, nameIndex := 501, descriptorIndex := 502, attributes := #[] }, { accessFlags := 25, nameIndex := 505, descriptorIndex := 392, attributes := #[] }, { accessFlags := 25, nameIndex := 506, descriptorIndex := 392, attributes := #[] }, { accessFlags := 4120, nameIndex := 284, descriptorIndex := 285, attributes := #[] }])
  fields := #[{ name := "MIN_RADIX", type := .int, accessFlags := 25, slot := 0, constantValue := 0 }, { name := "MAX_RADIX", type := .int, accessFlags := 25, slot := 1, constantValue := 0 }, { name := "MIN_VALUE", type := .char, accessFlags := 25, slot := 2, constantValue := 0 }, { name := "MAX_VALUE", type := .char, accessFlags := 25, slot := 3, constantValue := 0 }, { name := "TYPE", type := (.object "java/lang/Class"), accessFlags := 25, slot := 4, constantValue := 0 }, { name := "UNASSIGNED", type := .byte, accessFlags := 25, slot := 5, constantValue := 0 }, { name := "UPPERCASE_LETTER", type := .byte, accessFlags := 25, slot := 6, constantValue := 0 }, { name := "LOWERCASE_LETTER", type := .byte, accessFlags := 25, slot := 7, constantValue := 0 }, { name := "TITLECASE_LETTER", type := .byte, accessFlags := 25, slot := 8, constantValue := 0 }, { name := "MODIFIER_LETTER", type := .byte, accessFlags := 25, slot := 9, constantValue := 0 }, { name := "OTHER_LETTER", type := .byte, accessFlags := 25, slot := 10, constantValue := 0 }, { name := "NON_SPACING_MARK", type := .byte, accessFlags := 25, slot := 11, constantValue := 0 }, { name := "ENCLOSING_MARK", type := .byte, accessFlags := 25, slot := 12, constantValue := 0 }, { name := "COMBINING_SPACING_MARK", type := .byte, accessFlags := 25, slot := 13, constantValue := 0 }, { name := "DECIMAL_DIGIT_NUMBER", type := .byte, accessFlags := 25, slot := 14, constantValue := 0 }, { name := "LETTER_NUMBER", type := .byte, accessFlags := 25, slot := 15, constantValue := 0 }, { name := "OTHER_NUMBER", type := .byte, accessFlags := 25, slot := 16, constantValue := 0 }, { name := "SPACE_SEPARATOR", type := .byte, accessFlags := 25, slot := 17, constantValue := 0 }, { name := "LINE_SEPARATOR", type := .byte, accessFlags := 25, slot := 18, constantValue := 0 }, { name := "PARAGRAPH_SEPARATOR", type := .byte, accessFlags := 25, slot := 19, constantValue := 0 }, { name := "CONTROL", type := .byte, accessFlags := 25, slot := 20, constantValue := 0 }, { name := "FORMAT", type := .byte, accessFlags := 25, slot := 21, constantValue := 0 }, { name := "PRIVATE_USE", type := .byte, accessFlags := 25, slot := 22, constantValue := 0 }, { name := "SURROGATE", type := .byte, accessFlags := 25, slot := 23, constantValue := 0 }, { name := "DASH_PUNCTUATION", type := .byte, accessFlags := 25, slot := 24, constantValue := 0 }, { name := "START_PUNCTUATION", type := .byte, accessFlags := 25, slot := 25, constantValue := 0 }, { name := "END_PUNCTUATION", type := .byte, accessFlags := 25, slot := 26, constantValue := 0 }, { name := "CONNECTOR_PUNCTUATION", type := .byte, accessFlags := 25, slot := 27, constantValue := 0 }, { name := "OTHER_PUNCTUATION", type := .byte, accessFlags := 25, slot := 28, constantValue := 0 }, { name := "MATH_SYMBOL", type := .byte, accessFlags := 25, slot := 29, constantValue := 0 }, { name := "CURRENCY_SYMBOL", type := .byte, accessFlags := 25, slot := 30, constantValue := 0 }, { name := "MODIFIER_SYMBOL", type := .byte, accessFlags := 25, slot := 31, constantValue := 0 }, { name := "OTHER_SYMBOL", type := .byte, accessFlags := 25, slot := 32, constantValue := 0 }, { name := "INITIAL_QUOTE_PUNCTUATION", type := .byte, accessFlags := 25, slot := 33, constantValue := 0 }, { name := "FINAL_QUOTE_PUNCTUATION", type := .byte, accessFlags := 25, slot := 34, constantValue := 0 }, { name := "ERROR", type := .int, accessFlags := 24, slot := 35, constantValue := 0 }, { name := "DIRECTIONALITY_UNDEFINED", type := .byte, accessFlags := 25, slot := 36, constantValue := 0 }, { name := "DIRECTIONALITY_LEFT_TO_RIGHT", type := .byte, accessFlags := 25, slot := 37, constantValue := 0 }, { name := "DIRECTIONALITY_RIGHT_TO_LEFT", type := .byte, accessFlags := 25, slot := 38, constantValue := 0 }, { name := "DIRECTIONALITY_RIGHT_TO_LEFT_ARABIC", type := .byte, accessFlags := 25, slot := 39, constantValue := 0 }, { name := "DIRECTIONALITY_EUROPEAN_NUMBER", type := .byte, accessFlags := 25, slot := 40, constantValue := 0 }, { name := "DIRECTIONALITY_EUROPEAN_NUMBER_SEPARATOR", type := .byte, accessFlags := 25, slot := 41, constantValue := 0 }, { name := "DIRECTIONALITY_EUROPEAN_NUMBER_TERMINATOR", type := .byte, accessFlags := 25, slot := 42, constantValue := 0 }, { name := "DIRECTIONALITY_ARABIC_NUMBER", type := .byte, accessFlags := 25, slot := 43, constantValue := 0 }, { name := "DIRECTIONALITY_COMMON_NUMBER_SEPARATOR", type := .byte, accessFlags := 25, slot := 44, constantValue := 0 }, { name := "DIRECTIONALITY_NONSPACING_MARK", type := .byte, accessFlags := 25, slot := 45, constantValue := 0 }, { name := "DIRECTIONALITY_BOUNDARY_NEUTRAL", type := .byte, accessFlags := 25, slot := 46, constantValue := 0 }, { name := "DIRECTIONALITY_PARAGRAPH_SEPARATOR", type := .byte, accessFlags := 25, slot := 47, constantValue := 0 }, { name := "DIRECTIONALITY_SEGMENT_SEPARATOR", type := .byte, accessFlags := 25, slot := 48, constantValue := 0 }, { name := "DIRECTIONALITY_WHITESPACE", type := .byte, accessFlags := 25, slot := 49, constantValue := 0 }, { name := "DIRECTIONALITY_OTHER_NEUTRALS", type := .byte, accessFlags := 25, slot := 50, constantValue := 0 }, { name := "DIRECTIONALITY_LEFT_TO_RIGHT_EMBEDDING", type := .byte, accessFlags := 25, slot := 51, constantValue := 0 }, { name := "DIRECTIONALITY_LEFT_TO_RIGHT_OVERRIDE", type := .byte, accessFlags := 25, slot := 52, constantValue := 0 }, { name := "DIRECTIONALITY_RIGHT_TO_LEFT_EMBEDDING", type := .byte, accessFlags := 25, slot := 53, constantValue := 0 }, { name := "DIRECTIONALITY_RIGHT_TO_LEFT_OVERRIDE", type := .byte, accessFlags := 25, slot := 54, constantValue := 0 }, { name := "DIRECTIONALITY_POP_DIRECTIONAL_FORMAT", type := .byte, accessFlags := 25, slot := 55, constantValue := 0 }, { name := "DIRECTIONALITY_LEFT_TO_RIGHT_ISOLATE", type := .byte, accessFlags := 25, slot := 56, constantValue := 0 }, { name := "DIRECTIONALITY_RIGHT_TO_LEFT_ISOLATE", type := .byte, accessFlags := 25, slot := 57, constantValue := 0 }, { name := "DIRECTIONALITY_FIRST_STRONG_ISOLATE", type := .byte, accessFlags := 25, slot := 58, constantValue := 0 }, { name := "DIRECTIONALITY_POP_DIRECTIONAL_ISOLATE", type := .byte, accessFlags := 25, slot := 59, constantValue := 0 }, { name := "MIN_HIGH_SURROGATE", type := .char, accessFlags := 25, slot := 60, constantValue := 0 }, { name := "MAX_HIGH_SURROGATE", type := .char, accessFlags := 25, slot := 61, constantValue := 0 }, { name := "MIN_LOW_SURROGATE", type := .char, accessFlags := 25, slot := 62, constantValue := 0 }, { name := "MAX_LOW_SURROGATE", type := .char, accessFlags := 25, slot := 63, constantValue := 0 }, { name := "MIN_SURROGATE", type := .char, accessFlags := 25, slot := 64, constantValue := 0 }, { name := "MAX_SURROGATE", type := .char, accessFlags := 25, slot := 65, constantValue := 0 }, { name := "MIN_SUPPLEMENTARY_CODE_POINT", type := .int, accessFlags := 25, slot := 66, constantValue := 0 }, { name := "MIN_CODE_POINT", type := .int, accessFlags := 25, slot := 67, constantValue := 0 }, { name := "MAX_CODE_POINT", type := .int, accessFlags := 25, slot := 68, constantValue := 0 }, { name := "value", type := .char, accessFlags := 18, slot := 0, constantValue := 0 }, { name := "serialVersionUID", type := .long, accessFlags := 26, slot := 69, constantValue := 0 }, { name := "SIZE", type := .int, accessFlags := 25, slot := 70, constantValue := 0 }, { name := "BYTES", type := .int, accessFlags := 25, slot := 71, constantValue := 0 }, { name := "$assertionsDisabled", type := .boolean, accessFlags := 4120, slot := 72, constantValue := 0 }]
  methods := #[k14m0, k14m1]
  instanceTypes := #[.char]
  staticTypes := #[.int, .int, .char, .char, (.object "java/lang/Class"), .byte, .byte, .byte, .byte, .byte, .byte, .byte, .byte, .byte, .byte, .byte, .byte, .byte, .byte, .byte, .byte, .byte, .byte, .byte, .byte, .byte, .byte, .byte, .byte, .byte, .byte, .byte, .byte, .byte, .byte, .int, .byte, .byte, .byte, .byte, .byte, .byte, .byte, .byte, .byte, .byte, .byte, .byte, .byte, .byte, .byte, .byte, .byte, .byte, .byte, .byte, .byte, .byte, .byte, .byte, .char, .char, .char, .char, .char, .char, .int, .int, .int, .long, .int, .int, .boolean]
  resolved := Array.replicate 604 none
  statics := none }

def pool15 : Array CpInfo := pool [(9, u "<init>"), (6, .class_ 18), (1, u "java/lang/Object"), (0, u "()V"), (1, .class_ 23), (1, u "jdk/internal/util/ArraysSupport"), (0, u "LOG2_ARRAY_LONG_INDEX_SCALE"), (0, u "I"), (2, u "U"), (0, u "Ljdk/internal/misc/Unsafe;"), (8, u "BIG_ENDIAN"), (0, u "Z"), (8, u "LOG2_BYTE_BIT_SIZE"), (4, u "LOG2_ARRAY_INT_INDEX_SCALE"), (54, u "JLA"), (0, u "Ljdk/internal/access/JavaLangAccess;"), (11, u "LOG2_ARRAY_BOOLEAN_INDEX_SCALE"), (9, u "LOG2_ARRAY_BYTE_INDEX_SCALE"), (5, u "LOG2_ARRAY_CHAR_INDEX_SCALE"), (5, u "LOG2_ARRAY_SHORT_INDEX_SCALE"), (18, u "LOG2_ARRAY_FLOAT_INDEX_SCALE"), (24, u "LOG2_ARRAY_DOUBLE_INDEX_SCALE"), (89, u "T_BOOLEAN"), (2, u "T_CHAR"), (1, u "T_FLOAT"), (1, u "T_DOUBLE"), (1, u "T_BYTE"), (1, u "T_SHORT"), (1, u "T_INT"), (1, u "T_LONG"), (1, u "SOFT_MAX_ARRAY_LENGTH")] 83

def k15m0 : Method := { name := "<init>", desc := "()V", sig := { parameters := [], returnType := none }, accessFlags := 2, code := none }
/-- jdk/internal/util/ArraysSupport -/
def k15 : Class := { plain "jdk/internal/util/ArraysSupport" (some 0) with
  accessFlags := 33
  interfaces := #[]
  cf := some (fileOf pool15 21 #[] #[{ accessFlags := 2, nameIndex := 9, descriptorIndex := 19, attributes := #[] }] 33 16 #[] #[{ accessFlags := 24, nameIndex := 28, descriptorIndex := 29, attributes := #[] }, { accessFlags := 26, nameIndex := 38, descriptorIndex := 39, attributes := #[] }, { accessFlags := 25, nameIndex := 121, descriptorIndex := 25, attributes := #[] }, { accessFlags := 25, nameIndex := 131, descriptorIndex := 25, attributes := #[] }, { accessFlags := 25, nameIndex := 137, descriptorIndex := 25, attributes := #[] }, { accessFlags := 25, nameIndex := 143, descriptorIndex := 25, attributes := #[] }, { accessFlags := 25, nameIndex := 53, descriptorIndex := 25, attributes := #[] }, { accessFlags := 25, nameIndex := 24, descriptorIndex := 25, attributes := #[] }, { accessFlags := 25, nameIndex := 162, descriptorIndex := 25, attributes := #[] }, { accessFlags := 25, nameIndex := 187, descriptorIndex := 25, attributes := #[] }, { accessFlags := 26, nameIndex := 48, descriptorIndex := 25, attributes := #[] }, { accessFlags := 25, nameIndex := 277, descriptorIndex := 25, attributes := #[] }, { accessFlags := 25, nameIndex := 280, descriptorIndex := 25, attributes := #[] }, { accessFlags := 25, nameIndex := 282, descriptorIndex := 25, attributes := #[] }, { accessFlags := 25, nameIndex := 284, descriptorIndex := 25, attributes := #[] }, { accessFlags := 25, nameIndex := 286, descriptorIndex := 25, attributes := #[] }, { accessFlags := 25, nameIndex := 288, descriptorIndex := 25, attributes := #[] }, { accessFlags := 25, nameIndex := 290, descriptorIndex := 25, attributes := #[] }, { accessFlags := 25, nameIndex := 292, descriptorIndex := 25, attributes := #[] }, { accessFlags := 26, nameIndex := 108, descriptorIndex := 109, attributes := #[] }, { accessFlags := 25, nameIndex := 294, descriptorIndex := 25, attributes := #[] }])
  fields := #[{ name := "U", type := (.object "jdk/internal/misc/Unsafe"), accessFlags := 24, slot := 0, constantValue := 0 }, { name := "BIG_ENDIAN", type := .boolean, accessFlags := 26, slot := 1, constantValue := 0 }, { name := "LOG2_ARRAY_BOOLEAN_INDEX_SCALE", type := .int, accessFlags := 25, slot := 2, constantValue := 0 }, { name := "LOG2_ARRAY_BYTE_INDEX_SCALE", type := .int, accessFlags := 25, slot := 3, constantValue := 0 }, { name := "LOG2_ARRAY_CHAR_INDEX_SCALE", type := .int, accessFlags := 25, slot := 4, constantValue := 0 }, { name := "LOG2_ARRAY_SHORT_INDEX_SCALE", type := .int, accessFlags := 25, slot := 5, constantValue := 0 }, { name := "LOG2_ARRAY_INT_INDEX_SCALE", type := .int, accessFlags := 25, slot := 6, constantValue := 0 }, { name := "LOG2_ARRAY_LONG_INDEX_SCALE", type := .int, accessFlags := 25, slot := 7, constantValue := 0 }, { name := "LOG2_ARRAY_FLOAT_INDEX_SCALE", type := .int, accessFlags := 25, slot := 8, constantValue := 0 }, { name := "LOG2_ARRAY_DOUBLE_INDEX_SCALE", type := .int, accessFlags := 25, slot := 9, constantValue := 0 }, { name := "LOG2_BYTE_BIT_SIZE", type := .int, accessFlags := 26, slot := 10, constantValue := 0 }, { name := "T_BOOLEAN", type := .int, accessFlags := 25, slot := 11, constantValue := 0 }, { name := "T_CHAR", type := .int, accessFlags := 25, slot := 12, constantValue := 0 }, { name := "T_FLOAT", type := .int, accessFlags := 25, slot := 13, constantValue := 0 }, { name := "T_DOUBLE", type := .int, accessFlags := 25, slot := 14, constantValue := 0 }, { name := "T_BYTE", type := .int, accessFlags := 25, slot := 15, constantValue := 0 }, { name := "T_SHORT", type := .int, accessFlags := 25, slot := 16, constantValue := 0 }, { name := "T_INT", type := .int, accessFlags := 25, slot := 17, constantValue := 0 }, { name := "T_LONG", type := .int, accessFlags := 25, slot := 18, constantValue := 0 }, { name := "JLA", type := (.object "jdk/internal/access/JavaLangAccess"), accessFlags := 26, slot := 19, constantValue := 0 }, { name := "SOFT_MAX_ARRAY_LENGTH", type := .int, accessFlags := 25, slot := 20, constantValue := 0 }]
  methods := #[k15m0]
  instanceTypes := #[]
  staticTypes := #[(.object "jdk/internal/misc/Unsafe"), .boolean, .int, .int, .int, .int, .int, .int, .int, .int, .int, .int, .int, .int, .int, .int, .int, .int, .int, (.object "jdk/internal/access/JavaLangAccess"), .int]
  resolved := Array.replicate 378 none
  statics := none }

def pool16 : Array CpInfo := pool [(1, u "java/lang/Cloneable"), (0, .class_ 1), (0, u "java/lang/Object"), (0, .class_ 3)] 3

/-- java/lang/Cloneable -/
def k16 : Class := { plain "java/lang/Cloneable" (some 0) with
  accessFlags := 1537
  interfaces := #[]
  cf := some (fileOf pool16 2 #[] #[] 1537 4 #[] #[])
  fields := #[]
  methods := #[]
  instanceTypes := #[]
  staticTypes := #[]
  resolved := Array.replicate 8 none
  statics := none }

/-- the primitive byte -/
def k17 : Class := { plain "byte" none with kind := .primitive 'B', accessFlags := 0x411 }
/-- [B -/
def k18 : Class := { plain "[B" (some 0) with kind := .array 17 .byte, interfaces := #[16, 2], accessFlags := 1041 }

/-- the primitive char -/
def k19 : Class := { plain "char" none with kind := .primitive 'C', accessFlags := 0x411 }
/-- [C -/
def k20 : Class := { plain "[C" (some 0) with kind := .array 19 .char, interfaces := #[16, 2], accessFlags := 1041 }

/-- the primitive int -/
def k21 : Class := { plain "int" none with kind := .primitive 'I', accessFlags := 0x411 }
/-- [I -/
def k22 : Class := { plain "[I" (some 0) with kind := .array 21 .int, interfaces := #[16, 2], accessFlags := 1041 }

def heap : Heap := #[{ cls := 7, slots := #[.long 0, .int 1, .null, .int 0, .null, .int 0, .int 0], vm := .statics 7 },
  { cls := 9, slots := #[.int 0, .int 8, .int 0, .int 1], vm := .statics 9 },
  { cls := 13, slots := #[.null, .null, .null], vm := .statics 13 }]
def classes : Array Class := #[k0, k1, k2, k3, k4, k5, k6, k7, k8, k9, k10, k11, k12, k13, k14, k15, k16, k17, k18, k19, k20, k21, k22]
def interned : List (Array UInt16 × Addr) := []
def slotsUsed : Nat := 14
def theMethod : MethodId := ⟨1, 1⟩
def args0 : Array Value := #[.int 5, .int 6, .int 7, .int 8, .int 9, .int 10]
def aboutOver (below : List Frame) : State where
  vm := { classes := classes, interned := interned.toArray }
  heap := heap
  slotsUsed := slotsUsed
  threads := #[{ frames := .invoking theMethod args0 :: below }]
def below0 : List Frame := [.native { method := ⟨0, 0⟩, args := #[] }]
def about1 : State := aboutOver below0
def p0 : Program := .bare "" "" ""
def e0 : Env := launch0.env 0 0 0
theorem w_frames : about1.frames = Frame.invoking theMethod args0 :: below0 := rfl
set_option maxRecDepth 65536 in
theorem w_args : argsFit about1.vm theMethod args0 = true := by decide +kernel
set_option maxRecDepth 65536 in
theorem w_heap : heapFits about1 = true := by decide +kernel
set_option maxRecDepth 65536 in
theorem w_runnable : about1.curStatus? = some .runnable := by decide +kernel
set_option maxRecDepth 65536 in
theorem w_alone : about1.alone = true := by decide +kernel
set_option maxRecDepth 65536 in
theorem w_named : about1.methodNamed? x = some theMethod := by decide +kernel
set_option maxRecDepth 65536 in
theorem w_hears : about1.hears theMethod below0 = true := by decide +kernel
set_option maxRecDepth 65536 in
theorem w_ripe : about1.ripe theMethod args0 below0 = true := by decide +kernel
theorem w_running : about1.status = .running := rfl
set_option maxRecDepth 65536 in
theorem w_room : about1.hasRoom e0.platform room_1 = true :=
  launch0.hasRoom_least _ room_1 (by decide +kernel) (by decide +kernel) (by decide +kernel) (by decide +kernel) (by decide +kernel) (by decide +kernel)
theorem allAtoms_all (ts : List Jvm.Cond) (a : Array Jvm.Value) (st : Jvm.State) : (allAtoms ts).before a st = ts.all (fun c => c.before a st) := by
  induction ts with
  | nil => rfl
  | cons c t ih =>
    show (Jvm.Cond.and c (allAtoms t)).before a st = _
    rw [Jvm.Cond.before_and, ih, List.all_cons]
def words1 : List Jvm.Cond := Jvm.Cond.code x code maxLocals ret :: tables_1
/-- a 'code' word, met by the world's own term for the bytes: nothing is compared byte by byte -/
theorem code_word {y : MethodName} {bytes : ByteArray} {mx : Nat} {rt : Option FieldType} {a : Array Value} {s : State} {m : MethodId} {meth : Method} {c : Code} (h1 : s.methodNamed? y = some m) (h2 : s.vm.method? m = some meth) (h3 : meth.code = some c) (h4 : c.code = bytes)
    (h5 : (c.maxLocals == mx && c.exceptionTable.isEmpty && decide (c.maxStack ≤ mostOperands) && decide (meth.sig.returnType = rt) && !meth.locks && decide (parseMethodDescriptor y.desc = some meth.sig)) = true) : (Jvm.Cond.code y bytes mx rt).before a s = true := by
  simp only [Bool.and_eq_true, beq_iff_eq, Bool.not_eq_true', decide_eq_true_eq] at h5
  obtain ⟨⟨⟨⟨⟨g1, g2⟩, g3⟩, g4⟩, g5⟩, g6⟩ := h5
  simp [Cond.before, Cond.holds, Cond.value, h1, h2, h3, h4, g1, g2, g3, g4, g5, g6]
def isCode : Jvm.Cond → Bool
  | .code _ _ _ _ => true
  | _ => false
theorem all_split {L : List Jvm.Cond} {P : Jvm.Cond → Bool} (h1 : L.all (fun c => isCode c || P c) = true) (h2 : ∀ c ∈ L.filter isCode, P c = true) : L.all P = true := by
  refine List.all_eq_true.mpr fun c hc => ?_
  have h := List.all_eq_true.mp h1 c hc
  rcases Bool.eq_false_or_eq_true (isCode c) with hi | hi
  · exact h2 c (List.mem_filter.mpr ⟨hc, hi⟩)
  · simpa [hi] using h
set_option maxRecDepth 65536 in
theorem w_c0 : (Jvm.Cond.code x code maxLocals ret).before args0 about1 = true := code_word (m := ⟨1, 1⟩) (meth := k1m1) (c := k1c1) (by decide +kernel) rfl rfl rfl (by decide +kernel)
set_option maxRecDepth 65536 in
theorem w_c1 : (Jvm.Cond.code ({ cls := "java/lang/String", name := "valueOf", desc := "(C)Ljava/lang/String;" } : Jvm.MethodName) jdk_42_method_139_code (1 : Nat) (Option.some (Jvm.ClassFile.FieldType.object "java/lang/String"))).before args0 about1 = true := code_word (m := ⟨7, 6⟩) (meth := k7m6) (c := k7c6) (by decide +kernel) rfl rfl rfl (by decide +kernel)
set_option maxRecDepth 65536 in
theorem w_c2 : (Jvm.Cond.code ({ cls := "java/lang/StringLatin1", name := "canEncode", desc := "(C)Z" } : Jvm.MethodName) jdk_43_method_3_code (1 : Nat) (Option.some Jvm.ClassFile.FieldType.boolean)).before args0 about1 = true := code_word (m := ⟨8, 1⟩) (meth := k8m1) (c := k8c1) (by decide +kernel) rfl rfl rfl (by decide +kernel)
set_option maxRecDepth 65536 in
theorem w_c3 : (Jvm.Cond.code ({ cls := "java/lang/StringLatin1", name := "toBytes", desc := "(C)[B" } : Jvm.MethodName) jdk_43_method_46_code (1 : Nat) (Option.some (Jvm.ClassFile.FieldType.array Jvm.ClassFile.FieldType.byte))).before args0 about1 = true := code_word (m := ⟨8, 5⟩) (meth := k8m5) (c := k8c5) (by decide +kernel) rfl rfl rfl (by decide +kernel)
set_option maxRecDepth 65536 in
theorem w_c4 : (Jvm.Cond.code ({ cls := "java/lang/String", name := "<init>", desc := "([BB)V" } : Jvm.MethodName) jdk_42_method_151_code (3 : Nat) (Option.none : Option Jvm.ClassFile.FieldType)).before args0 about1 = true := code_word (m := ⟨7, 8⟩) (meth := k7m8) (c := k7c8) (by decide +kernel) rfl rfl rfl (by decide +kernel)
set_option maxRecDepth 65536 in
theorem w_c5 : (Jvm.Cond.code ({ cls := "java/lang/Object", name := "<init>", desc := "()V" } : Jvm.MethodName) object_method_1_code (1 : Nat) (Option.none : Option Jvm.ClassFile.FieldType)).before args0 about1 = true := code_word (m := ⟨0, 0⟩) (meth := k0m0) (c := k0c0) (by decide +kernel) rfl rfl rfl (by decide +kernel)
set_option maxRecDepth 65536 in
theorem w_c6 : (Jvm.Cond.code ({ cls := "com/example/table_to_topic/tabletotopic/TextCheckColumnPinLaw", name := "put", desc := "([CIIZ)I" } : Jvm.MethodName) method_3_code (5 : Nat) (Option.some Jvm.ClassFile.FieldType.int)).before args0 about1 = true := code_word (m := ⟨1, 2⟩) (meth := k1m2) (c := k1c2) (by decide +kernel) rfl rfl rfl (by decide +kernel)
set_option maxRecDepth 65536 in
theorem w_c7 : (Jvm.Cond.code ({ cls := "com/example/table_to_topic/tabletotopic/TextCheckColumnPinLaw", name := "take", desc := "([CI)Ljava/lang/String;" } : Jvm.MethodName) method_4_code (2 : Nat) (Option.some (Jvm.ClassFile.FieldType.object "java/lang/String"))).before args0 about1 = true := code_word (m := ⟨1, 3⟩) (meth := k1m3) (c := k1c3) (by decide +kernel) rfl rfl rfl (by decide +kernel)
set_option maxRecDepth 65536 in
theorem w_c8 : (Jvm.Cond.code ({ cls := "java/lang/String", name := "<init>", desc := "([C)V" } : Jvm.MethodName) jdk_42_method_3_code (2 : Nat) (Option.none : Option Jvm.ClassFile.FieldType)).before args0 about1 = true := code_word (m := ⟨7, 1⟩) (meth := k7m1) (c := k7c1) (by decide +kernel) rfl rfl rfl (by decide +kernel)
set_option maxRecDepth 65536 in
theorem w_c9 : (Jvm.Cond.code ({ cls := "java/lang/String", name := "<init>", desc := "([CIILjava/lang/Void;)V" } : Jvm.MethodName) jdk_42_method_149_code (6 : Nat) (Option.none : Option Jvm.ClassFile.FieldType)).before args0 about1 = true := code_word (m := ⟨7, 7⟩) (meth := k7m7) (c := k7c7) (by decide +kernel) rfl rfl rfl (by decide +kernel)
set_option maxRecDepth 65536 in
theorem w_c10 : (Jvm.Cond.code ({ cls := "java/lang/StringUTF16", name := "compress", desc := "([CII)[B" } : Jvm.MethodName) jdk_52_method_16_code (6 : Nat) (Option.some (Jvm.ClassFile.FieldType.array Jvm.ClassFile.FieldType.byte))).before args0 about1 = true := code_word (m := ⟨9, 10⟩) (meth := k9m10) (c := k9c10) (by decide +kernel) rfl rfl rfl (by decide +kernel)
set_option maxRecDepth 65536 in
theorem w_c11 : (Jvm.Cond.code ({ cls := "java/lang/StringUTF16", name := "compress", desc := "([CI[BII)I" } : Jvm.MethodName) jdk_52_method_21_code (7 : Nat) (Option.some Jvm.ClassFile.FieldType.int)).before args0 about1 = true := code_word (m := ⟨9, 11⟩) (meth := k9m11) (c := k9c11) (by decide +kernel) rfl rfl rfl (by decide +kernel)
set_option maxRecDepth 65536 in
theorem w_c12 : (Jvm.Cond.code ({ cls := "java/lang/StringUTF16", name := "coderFromArrayLen", desc := "([BI)B" } : Jvm.MethodName) jdk_52_method_15_code (2 : Nat) (Option.some Jvm.ClassFile.FieldType.byte)).before args0 about1 = true := code_word (m := ⟨9, 9⟩) (meth := k9m9) (c := k9c9) (by decide +kernel) rfl rfl rfl (by decide +kernel)
set_option maxRecDepth 65536 in
theorem w_c13 : (Jvm.Cond.code ({ cls := "java/lang/Math", name := "max", desc := "(II)I" } : Jvm.MethodName) jdk_29_method_65_code (2 : Nat) (Option.some Jvm.ClassFile.FieldType.int)).before args0 about1 = true := code_word (m := ⟨10, 1⟩) (meth := k10m1) (c := k10c1) (by decide +kernel) rfl rfl rfl (by decide +kernel)
set_option maxRecDepth 65536 in
theorem w_c14 : (Jvm.Cond.code ({ cls := "com/example/table_to_topic/tabletotopic/Text", name := "checkColumn", desc := "(Ljava/lang/String;Ljava/lang/String;Ljava/lang/String;I)V" } : Jvm.MethodName) prog_16_method_5_code (6 : Nat) (Option.none : Option Jvm.ClassFile.FieldType)).before args0 about1 = true := code_word (m := ⟨11, 1⟩) (meth := k11m1) (c := k11c1) (by decide +kernel) rfl rfl rfl (by decide +kernel)
set_option maxRecDepth 65536 in
theorem w_c15 : (Jvm.Cond.code ({ cls := "java/lang/String", name := "length", desc := "()I" } : Jvm.MethodName) jdk_42_method_54_code (1 : Nat) (Option.some Jvm.ClassFile.FieldType.int)).before args0 about1 = true := code_word (m := ⟨7, 2⟩) (meth := k7m2) (c := k7c2) (by decide +kernel) rfl rfl rfl (by decide +kernel)
set_option maxRecDepth 65536 in
theorem w_c16 : (Jvm.Cond.code ({ cls := "java/lang/String", name := "coder", desc := "()B" } : Jvm.MethodName) jdk_42_method_152_code (1 : Nat) (Option.some Jvm.ClassFile.FieldType.byte)).before args0 about1 = true := code_word (m := ⟨7, 9⟩) (meth := k7m9) (c := k7c9) (by decide +kernel) rfl rfl rfl (by decide +kernel)
set_option maxRecDepth 65536 in
theorem w_c17 : (Jvm.Cond.code ({ cls := "java/lang/String", name := "codePointCount", desc := "(II)I" } : Jvm.MethodName) jdk_42_method_59_code (3 : Nat) (Option.some Jvm.ClassFile.FieldType.int)).before args0 about1 = true := code_word (m := ⟨7, 3⟩) (meth := k7m3) (c := k7c3) (by decide +kernel) rfl rfl rfl (by decide +kernel)
set_option maxRecDepth 65536 in
theorem w_c18 : (Jvm.Cond.code ({ cls := "java/util/Objects", name := "checkFromToIndex", desc := "(III)I" } : Jvm.MethodName) jdk_31_method_18_code (3 : Nat) (Option.some Jvm.ClassFile.FieldType.int)).before args0 about1 = true := code_word (m := ⟨12, 1⟩) (meth := k12m1) (c := k12c1) (by decide +kernel) rfl rfl rfl (by decide +kernel)
set_option maxRecDepth 65536 in
theorem w_c19 : (Jvm.Cond.code ({ cls := "jdk/internal/util/Preconditions", name := "checkFromToIndex", desc := "(IIILjava/util/function/BiFunction;)I" } : Jvm.MethodName) jdk_41_method_12_code (4 : Nat) (Option.some Jvm.ClassFile.FieldType.int)).before args0 about1 = true := code_word (m := ⟨13, 1⟩) (meth := k13m1) (c := k13c1) (by decide +kernel) rfl rfl rfl (by decide +kernel)
set_option maxRecDepth 65536 in
theorem w_c20 : (Jvm.Cond.code ({ cls := "java/lang/String", name := "isLatin1", desc := "()Z" } : Jvm.MethodName) jdk_42_method_154_code (1 : Nat) (Option.some Jvm.ClassFile.FieldType.boolean)).before args0 about1 = true := code_word (m := ⟨7, 10⟩) (meth := k7m10) (c := k7c10) (by decide +kernel) rfl rfl rfl (by decide +kernel)
set_option maxRecDepth 65536 in
theorem w_c21 : (Jvm.Cond.code ({ cls := "java/lang/String", name := "indexOf", desc := "(I)I" } : Jvm.MethodName) jdk_42_method_79_code (2 : Nat) (Option.some Jvm.ClassFile.FieldType.int)).before args0 about1 = true := code_word (m := ⟨7, 4⟩) (meth := k7m4) (c := k7c4) (by decide +kernel) rfl rfl rfl (by decide +kernel)
set_option maxRecDepth 65536 in
theorem w_c22 : (Jvm.Cond.code ({ cls := "java/lang/String", name := "indexOf", desc := "(II)I" } : Jvm.MethodName) jdk_42_method_80_code (3 : Nat) (Option.some Jvm.ClassFile.FieldType.int)).before args0 about1 = true := code_word (m := ⟨7, 5⟩) (meth := k7m5) (c := k7c5) (by decide +kernel) rfl rfl rfl (by decide +kernel)
set_option maxRecDepth 65536 in
theorem w_c23 : (Jvm.Cond.code ({ cls := "java/lang/StringLatin1", name := "indexOf", desc := "([BIII)I" } : Jvm.MethodName) jdk_43_method_22_code (4 : Nat) (Option.some Jvm.ClassFile.FieldType.int)).before args0 about1 = true := code_word (m := ⟨8, 3⟩) (meth := k8m3) (c := k8c3) (by decide +kernel) rfl rfl rfl (by decide +kernel)
set_option maxRecDepth 65536 in
theorem w_c24 : (Jvm.Cond.code ({ cls := "java/lang/StringLatin1", name := "canEncode", desc := "(I)Z" } : Jvm.MethodName) jdk_43_method_4_code (1 : Nat) (Option.some Jvm.ClassFile.FieldType.boolean)).before args0 about1 = true := code_word (m := ⟨8, 2⟩) (meth := k8m2) (c := k8c2) (by decide +kernel) rfl rfl rfl (by decide +kernel)
set_option maxRecDepth 65536 in
theorem w_c25 : (Jvm.Cond.code ({ cls := "java/lang/Math", name := "min", desc := "(II)I" } : Jvm.MethodName) jdk_29_method_69_code (2 : Nat) (Option.some Jvm.ClassFile.FieldType.int)).before args0 about1 = true := code_word (m := ⟨10, 2⟩) (meth := k10m2) (c := k10c2) (by decide +kernel) rfl rfl rfl (by decide +kernel)
set_option maxRecDepth 65536 in
theorem w_c26 : (Jvm.Cond.code ({ cls := "java/lang/StringLatin1", name := "indexOfChar", desc := "([BIII)I" } : Jvm.MethodName) jdk_43_method_23_code (6 : Nat) (Option.some Jvm.ClassFile.FieldType.int)).before args0 about1 = true := code_word (m := ⟨8, 4⟩) (meth := k8m4) (c := k8c4) (by decide +kernel) rfl rfl rfl (by decide +kernel)
set_option maxRecDepth 65536 in
theorem w_c27 : (Jvm.Cond.code ({ cls := "java/lang/StringUTF16", name := "toBytes", desc := "([CII)[B" } : Jvm.MethodName) jdk_52_method_14_code (5 : Nat) (Option.some (Jvm.ClassFile.FieldType.array Jvm.ClassFile.FieldType.byte))).before args0 about1 = true := code_word (m := ⟨9, 8⟩) (meth := k9m8) (c := k9c8) (by decide +kernel) rfl rfl rfl (by decide +kernel)
set_option maxRecDepth 65536 in
theorem w_c28 : (Jvm.Cond.code ({ cls := "java/lang/StringUTF16", name := "newBytesFor", desc := "(I)[B" } : Jvm.MethodName) jdk_52_method_2_code (1 : Nat) (Option.some (Jvm.ClassFile.FieldType.array Jvm.ClassFile.FieldType.byte))).before args0 about1 = true := code_word (m := ⟨9, 1⟩) (meth := k9m1) (c := k9c1) (by decide +kernel) rfl rfl rfl (by decide +kernel)
set_option maxRecDepth 65536 in
theorem w_c29 : (Jvm.Cond.code ({ cls := "java/lang/StringUTF16", name := "newBytesLength", desc := "(I)I" } : Jvm.MethodName) jdk_52_method_3_code (1 : Nat) (Option.some Jvm.ClassFile.FieldType.int)).before args0 about1 = true := code_word (m := ⟨9, 2⟩) (meth := k9m2) (c := k9c2) (by decide +kernel) rfl rfl rfl (by decide +kernel)
set_option maxRecDepth 65536 in
theorem w_c30 : (Jvm.Cond.code ({ cls := "java/lang/StringUTF16", name := "putChar", desc := "([BII)V" } : Jvm.MethodName) jdk_52_method_4_code (3 : Nat) (Option.none : Option Jvm.ClassFile.FieldType)).before args0 about1 = true := code_word (m := ⟨9, 3⟩) (meth := k9m3) (c := k9c3) (by decide +kernel) rfl rfl rfl (by decide +kernel)
set_option maxRecDepth 65536 in
theorem w_c31 : (Jvm.Cond.code ({ cls := "java/lang/StringUTF16", name := "getChar", desc := "([BI)C" } : Jvm.MethodName) jdk_52_method_5_code (2 : Nat) (Option.some Jvm.ClassFile.FieldType.char)).before args0 about1 = true := code_word (m := ⟨9, 4⟩) (meth := k9m4) (c := k9c4) (by decide +kernel) rfl rfl rfl (by decide +kernel)
set_option maxRecDepth 65536 in
theorem w_c32 : (Jvm.Cond.code ({ cls := "java/lang/StringUTF16", name := "codePointCount", desc := "([BII)I" } : Jvm.MethodName) jdk_52_method_12_code (3 : Nat) (Option.some Jvm.ClassFile.FieldType.int)).before args0 about1 = true := code_word (m := ⟨9, 7⟩) (meth := k9m7) (c := k9c7) (by decide +kernel) rfl rfl rfl (by decide +kernel)
set_option maxRecDepth 65536 in
theorem w_c33 : (Jvm.Cond.code ({ cls := "java/lang/StringUTF16", name := "codePointCount", desc := "([BIIZ)I" } : Jvm.MethodName) jdk_52_method_11_code (6 : Nat) (Option.some Jvm.ClassFile.FieldType.int)).before args0 about1 = true := code_word (m := ⟨9, 6⟩) (meth := k9m6) (c := k9c6) (by decide +kernel) rfl rfl rfl (by decide +kernel)
set_option maxRecDepth 65536 in
theorem w_c34 : (Jvm.Cond.code ({ cls := "java/lang/Character", name := "isHighSurrogate", desc := "(C)Z" } : Jvm.MethodName) jdk_89_method_14_code (1 : Nat) (Option.some Jvm.ClassFile.FieldType.boolean)).before args0 about1 = true := code_word (m := ⟨14, 0⟩) (meth := k14m0) (c := k14c0) (by decide +kernel) rfl rfl rfl (by decide +kernel)
set_option maxRecDepth 65536 in
theorem w_c35 : (Jvm.Cond.code ({ cls := "java/lang/Character", name := "isLowSurrogate", desc := "(C)Z" } : Jvm.MethodName) jdk_89_method_15_code (1 : Nat) (Option.some Jvm.ClassFile.FieldType.boolean)).before args0 about1 = true := code_word (m := ⟨14, 1⟩) (meth := k14m1) (c := k14c1) (by decide +kernel) rfl rfl rfl (by decide +kernel)
set_option maxRecDepth 65536 in
theorem w_c36 : (Jvm.Cond.code ({ cls := "java/lang/StringUTF16", name := "indexOf", desc := "([BIII)I" } : Jvm.MethodName) jdk_52_method_40_code (4 : Nat) (Option.some Jvm.ClassFile.FieldType.int)).before args0 about1 = true := code_word (m := ⟨9, 12⟩) (meth := k9m12) (c := k9c12) (by decide +kernel) rfl rfl rfl (by decide +kernel)
set_option maxRecDepth 65536 in
theorem w_c37 : (Jvm.Cond.code ({ cls := "java/lang/StringUTF16", name := "indexOfChar", desc := "([BIII)I" } : Jvm.MethodName) jdk_52_method_47_code (4 : Nat) (Option.some Jvm.ClassFile.FieldType.int)).before args0 about1 = true := code_word (m := ⟨9, 13⟩) (meth := k9m13) (c := k9c13) (by decide +kernel) rfl rfl rfl (by decide +kernel)
set_option maxRecDepth 65536 in
theorem w_c38 : (Jvm.Cond.code ({ cls := "java/lang/StringUTF16", name := "checkBoundsBeginEnd", desc := "(II[B)V" } : Jvm.MethodName) jdk_52_method_93_code (3 : Nat) (Option.none : Option Jvm.ClassFile.FieldType)).before args0 about1 = true := code_word (m := ⟨9, 15⟩) (meth := k9m15) (c := k9c15) (by decide +kernel) rfl rfl rfl (by decide +kernel)
set_option maxRecDepth 65536 in
theorem w_c39 : (Jvm.Cond.code ({ cls := "java/lang/StringUTF16", name := "length", desc := "([B)I" } : Jvm.MethodName) jdk_52_method_6_code (1 : Nat) (Option.some Jvm.ClassFile.FieldType.int)).before args0 about1 = true := code_word (m := ⟨9, 5⟩) (meth := k9m5) (c := k9c5) (by decide +kernel) rfl rfl rfl (by decide +kernel)
set_option maxRecDepth 65536 in
theorem w_c40 : (Jvm.Cond.code ({ cls := "java/lang/String", name := "checkBoundsBeginEnd", desc := "(III)V" } : Jvm.MethodName) jdk_42_method_158_code (3 : Nat) (Option.none : Option Jvm.ClassFile.FieldType)).before args0 about1 = true := code_word (m := ⟨7, 11⟩) (meth := k7m11) (c := k7c11) (by decide +kernel) rfl rfl rfl (by decide +kernel)
set_option maxRecDepth 65536 in
theorem w_c41 : (Jvm.Cond.code ({ cls := "java/lang/StringUTF16", name := "indexOfCharUnsafe", desc := "([BIII)I" } : Jvm.MethodName) jdk_52_method_48_code (5 : Nat) (Option.some Jvm.ClassFile.FieldType.int)).before args0 about1 = true := code_word (m := ⟨9, 14⟩) (meth := k9m14) (c := k9c14) (by decide +kernel) rfl rfl rfl (by decide +kernel)
def codes1 : List Jvm.Cond := [Jvm.Cond.code x code maxLocals ret, Jvm.Cond.code ({ cls := "java/lang/String", name := "valueOf", desc := "(C)Ljava/lang/String;" } : Jvm.MethodName) jdk_42_method_139_code (1 : Nat) (Option.some (Jvm.ClassFile.FieldType.object "java/lang/String")), Jvm.Cond.code ({ cls := "java/lang/StringLatin1", name := "canEncode", desc := "(C)Z" } : Jvm.MethodName) jdk_43_method_3_code (1 : Nat) (Option.some Jvm.ClassFile.FieldType.boolean), Jvm.Cond.code ({ cls := "java/lang/StringLatin1", name := "toBytes", desc := "(C)[B" } : Jvm.MethodName) jdk_43_method_46_code (1 : Nat) (Option.some (Jvm.ClassFile.FieldType.array Jvm.ClassFile.FieldType.byte)), Jvm.Cond.code ({ cls := "java/lang/String", name := "<init>", desc := "([BB)V" } : Jvm.MethodName) jdk_42_method_151_code (3 : Nat) (Option.none : Option Jvm.ClassFile.FieldType), Jvm.Cond.code ({ cls := "java/lang/Object", name := "<init>", desc := "()V" } : Jvm.MethodName) object_method_1_code (1 : Nat) (Option.none : Option Jvm.ClassFile.FieldType), Jvm.Cond.code ({ cls := "com/example/table_to_topic/tabletotopic/TextCheckColumnPinLaw", name := "put", desc := "([CIIZ)I" } : Jvm.MethodName) method_3_code (5 : Nat) (Option.some Jvm.ClassFile.FieldType.int), Jvm.Cond.code ({ cls := "com/example/table_to_topic/tabletotopic/TextCheckColumnPinLaw", name := "take", desc := "([CI)Ljava/lang/String;" } : Jvm.MethodName) method_4_code (2 : Nat) (Option.some (Jvm.ClassFile.FieldType.object "java/lang/String")), Jvm.Cond.code ({ cls := "java/lang/String", name := "<init>", desc := "([C)V" } : Jvm.MethodName) jdk_42_method_3_code (2 : Nat) (Option.none : Option Jvm.ClassFile.FieldType), Jvm.Cond.code ({ cls := "java/lang/String", name := "<init>", desc := "([CIILjava/lang/Void;)V" } : Jvm.MethodName) jdk_42_method_149_code (6 : Nat) (Option.none : Option Jvm.ClassFile.FieldType), Jvm.Cond.code ({ cls := "java/lang/StringUTF16", name := "compress", desc := "([CII)[B" } : Jvm.MethodName) jdk_52_method_16_code (6 : Nat) (Option.some (Jvm.ClassFile.FieldType.array Jvm.ClassFile.FieldType.byte)), Jvm.Cond.code ({ cls := "java/lang/StringUTF16", name := "compress", desc := "([CI[BII)I" } : Jvm.MethodName) jdk_52_method_21_code (7 : Nat) (Option.some Jvm.ClassFile.FieldType.int), Jvm.Cond.code ({ cls := "java/lang/StringUTF16", name := "coderFromArrayLen", desc := "([BI)B" } : Jvm.MethodName) jdk_52_method_15_code (2 : Nat) (Option.some Jvm.ClassFile.FieldType.byte), Jvm.Cond.code ({ cls := "java/lang/Math", name := "max", desc := "(II)I" } : Jvm.MethodName) jdk_29_method_65_code (2 : Nat) (Option.some Jvm.ClassFile.FieldType.int), Jvm.Cond.code ({ cls := "com/example/table_to_topic/tabletotopic/Text", name := "checkColumn", desc := "(Ljava/lang/String;Ljava/lang/String;Ljava/lang/String;I)V" } : Jvm.MethodName) prog_16_method_5_code (6 : Nat) (Option.none : Option Jvm.ClassFile.FieldType), Jvm.Cond.code ({ cls := "java/lang/String", name := "length", desc := "()I" } : Jvm.MethodName) jdk_42_method_54_code (1 : Nat) (Option.some Jvm.ClassFile.FieldType.int), Jvm.Cond.code ({ cls := "java/lang/String", name := "coder", desc := "()B" } : Jvm.MethodName) jdk_42_method_152_code (1 : Nat) (Option.some Jvm.ClassFile.FieldType.byte), Jvm.Cond.code ({ cls := "java/lang/String", name := "codePointCount", desc := "(II)I" } : Jvm.MethodName) jdk_42_method_59_code (3 : Nat) (Option.some Jvm.ClassFile.FieldType.int), Jvm.Cond.code ({ cls := "java/util/Objects", name := "checkFromToIndex", desc := "(III)I" } : Jvm.MethodName) jdk_31_method_18_code (3 : Nat) (Option.some Jvm.ClassFile.FieldType.int), Jvm.Cond.code ({ cls := "jdk/internal/util/Preconditions", name := "checkFromToIndex", desc := "(IIILjava/util/function/BiFunction;)I" } : Jvm.MethodName) jdk_41_method_12_code (4 : Nat) (Option.some Jvm.ClassFile.FieldType.int), Jvm.Cond.code ({ cls := "java/lang/String", name := "isLatin1", desc := "()Z" } : Jvm.MethodName) jdk_42_method_154_code (1 : Nat) (Option.some Jvm.ClassFile.FieldType.boolean), Jvm.Cond.code ({ cls := "java/lang/String", name := "indexOf", desc := "(I)I" } : Jvm.MethodName) jdk_42_method_79_code (2 : Nat) (Option.some Jvm.ClassFile.FieldType.int), Jvm.Cond.code ({ cls := "java/lang/String", name := "indexOf", desc := "(II)I" } : Jvm.MethodName) jdk_42_method_80_code (3 : Nat) (Option.some Jvm.ClassFile.FieldType.int), Jvm.Cond.code ({ cls := "java/lang/StringLatin1", name := "indexOf", desc := "([BIII)I" } : Jvm.MethodName) jdk_43_method_22_code (4 : Nat) (Option.some Jvm.ClassFile.FieldType.int), Jvm.Cond.code ({ cls := "java/lang/StringLatin1", name := "canEncode", desc := "(I)Z" } : Jvm.MethodName) jdk_43_method_4_code (1 : Nat) (Option.some Jvm.ClassFile.FieldType.boolean), Jvm.Cond.code ({ cls := "java/lang/Math", name := "min", desc := "(II)I" } : Jvm.MethodName) jdk_29_method_69_code (2 : Nat) (Option.some Jvm.ClassFile.FieldType.int), Jvm.Cond.code ({ cls := "java/lang/StringLatin1", name := "indexOfChar", desc := "([BIII)I" } : Jvm.MethodName) jdk_43_method_23_code (6 : Nat) (Option.some Jvm.ClassFile.FieldType.int), Jvm.Cond.code ({ cls := "java/lang/StringUTF16", name := "toBytes", desc := "([CII)[B" } : Jvm.MethodName) jdk_52_method_14_code (5 : Nat) (Option.some (Jvm.ClassFile.FieldType.array Jvm.ClassFile.FieldType.byte)), Jvm.Cond.code ({ cls := "java/lang/StringUTF16", name := "newBytesFor", desc := "(I)[B" } : Jvm.MethodName) jdk_52_method_2_code (1 : Nat) (Option.some (Jvm.ClassFile.FieldType.array Jvm.ClassFile.FieldType.byte)), Jvm.Cond.code ({ cls := "java/lang/StringUTF16", name := "newBytesLength", desc := "(I)I" } : Jvm.MethodName) jdk_52_method_3_code (1 : Nat) (Option.some Jvm.ClassFile.FieldType.int), Jvm.Cond.code ({ cls := "java/lang/StringUTF16", name := "putChar", desc := "([BII)V" } : Jvm.MethodName) jdk_52_method_4_code (3 : Nat) (Option.none : Option Jvm.ClassFile.FieldType), Jvm.Cond.code ({ cls := "java/lang/StringUTF16", name := "getChar", desc := "([BI)C" } : Jvm.MethodName) jdk_52_method_5_code (2 : Nat) (Option.some Jvm.ClassFile.FieldType.char), Jvm.Cond.code ({ cls := "java/lang/StringUTF16", name := "codePointCount", desc := "([BII)I" } : Jvm.MethodName) jdk_52_method_12_code (3 : Nat) (Option.some Jvm.ClassFile.FieldType.int), Jvm.Cond.code ({ cls := "java/lang/StringUTF16", name := "codePointCount", desc := "([BIIZ)I" } : Jvm.MethodName) jdk_52_method_11_code (6 : Nat) (Option.some Jvm.ClassFile.FieldType.int), Jvm.Cond.code ({ cls := "java/lang/Character", name := "isHighSurrogate", desc := "(C)Z" } : Jvm.MethodName) jdk_89_method_14_code (1 : Nat) (Option.some Jvm.ClassFile.FieldType.boolean), Jvm.Cond.code ({ cls := "java/lang/Character", name := "isLowSurrogate", desc := "(C)Z" } : Jvm.MethodName) jdk_89_method_15_code (1 : Nat) (Option.some Jvm.ClassFile.FieldType.boolean), Jvm.Cond.code ({ cls := "java/lang/StringUTF16", name := "indexOf", desc := "([BIII)I" } : Jvm.MethodName) jdk_52_method_40_code (4 : Nat) (Option.some Jvm.ClassFile.FieldType.int), Jvm.Cond.code ({ cls := "java/lang/StringUTF16", name := "indexOfChar", desc := "([BIII)I" } : Jvm.MethodName) jdk_52_method_47_code (4 : Nat) (Option.some Jvm.ClassFile.FieldType.int), Jvm.Cond.code ({ cls := "java/lang/StringUTF16", name := "checkBoundsBeginEnd", desc := "(II[B)V" } : Jvm.MethodName) jdk_52_method_93_code (3 : Nat) (Option.none : Option Jvm.ClassFile.FieldType), Jvm.Cond.code ({ cls := "java/lang/StringUTF16", name := "length", desc := "([B)I" } : Jvm.MethodName) jdk_52_method_6_code (1 : Nat) (Option.some Jvm.ClassFile.FieldType.int), Jvm.Cond.code ({ cls := "java/lang/String", name := "checkBoundsBeginEnd", desc := "(III)V" } : Jvm.MethodName) jdk_42_method_158_code (3 : Nat) (Option.none : Option Jvm.ClassFile.FieldType), Jvm.Cond.code ({ cls := "java/lang/StringUTF16", name := "indexOfCharUnsafe", desc := "([BIII)I" } : Jvm.MethodName) jdk_52_method_48_code (5 : Nat) (Option.some Jvm.ClassFile.FieldType.int)]
set_option maxRecDepth 65536 in
theorem codes_eq : words1.filter isCode = codes1 := rfl
theorem w_codes : ∀ c ∈ words1.filter isCode, c.before args0 about1 = true := by
  rw [codes_eq]
  intro c hc
  simp only [codes1, List.mem_cons, List.not_mem_nil, or_false] at hc
  rcases hc with rfl | rfl | rfl | rfl | rfl | rfl | rfl | rfl | rfl | rfl | rfl | rfl | rfl | rfl | rfl | rfl | rfl | rfl | rfl | rfl | rfl | rfl | rfl | rfl | rfl | rfl | rfl | rfl | rfl | rfl | rfl | rfl | rfl | rfl | rfl | rfl | rfl | rfl | rfl | rfl | rfl | rfl
  · exact w_c0
  · exact w_c1
  · exact w_c2
  · exact w_c3
  · exact w_c4
  · exact w_c5
  · exact w_c6
  · exact w_c7
  · exact w_c8
  · exact w_c9
  · exact w_c10
  · exact w_c11
  · exact w_c12
  · exact w_c13
  · exact w_c14
  · exact w_c15
  · exact w_c16
  · exact w_c17
  · exact w_c18
  · exact w_c19
  · exact w_c20
  · exact w_c21
  · exact w_c22
  · exact w_c23
  · exact w_c24
  · exact w_c25
  · exact w_c26
  · exact w_c27
  · exact w_c28
  · exact w_c29
  · exact w_c30
  · exact w_c31
  · exact w_c32
  · exact w_c33
  · exact w_c34
  · exact w_c35
  · exact w_c36
  · exact w_c37
  · exact w_c38
  · exact w_c39
  · exact w_c40
  · exact w_c41
set_option maxRecDepth 65536 in
theorem w_t1 : (words1.take 24).all (fun c => isCode c || c.before args0 about1) = true := by decide +kernel
set_option maxRecDepth 65536 in
theorem w_t2 : ((words1.drop 24).take 24).all (fun c => isCode c || c.before args0 about1) = true := by decide +kernel
set_option maxRecDepth 65536 in
theorem w_t3 : (((words1.drop 24).drop 24).take 24).all (fun c => isCode c || c.before args0 about1) = true := by decide +kernel
set_option maxRecDepth 65536 in
theorem w_t4 : ((((words1.drop 24).drop 24).drop 24).take 24).all (fun c => isCode c || c.before args0 about1) = true := by decide +kernel
set_option maxRecDepth 65536 in
theorem w_t5 : (((((words1.drop 24).drop 24).drop 24).drop 24).take 24).all (fun c => isCode c || c.before args0 about1) = true := by decide +kernel
set_option maxRecDepth 65536 in
theorem w_t6 : ((((((words1.drop 24).drop 24).drop 24).drop 24).drop 24).take 24).all (fun c => isCode c || c.before args0 about1) = true := by decide +kernel
set_option maxRecDepth 65536 in
theorem w_t7 : (((((((words1.drop 24).drop 24).drop 24).drop 24).drop 24).drop 24).take 24).all (fun c => isCode c || c.before args0 about1) = true := by decide +kernel
set_option maxRecDepth 65536 in
theorem w_t8 : (((((((words1.drop 24).drop 24).drop 24).drop 24).drop 24).drop 24).drop 24).all (fun c => isCode c || c.before args0 about1) = true := by decide +kernel
theorem w_tables : (allAtoms (Jvm.Cond.code x code maxLocals ret :: tables_1)).before args0 about1 = true := by
  rw [allAtoms_all]
  show words1.all (fun c => c.before args0 about1) = true
  refine all_split ?_ w_codes
  rw [← List.take_append_drop 24 words1, List.all_append, w_t1, ← List.take_append_drop 24 (words1.drop 24), List.all_append, w_t2, ← List.take_append_drop 24 ((words1.drop 24).drop 24), List.all_append, w_t3, ← List.take_append_drop 24 (((words1.drop 24).drop 24).drop 24), List.all_append, w_t4, ← List.take_append_drop 24 ((((words1.drop 24).drop 24).drop 24).drop 24), List.all_append, w_t5, ← List.take_append_drop 24 (((((words1.drop 24).drop 24).drop 24).drop 24).drop 24), List.all_append, w_t6, ← List.take_append_drop 24 ((((((words1.drop 24).drop 24).drop 24).drop 24).drop 24).drop 24), List.all_append, w_t7, w_t8]
  rfl
set_option maxRecDepth 65536 in
theorem w_rest : rest_1_c.before args0 about1 = true := by decide +kernel
set_option maxRecDepth 65536 in
theorem w_case : (Jvm.Cond.and given_1 narrow_1).before args0 about1 = true := by decide +kernel
set_option maxRecDepth 65536 in
theorem w_consts : constsHeld consts_1 about1 := Jvm.Lit.constsHeldB_iff.mp (by decide +kernel)
theorem w_applies : (headSpec (Jvm.Cond.code x code maxLocals ret :: tables_1) room_1).applies x e0.platform about1 = true :=
  (Spec.applies_iff w_frames).mpr ⟨w_running, w_runnable, w_alone, w_named, w_hears, w_ripe, w_room, w_tables⟩
theorem atStart : AtStart classFile x code maxLocals ret World_1 tables_1 room_1 Calls_1 rest_1 Pre_1 launch0 p0 e0 about1 theMethod args0 below0 :=
  ⟨lists_1, trivial, launch0.admits_env _ _ _, launch0.least_env, fairChoices_fair.cas, fairChoices_fair.clock, w_frames, w_args, w_heap, w_applies, ⟨w_consts, trivial⟩, w_rest, w_case⟩
end start1
theorem witness_1 : WitnessClaimed_1 := ⟨start1.p0, start1.e0, start1.about1, start1.theMethod, start1.args0, start1.below0, start1.atStart⟩
end Jvm.Pilot.@@N@@
