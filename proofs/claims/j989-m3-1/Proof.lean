import JvmDerived
import JvmDerived.Pilot.@@N@@Statement
import JvmDerived.Pilot.@@N@@Code
set_option linter.unusedVariables false
set_option linter.unusedSimpArgs false
namespace Jvm.Pilot.@@N@@
open Jvm Jvm.ClassFile Sem Op Lib Jvm.Free Jvm.Stand Jvm.LawKit Jvm.RoadKit Bundle Jvm.Pilot.@@N@@.Jvm.D
/-! THE LAYER: what a body does from a point on, as one sentence ('own_WP'); a contract is 'own_Met'. K: the launch, the start's state, the string constants that are held, 'nothing is interned'. M: the method, its bytes, its locals, what it returns, its room. -/
abbrev own_Cx : Type := Launch × State × List (String × Nat) × Bool
abbrev own_Cx.l (K : own_Cx) : Launch := K.1
abbrev own_Cx.Z (K : own_Cx) : State := K.2.1
abbrev own_Cx.E (K : own_Cx) : List (String × Nat) := K.2.2.1
abbrev own_Cx.nw (K : own_Cx) : Bool := K.2.2.2
abbrev own_Cx.n (K : own_Cx) : Nat := K.Z.heap.size
abbrev own_Mi : Type := MethodName × ByteArray × Nat × Option FieldType × Room
abbrev own_Mi.y (M : own_Mi) : MethodName := M.1
abbrev own_Mi.b (M : own_Mi) : ByteArray := M.2.1
abbrev own_Mi.mx (M : own_Mi) : Nat := M.2.2.1
abbrev own_Mi.ret (M : own_Mi) : Option FieldType := M.2.2.2.1
abbrev own_Mi.R (M : own_Mi) : Room := M.2.2.2.2
abbrev own_Q : Type := Option Value → Heap → List Addr → Prop
def own_ret (q : Value → Heap → List Addr → Prop) : own_Q := fun v h xs => ∃ w, v = some w ∧ q w h xs
def own_void (q : Heap → List Addr → Prop) : own_Q := fun v h xs => v = none ∧ q h xs
def own_Bdy (K : own_Cx) (M : own_Mi) (p : Program) (s : State) (m : MethodId) (meth : Method) (c : Code) : Prop :=
  p.tables.exec = Jvm.exec ∧ c.code = M.b ∧ c.maxLocals = M.mx ∧ s.vm.findClass M.y.cls = some m.cls ∧ meth.name = M.y.name ∧ meth.sig.returnType = M.ret ∧ meth.locks = false ∧ K.Z.Warmed39 s.vm ∧ ∃ a0, EW K.Z a0 K.E
def own_Sf (K : own_Cx) (vm : Vm) (h : Heap) (xs : List Addr) : Prop := ∀ x ∈ xs, K.n ≤ x ∧ x < h.size ∧ Safe K.Z K.E vm h x
def own_Inv (K : own_Cx) (s : State) (vm0 : Vm) (k0 : Nat) (h : Heap) (sf : List Addr) : Prop :=
  s.Since vm0 k0 ∧ k0 ≤ h.size ∧ (K.nw = true → s.WarmedH vm0) ∧ CHr K.Z K.E s.vm s.heap vm0 h ∧ own_Sf K vm0 h sf ∧ Ext K.Z.heap h
def own_End (K : own_Cx) (R : Room) (Q : own_Q) (s : State) (o : Outcome) (t : State) : Prop :=
  ∃ v L xs, o = .returned v ∧ Q v t.heap xs ∧ Fr K.n L ∧ CHr K.Z K.E s.vm s.heap t.vm t.heap ∧ own_Sf K t.vm t.heap xs ∧ Ext K.Z.heap t.heap ∧ ReturnedEndW s o t L R.cells R.slots ∧ (K.nw = true → s.WarmedH t.vm)
def own_Fin (K : own_Cx) (R : Room) (Q : own_Q) (p : Program) (e : Env) (below : List Frame) (s F : State) : Prop :=
  ∃ s₂ o, Steps p.tables e below F s₂ ∧ s₂.status = .running ∧ Ended s₂ below o ∧ own_End K R Q s o s₂
def own_WP (K : own_Cx) (M : own_Mi) (Q : own_Q) (pc : Nat) (Ls : List Slot) (St : List Value) (sf : List Addr) (h : Heap) (cs sl : Nat) : Prop :=
  ∀ (p : Program) (e : Env) (s : State) (vm0 : Vm) (k0 : Nat) (m : MethodId) (args : Array Value) (below : List Frame) (meth : Method) (c : Code) (T : State) (locs : List Loc) (cs' sl' : Nat),
    own_Bdy K M p (s.setVm vm0) m meth c → Stand p K.l e M.R (s.setVm vm0) m args below meth c T locs cs' sl' → cs' ≤ cs → sl' ≤ sl → T.heap = h → Fr K.n locs → own_Inv K s vm0 k0 h sf →
    own_Fin K M.R Q p e below s (T.setTop (mkF m pc Ls.toArray St))
def own_Met (K : own_Cx) (M : own_Mi) (as' : Array Value) (sf : List Addr) (h : Heap) (Q : own_Q) : Prop :=
  ∀ ws : List Jvm.Cond, MetFree K.l M.y (head1 (Jvm.Cond.code M.y M.b M.mx M.ret :: ws) M.R) (fun a U => a = as' ∧ K.Z.Warmed39 U.vm ∧ U.heap = h ∧ (∃ a0, EW K.Z a0 K.E) ∧ CHv K.Z K.E U.vm h ∧ own_Sf K U.vm h sf ∧ Ext K.Z.heap h) (fun _ _ _ _ _ => True) (fun _ U o U' => own_End K M.R Q U o U')
section Core
variable {K : own_Cx} {M : own_Mi} {Q : own_Q} {pc pc' : Nat} {Ls Ls' : List Slot} {St St' : List Value} {sf : List Addr} {h : Heap} {cs sl : Nat} {a0 : Array Value}
theorem own_ext_trans {h h' h2 : Heap} (E : Ext h h') (E' : Ext h' h2) : Ext h h2 := ⟨Nat.le_trans E.1 E'.1, fun x c q => E'.2 x c (E.2 x c q)⟩
theorem own_ext_refl (h : Heap) : Ext h h := ⟨Nat.le_refl _, fun _ _ q => q⟩
theorem own_met (hpn : plainFor M.y = true) {as' : Array Value} (ef : ∀ m : MethodId, entryFrame m as' M.mx = mkF m 0 Ls.toArray []) (k : own_WP K M Q 0 Ls [] sf h 0 0) : own_Met K M as' sf h Q := by
  intro ws
  refine MetFree.of_bodySF hpn hisR ?_
  intro p e s m args below meth c s₁ Bd hml0 hP hK
  obtain ⟨rfl, hZ, hh, hEW, hC, hsf, hE⟩ := hP
  have hown : s.vm.findClass M.y.cls = some m.cls := findClass_of_methodNamed Bd.named
  have hnm := (name_of_methodNamed Bd.named Bd.method).1
  have X0 : Stand p K.l e M.R s m args below meth c s₁ [] 0 0 := Stand.of_body Bd
  have e0 : s₁.heap = h := by rw [← hh, Bd.state]; rfl
  have hI : own_Inv K s s.vm 0 h sf := ⟨(State.WarmedH.refl s).since _, Nat.zero_le _, fun _ => State.WarmedH.refl s, by rw [← hh]; exact CHr.refl (by rw [hh]; exact hC), hsf, hE⟩
  obtain ⟨s₂, o, h1, h2, h3, h4⟩ := k p e s s.vm 0 m args below meth c s₁ [] 0 0 ⟨Bd.exec, Bd.bytes, hml0, hown, hnm, Bd.returns, BodyLoose.notSynchronized Bd, hZ, hEW⟩ X0 (Nat.le_refl _) (Nat.le_refl _) e0 (Fr.nil _) hI
  refine ⟨s₂, o, ?_, h2, h3, h4⟩
  rw [ef m]
  exact h1
theorem own_step (k : own_WP K M Q pc' Ls' St' sf h cs sl)
    (st : ∀ (p : Program) (e : Env) (s : State) (m : MethodId) (args : Array Value) (below : List Frame) (meth : Method) (c : Code) (T : State) (locs : List Loc) (cs' sl' : Nat), own_Bdy K M p s m meth c → Stand p K.l e M.R s m args below meth c T locs cs' sl' → T.heap = h →
      ∀ t, Steps p.tables e below (T.setTop (mkF m pc' Ls'.toArray St')) t → Steps p.tables e below (T.setTop (mkF m pc Ls.toArray St)) t) : own_WP K M Q pc Ls St sf h cs sl := by
  intro p e s vm0 k0 m args below meth c T locs cs' sl' B X hc hs eT N I
  obtain ⟨s₂, o, h1, r⟩ := k p e s vm0 k0 m args below meth c T locs cs' sl' B X hc hs eT N I
  exact ⟨s₂, o, st p e _ m args below meth c T locs cs' sl' B X eT _ h1, r⟩
theorem own_move (k : own_WP K M Q pc' Ls' St' sf h cs sl)
    (st : ∀ (p : Program) (e : Env) (s : State) (m : MethodId) (args : Array Value) (below : List Frame) (meth : Method) (c : Code) (T : State) (locs : List Loc) (cs' sl' : Nat), own_Bdy K M p s m meth c → Stand p K.l e M.R s m args below meth c T locs cs' sl' → T.heap = h → Ext K.Z.heap h →
      ∃ T', Stand p K.l e M.R s m args below meth c T' locs cs' sl' ∧ T'.heap = h ∧ ∀ t, Steps p.tables e below (T'.setTop (mkF m pc' Ls'.toArray St')) t → Steps p.tables e below (T.setTop (mkF m pc Ls.toArray St)) t) : own_WP K M Q pc Ls St sf h cs sl := by
  intro p e s vm0 k0 m args below meth c T locs cs' sl' B X hc hs eT N I
  obtain ⟨T', X', e', st'⟩ := st p e _ m args below meth c T locs cs' sl' B X eT I.2.2.2.2.2
  obtain ⟨s₂, o, h1, r⟩ := k p e s vm0 k0 m args below meth c T' locs cs' sl' B X' hc hs e' N I
  exact ⟨s₂, o, st' _ h1, r⟩
theorem own_Sf.new {vm : Vm} {h' : Heap} (E : Ext h h') (hH : CHv K.Z K.E vm h) (hE : Ext K.Z.heap h) (hlt : h.size < h'.size) (S : own_Sf K vm h sf) : own_Sf K vm h' (h.size :: sf) := by
  intro x hx
  rcases List.mem_cons.mp hx with rfl | hx
  · exact ⟨hE.1, hlt, Safe.ext E hH (Safe.new (Nat.le_refl _))⟩
  · obtain ⟨q1, q2, q3⟩ := S x hx
    exact ⟨q1, Nat.lt_of_lt_of_le q2 E.1, Safe.ext E hH q3⟩
theorem own_grow {dc ds : Nat} {P : Heap → Prop} (hc : cs + dc ≤ M.R.cells) (hs : sl + ds ≤ M.R.slots)
    (k : ∀ h', Ext h h' → P h' → own_WP K M Q pc' Ls' St' (h.size :: sf) h' (cs + dc) (sl + ds))
    (st : ∀ (p : Program) (e : Env) (s : State) (m : MethodId) (args : Array Value) (below : List Frame) (meth : Method) (c : Code) (T : State) (locs : List Loc) (cs' sl' : Nat), own_Bdy K M p s m meth c → Stand p K.l e M.R s m args below meth c T locs cs' sl' → cs' + dc ≤ M.R.cells → sl' + ds ≤ M.R.slots → T.heap = h →
      ∃ T' h', Stand p K.l e M.R s m args below meth c T' locs (cs' + dc) (sl' + ds) ∧ T'.heap = h' ∧ Ext h h' ∧ h.size < h'.size ∧ P h' ∧ ∀ t, Steps p.tables e below (T'.setTop (mkF m pc' Ls'.toArray St')) t → Steps p.tables e below (T.setTop (mkF m pc Ls.toArray St)) t) : own_WP K M Q pc Ls St sf h cs sl := by
  intro p e s vm0 k0 m args below meth c T locs cs' sl' B X hc' hs' eT N I
  obtain ⟨T', h', X', e', E, hlt, hP, st'⟩ := st p e _ m args below meth c T locs cs' sl' B X (by omega) (by omega) eT
  obtain ⟨i1, i2, i3, i4, i5, i6⟩ := I
  obtain ⟨s₂, o, h1, r⟩ := k h' E hP p e s vm0 k0 m args below meth c T' locs (cs' + dc) (sl' + ds) B X' (by omega) (by omega) e' N ⟨i1, Nat.le_trans i2 E.1, i3, i4.trans (CHr.ext E i4.1), own_Sf.new E i4.1 i6 hlt i5, own_ext_trans i6 E⟩
  exact ⟨s₂, o, st' _ h1, r⟩
theorem own_Sf.wr {vm : Vm} {h' : Heap} {a : Addr} {i : Nat} {v : Value} (W : Wr h h' a i v) (hH : CHv K.Z K.E vm h) (ha : a ∈ sf) (S : own_Sf K vm h sf) : own_Sf K vm h' sf := by
  intro x hx
  obtain ⟨q1, q2, q3⟩ := S x hx
  exact ⟨q1, by rw [W.size]; exact q2, Safe.wr W (S a ha).2.2 hH q3⟩
theorem own_ext_wr {h h' : Heap} {Z : State} {a : Addr} {i : Nat} {v : Value} (W : Wr h h' a i v) (ha : Z.heap.size ≤ a) (E : Ext Z.heap h) : Ext Z.heap h' := by
  have K := Keep.of_wr W
  exact ⟨by rw [W.size]; exact E.1, fun x c q => K.2.1 x c (E.2 x c q) (by
    intro hm
    have h1 : x < Z.heap.size := (Array.getElem?_eq_some_iff.mp q).1
    have h2 := List.mem_singleton.mp hm
    subst h2
    exact Nat.lt_irrefl _ (Nat.lt_of_lt_of_le h1 ha))⟩
theorem own_write {a : Addr} {i : Nat} {v : Value} (ha : a ∈ sf) (k : ∀ h', Wr h h' a i v → own_WP K M Q pc' Ls' St' sf h' cs sl)
    (st : ∀ (p : Program) (e : Env) (s : State) (m : MethodId) (args : Array Value) (below : List Frame) (meth : Method) (c : Code) (T : State) (locs : List Loc) (cs' sl' : Nat), own_Bdy K M p s m meth c → Stand p K.l e M.R s m args below meth c T locs cs' sl' → T.heap = h →
      ∃ T' h', Stand p K.l e M.R s m args below meth c T' (locs ++ [⟨a, i⟩]) cs' sl' ∧ T'.heap = h' ∧ Wr h h' a i v ∧ ∀ t, Steps p.tables e below (T'.setTop (mkF m pc' Ls'.toArray St')) t → Steps p.tables e below (T.setTop (mkF m pc Ls.toArray St)) t) : own_WP K M Q pc Ls St sf h cs sl := by
  intro p e s vm0 k0 m args below meth c T locs cs' sl' B X hc' hs' eT N I
  obtain ⟨T', h', X', e', W, st'⟩ := st p e _ m args below meth c T locs cs' sl' B X eT
  obtain ⟨i1, i2, i3, i4, i5, i6⟩ := I
  have hn := (i5 a ha).1
  obtain ⟨s₂, o, h1, r⟩ := k h' W p e s vm0 k0 m args below meth c T' _ cs' sl' B X' hc' hs' e' (Fr.snoc X' N hn) ⟨i1, by rw [W.size]; exact i2, i3, i4.trans (CHr.wr W (i5 a ha).2.2 i4.1), own_Sf.wr W i4.1 ha i5, own_ext_wr W hn i6⟩
  exact ⟨s₂, o, st' _ h1, r⟩
/-- fewer writable places, more room spent: a weaker sentence -/
theorem own_weak {sf' : List Addr} {cs1 sl1 : Nat} (k : own_WP K M Q pc Ls St sf' h cs1 sl1) (hsf : ∀ x ∈ sf', x ∈ sf) (hc : cs ≤ cs1) (hs : sl ≤ sl1) : own_WP K M Q pc Ls St sf h cs sl :=
  fun p e s vm0 k0 m args below meth c T locs cs' sl' B X hc' hs' eT N I => k p e s vm0 k0 m args below meth c T locs cs' sl' B X (Nat.le_trans hc' hc) (Nat.le_trans hs' hs) eT N ⟨I.1, I.2.1, I.2.2.1, I.2.2.2.1, fun x hx => I.2.2.2.2.1 x (hsf x hx), I.2.2.2.2.2⟩
/-- the end -/
theorem own_leave {v : Option Value} (hv : M.ret = none → v = none) (hc : cs ≤ M.R.cells) (hs : sl ≤ M.R.slots) (q : Q v h sf)
    (st : ∀ (p : Program) (e : Env) (s : State) (m : MethodId) (args : Array Value) (below : List Frame) (meth : Method) (c : Code) (T : State) (locs : List Loc) (cs' sl' : Nat), own_Bdy K M p s m meth c → Stand p K.l e M.R s m args below meth c T locs cs' sl' →
      ∀ fs, (∀ (f : JFrame) (acts : List Action), f.method = m → f.locked = none → f.entered = [] → (doReturn e (T.setTop f) acts v).1 = T.setFrames fs) → Steps p.tables e below (T.setTop (mkF m pc Ls.toArray St)) (T.setFrames fs)) : own_WP K M Q pc Ls St sf h cs sl := by
  intro p e s vm0 k0 m args below meth c T locs cs' sl' B X hc' hs' eT N I
  obtain ⟨i1, i2, i3, i4, i5, i6⟩ := I
  have hlk : meth.locks = false := B.2.2.2.2.2.2.1
  have hr : meth.sig.returnType = M.ret := B.2.2.2.2.2.1
  obtain ⟨a1, hEW⟩ := B.2.2.2.2.2.2.2.2
  obtain ⟨fs, h1, h2, h3, h4⟩ := X.leaveW i1 (by rw [eT]; exact i2) (v := v) (by rw [hr]; exact hv) hlk
  have A : CHr K.Z K.E vm0 h T.vm h := CHv.at X B.2.2.2.2.2.2.2.1 hEW i4.1
  refine ⟨_, _, st p e _ m args below meth c T locs cs' sl' B X fs h1, h2, h3, v, locs, sf, rfl, ?_, N, ?_, ?_, ?_, ?_, ?_⟩
  · show Q v T.heap sf; rw [eT]; exact q
  · show CHr K.Z K.E s.vm s.heap T.vm T.heap; rw [eT]; exact i4.trans A
  · show own_Sf K T.vm T.heap sf
    rw [eT]
    exact fun x hx => ⟨(i5 x hx).1, (i5 x hx).2.1, A.safe (i5 x hx).2.1 (i5 x hx).2.2⟩
  · show Ext K.Z.heap T.heap; rw [eT]; exact i6
  · obtain ⟨r1, r2, r3, r4⟩ := h4
    exact ⟨r1, r2, r3, r4.mono (by omega) (by omega)⟩
  · exact fun q => State.WarmedH.trans (t := s.setVm vm0) (i3 q) X.warmed
end Core
section Calls
variable {K : own_Cx} {M M' : own_Mi} {Q Q' : own_Q} {pc pc' : Nat} {Ls : List Slot} {St rest : List Value} {sf sf' : List Addr} {h : Heap} {cs sl : Nat} {a0 : Array Value}
theorem own_back {R : Room} {p : Program} {e : Env} {s : State} {vm0 : Vm} {k0 : Nat} {below : List Frame} {args as' : Array Value} {len W : Nat} (hM : own_Met K M' as' sf' h Q') (hsf : ∀ x ∈ sf', x ∈ sf) (hZ : K.Z.Warmed39 vm0) (hEW : ∃ a0, EW K.Z a0 K.E) (I : own_Inv K s vm0 k0 h sf)
    (wc : (Jvm.Cond.code M'.y M'.b M'.mx M'.ret).before a0 K.Z = true) (wz : (Jvm.Cond.initialized M'.y.cls).before a0 K.Z = true) (hf : M'.R.frames + 1 ≤ R.frames) (hl : W + (M'.mx + 11) + M'.R.locals ≤ R.locals) :
    BackS K.l R p e below (s.setVm vm0) args M'.y len W (fun A a => a = as' ∧ A.U.heap = h ∧ A.cells + M'.R.cells ≤ R.cells ∧ A.slots + M'.R.slots ≤ R.slots)
      (fun A _ v B => ∃ L xs, Q' v B.U.heap xs ∧ Fr K.n L ∧ B.locs = A.locs ++ L ∧ B.cells = A.cells + M'.R.cells ∧ B.slots = A.slots + M'.R.slots ∧ CHr K.Z K.E vm0 h B.U.vm B.U.heap ∧ own_Sf K B.U.vm B.U.heap xs ∧ Ext K.Z.heap B.U.heap ∧ (K.nw = true → (s.setVm vm0).WarmedH B.U.vm)) := by
  obtain ⟨a1, hE⟩ := hEW
  have H := I.2.2.2.1.1
  exact BackS.of_freeW (bytes := M'.b) (maxL := M'.mx) (ret := M'.ret) (E := fun _ first o t L k n => k = M'.R.cells ∧ n = M'.R.slots ∧ ∃ v xs, o = .returned v ∧ Q' v t.heap xs ∧ Fr K.n L ∧ CHr K.Z K.E first.vm first.heap t.vm t.heap ∧ own_Sf K t.vm t.heap xs ∧ Ext K.Z.heap t.heap ∧ (K.nw = true → first.WarmedH t.vm)) (hM []) hf hl
    (fun m meth c A a Y hp => have hU : K.Z.Warmed39 A.U.vm := wtrans (s := s.setVm vm0) hZ Y.warmed
      ⟨by show (Jvm.Cond.and _ .tt).before a A.U = true; rw [Cond.before_and, mv hU wc]; rfl, mv hU wc, mv hU wz, hp.2.2.1, hp.2.2.2⟩)
    (fun m meth c A a g mk Y hp => ⟨hp.1, wtrans (s := s.setVm vm0) hZ Y.warmed, hp.2.1, ⟨a1, hE⟩, (CHv.at Y hZ hE H).1, fun x hx => have q := I.2.2.2.2.1 x (hsf x hx); ⟨q.1, q.2.1, (CHv.at Y hZ hE H).safe q.2.1 q.2.2⟩, I.2.2.2.2.2⟩)
    (fun _ _ _ _ _ _ _ _ _ => trivial)
    (fun _ _ _ _ ⟨v, L, xs, h1, h2, h3, h4, h5, h6, h7, h8⟩ => ⟨L, _, _, h7, rfl, rfl, v, xs, h1, h2, h3, h4, h5, h6, h8⟩)
    (fun m meth c A a g mk v t L k n Y hp _ _ ⟨e1, e2, v', xs, e3, e4, e5, e6, e7, e8, e9⟩ => by
      cases e3; subst e1 e2
      refine ⟨L, xs, e4, e5, rfl, rfl, rfl, (CHv.at Y hZ hE H).trans ?_, e7, e8, fun q => ?_⟩
      · rw [← hp.2.1]; exact e6
      · exact State.WarmedH.trans Y.warmed (e9 q))
theorem own_called {p : Program} {e : Env} {s : State} {vm0 : Vm} {k0 : Nat} {m : MethodId} {args : Array Value} {below : List Frame} {meth : Method} {c : Code} {T : State} {locs : List Loc} {cs' sl' : Nat} {v : Option Value} {B : Pt}
    (k : ∀ v h' xs, Q' v h' xs → own_WP K M Q pc' Ls (v.toList ++ rest) (xs ++ sf) h' (cs + M'.R.cells) (sl + M'.R.slots)) (Bd : own_Bdy K M p (s.setVm vm0) m meth c) (hc : cs' ≤ cs) (hs : sl' ≤ sl) (eT : T.heap = h) (N : Fr K.n locs) (I : own_Inv K s vm0 k0 h sf)
    (X' : Stand p K.l e M.R ((s.setVm vm0).setVm B.U.vm) m args below meth c B.U B.locs B.cells B.slots) (hS : (s.setVm vm0).Since B.U.vm B.U.heap.size) (hg : T.heap.size ≤ B.U.heap.size)
    (P : ∃ L xs, Q' v B.U.heap xs ∧ Fr K.n L ∧ B.locs = locs ++ L ∧ B.cells = cs' + M'.R.cells ∧ B.slots = sl' + M'.R.slots ∧ CHr K.Z K.E vm0 h B.U.vm B.U.heap ∧ own_Sf K B.U.vm B.U.heap xs ∧ Ext K.Z.heap B.U.heap ∧ (K.nw = true → (s.setVm vm0).WarmedH B.U.vm))
    {F : State} (st : Steps p.tables e below F (B.U.setTop (mkF m pc' Ls.toArray (v.toList ++ rest)))) : own_Fin K M.R Q p e below s F := by
  obtain ⟨U, l1, c1, s1⟩ := B
  obtain ⟨L, xs, q, NL, eL, ec, es, C, S, E, w⟩ := P
  dsimp only [Pt.U, Pt.locs, Pt.cells, Pt.slots] at X' hS hg q eL ec es C S E w st
  subst eL ec es
  obtain ⟨i1, i2, i3, i4, i5, i6⟩ := I
  obtain ⟨b1, b2, b3, b4, b5, b6, b7, b8, b9⟩ := Bd
  obtain ⟨X2, S2, Z2, O2⟩ := rebS (Z := K.Z) (own := M.y.cls) i1 (n1 := T.heap.size) (by rw [eT]; exact i2) X' hS hg b8 b4
  obtain ⟨s₂, o, h1, r⟩ := k v U.heap xs q p e s U.vm U.heap.size m args below meth c U (locs ++ L) _ _ ⟨b1, b2, b3, O2, b5, b6, b7, Z2, b9⟩ X2 (Nat.add_le_add_right hc _) (Nat.add_le_add_right hs _) rfl (N.app NL)
    ⟨S2, Nat.le_refl _, fun q => State.WarmedH.trans (t := s.setVm vm0) (i3 q) (w q), i4.trans C, fun x hx => by
      rcases List.mem_append.mp hx with hx | hx
      · exact S x hx
      · exact ⟨(i5 x hx).1, Nat.lt_of_lt_of_le (i5 x hx).2.1 C.2.1, C.safe (i5 x hx).2.1 (i5 x hx).2.2⟩, E⟩
  exact ⟨s₂, o, st.trans h1, r⟩
theorem own_static {index : Nat} {argsL : List Value} (hd : decode M.b pc = .ok (.invokestatic index, 3)) (hp : pc + 3 = pc') (w1 : (Jvm.Cond.methodLink M.y.cls index M'.y).before a0 K.Z = true) (w2 : (Jvm.Cond.static M'.y).before a0 K.Z = true) (w3 : (Jvm.Cond.initialized M'.y.cls).before a0 K.Z = true) (w4 : (Jvm.Cond.code M'.y M'.b M'.mx M'.ret).before a0 K.Z = true)
    (hy : M'.y.cls ≠ "java/lang/invoke/MethodHandle" ∧ M'.y.cls ≠ "java/lang/invoke/VarHandle") (hsz : Ls.length = M.mx) (hlen : ∀ sig, parseMethodDescriptor M'.y.desc = some sig → argsL.length = sig.parameters.length) (hst : St = argsL.reverse ++ rest)
    (hf : Nat.ble (M'.R.frames + 1) M.R.frames = true) (hl : Nat.ble ((rest.map fun v => v.category).sum + (M'.mx + 11) + M'.R.locals) M.R.locals = true) (hc : Nat.ble (cs + M'.R.cells) M.R.cells = true) (hs : Nat.ble (sl + M'.R.slots) M.R.slots = true)
    (hM : own_Met K M' argsL.toArray sf' h Q') (hsf : ∀ x ∈ sf', x ∈ sf) (k : ∀ v h' xs, Q' v h' xs → own_WP K M Q pc' Ls (v.toList ++ rest) (xs ++ sf) h' (cs + M'.R.cells) (sl + M'.R.slots)) : own_WP K M Q pc Ls St sf h cs sl := by
  subst hst hp
  intro p e s vm0 k0 m args below meth c T locs cs' sl' B X hc' hs' eT N I
  have q1 := Nat.le_of_ble_eq_true hf
  have q2 := Nat.le_of_ble_eq_true hl
  have q3 := Nat.le_of_ble_eq_true hc
  have q4 := Nat.le_of_ble_eq_true hs
  obtain ⟨v, vm₁, B', -, X', hS, hg, P, st⟩ := callSS X B.1 (y := M'.y) (bytes := M'.b) (maxL := M'.mx) (ret := M'.ret) B.2.2.2.1 (mv B.2.2.2.2.2.2.2.1 w1) (mv B.2.2.2.2.2.2.2.1 w2) (mv B.2.2.2.2.2.2.2.1 w3) (mv B.2.2.2.2.2.2.2.1 w4) hy
    (own_back (W := (rest.map fun v => v.category).sum) hM hsf B.2.2.2.2.2.2.2.1 B.2.2.2.2.2.2.2.2 I w4 w3 q1 q2) (g := mkF m pc Ls.toArray (argsL.reverse ++ rest)) rfl (by rw [B.2.2.1, ← hsz]; simp) (argsL := argsL) (rest := rest) hlen rfl (by show 2 * 0 + _ ≤ _; omega) (hb B.2.1 hd)
    (fun vm₁ _ => ⟨rfl, eT, by show cs' + _ ≤ _; omega, by show sl' + _ ≤ _; omega⟩)
  exact own_called k B hc' hs' eT N I X' hS hg P st
theorem own_special {index : Nat} {a : Addr} {argsL : List Value} (hd : decode M.b pc = .ok (.invokespecial index, 3)) (hp : pc + 3 = pc') (hn : M'.y.name = "<init>") (hrt : M'.ret = none) (w1 : (Jvm.Cond.methodLink M.y.cls index M'.y).before a0 K.Z = true) (w2 : (Jvm.Cond.instanceMethod M'.y).before a0 K.Z = true) (w3 : (Jvm.Cond.initialized M'.y.cls).before a0 K.Z = true) (w4 : (Jvm.Cond.code M'.y M'.b M'.mx M'.ret).before a0 K.Z = true)
    (hy : M'.y.cls ≠ "java/lang/invoke/MethodHandle" ∧ M'.y.cls ≠ "java/lang/invoke/VarHandle") (hsz : Ls.length = M.mx) (hlen : ∀ sig, parseMethodDescriptor M'.y.desc = some sig → argsL.length = sig.parameters.length) (hst : St = argsL.reverse ++ .ref a :: rest)
    (hf : Nat.ble (M'.R.frames + 1) M.R.frames = true) (hl : Nat.ble ((rest.map fun v => v.category).sum + (M'.mx + 11) + M'.R.locals) M.R.locals = true) (hc : Nat.ble (cs + M'.R.cells) M.R.cells = true) (hs : Nat.ble (sl + M'.R.slots) M.R.slots = true)
    (hM : own_Met K M' (.ref a :: argsL).toArray sf' h Q') (hsf : ∀ x ∈ sf', x ∈ sf) (k : ∀ v h' xs, Q' v h' xs → own_WP K M Q pc' Ls (v.toList ++ rest) (xs ++ sf) h' (cs + M'.R.cells) (sl + M'.R.slots)) : own_WP K M Q pc Ls St sf h cs sl := by
  subst hst hp
  intro p e s vm0 k0 m args below meth c T locs cs' sl' B X hc' hs' eT N I
  have q1 := Nat.le_of_ble_eq_true hf
  have q2 := Nat.le_of_ble_eq_true hl
  have q3 := Nat.le_of_ble_eq_true hc
  have q4 := Nat.le_of_ble_eq_true hs
  have w4' : (Jvm.Cond.code M'.y M'.b M'.mx none).before a0 K.Z = true := by rw [← hrt]; exact w4
  obtain ⟨v, vm₁, B', -, X', hS, hg, P, st⟩ := X.specialBackS B.1 (y := M'.y) hn B.2.2.2.1 (mv B.2.2.2.2.2.2.2.1 w1) (mv B.2.2.2.2.2.2.2.1 w2) (bytes := M'.b) (maxL := M'.mx) (mv B.2.2.2.2.2.2.2.1 w4') hy
    (own_back (W := (rest.map fun v => v.category).sum) hM hsf B.2.2.2.2.2.2.2.1 B.2.2.2.2.2.2.2.2 I w4 w3 q1 q2) (g := mkF m pc Ls.toArray (argsL.reverse ++ .ref a :: rest)) rfl (by rw [B.2.2.1, ← hsz]; simp) (Steps.refl _) (a := a) (argsL := argsL) (rest := rest) hlen rfl (by show 2 * 0 + _ ≤ _; omega) (hb B.2.1 hd)
    (fun vm₁ _ => ⟨rfl, eT, by show cs' + _ ≤ _; omega, by show sl' + _ ≤ _; omega⟩)
  exact own_called k B hc' hs' eT N I X' hS hg P st
theorem own_virtual {index : Nat} {a : Addr} {C : String} {argsL : List Value} (hd : decode M.b pc = .ok (.invokevirtual index, 3)) (hp : pc + 3 = pc') (w1 : (Jvm.Cond.methodLink M.y.cls index M'.y).before a0 K.Z = true) (w2 : (Jvm.Cond.declares M'.y).before a0 K.Z = true) (w5 : (Jvm.Cond.selects C M'.y M'.y).before a0 K.Z = true) (w6 : (Jvm.Cond.instanceMethod M'.y).before a0 K.Z = true) (w3 : (Jvm.Cond.initialized M'.y.cls).before a0 K.Z = true) (w4 : (Jvm.Cond.code M'.y M'.b M'.mx M'.ret).before a0 K.Z = true)
    (hy : M'.y.cls ≠ "java/lang/invoke/MethodHandle" ∧ M'.y.cls ≠ "java/lang/invoke/VarHandle") (hsz : Ls.length = M.mx) (hlen : ∀ sig, parseMethodDescriptor M'.y.desc = some sig → argsL.length = sig.parameters.length) (hst : St = argsL.reverse ++ .ref a :: rest)
    (hf : Nat.ble (M'.R.frames + 1) M.R.frames = true) (hl : Nat.ble ((rest.map fun v => v.category).sum + (M'.mx + 11) + M'.R.locals) M.R.locals = true) (hc : Nat.ble (cs + M'.R.cells) M.R.cells = true) (hs : Nat.ble (sl + M'.R.slots) M.R.slots = true)
    (E : Exa K.Z h a C) (hM : own_Met K M' (.ref a :: argsL).toArray sf' h Q') (hsf : ∀ x ∈ sf', x ∈ sf) (k : ∀ v h' xs, Q' v h' xs → own_WP K M Q pc' Ls (v.toList ++ rest) (xs ++ sf) h' (cs + M'.R.cells) (sl + M'.R.slots)) : own_WP K M Q pc Ls St sf h cs sl := by
  subst hst hp
  intro p e s vm0 k0 m args below meth c T locs cs' sl' B X hc' hs' eT N I
  have q1 := Nat.le_of_ble_eq_true hf
  have q2 := Nat.le_of_ble_eq_true hl
  have q3 := Nat.le_of_ble_eq_true hc
  have q4 := Nat.le_of_ble_eq_true hs
  obtain ⟨cB, kB, r1, r2, r3⟩ := isOf (T := T) B.2.2.2.2.2.2.2.1 eT E
  obtain ⟨v, vm₁, B', -, X', hS, hg, P, st⟩ := X.virtualBackS B.1 (y := M'.y) (z := M'.y) B.2.2.2.1 (mv B.2.2.2.2.2.2.2.1 w1) (mv B.2.2.2.2.2.2.2.1 w2) (notFace_of_selects (args := #[]) (mv B.2.2.2.2.2.2.2.1 w5)) (mv B.2.2.2.2.2.2.2.1 w5) (mv B.2.2.2.2.2.2.2.1 w6) hy
    (own_back (W := (rest.map fun v => v.category).sum) hM hsf B.2.2.2.2.2.2.2.1 B.2.2.2.2.2.2.2.2 I w4 w3 q1 q2) r1 r3 (g := mkF m pc Ls.toArray (argsL.reverse ++ .ref a :: rest)) rfl (by rw [B.2.2.1, ← hsz]; simp) (Steps.refl _) (argsL := argsL) (rest := rest) hlen rfl (by show 2 * 0 + _ ≤ _; omega) (hb B.2.1 hd)
    (fun vm₁ _ => ⟨rfl, eT, by show cs' + _ ≤ _; omega, by show sl' + _ ≤ _; omega⟩)
  exact own_called k B hc' hs' eT N I X' hS hg P st
theorem own_static1v {index : Nat} {v0 : Value} {q' : Value → Heap → List Addr → Prop} (hd : decode M.b pc = .ok (.invokestatic index, 3)) (hp : pc + 3 = pc') (w1 : (Jvm.Cond.methodLink M.y.cls index M'.y).before a0 K.Z = true) (w2 : (Jvm.Cond.static M'.y).before a0 K.Z = true) (w3 : (Jvm.Cond.initialized M'.y.cls).before a0 K.Z = true) (w4 : (Jvm.Cond.code M'.y M'.b M'.mx M'.ret).before a0 K.Z = true) (hy : M'.y.cls ≠ "java/lang/invoke/MethodHandle" ∧ M'.y.cls ≠ "java/lang/invoke/VarHandle") (hsz : Ls.length = M.mx) (hlen : ∀ sig, parseMethodDescriptor M'.y.desc = some sig → 1 = sig.parameters.length)
    (hf : Nat.ble (M'.R.frames + 1) M.R.frames = true) (hl : Nat.ble ((rest.map fun v => v.category).sum + (M'.mx + 11) + M'.R.locals) M.R.locals = true) (hc : Nat.ble (cs + M'.R.cells) M.R.cells = true) (hs : Nat.ble (sl + M'.R.slots) M.R.slots = true) (hM : own_Met K M' #[v0] sf' h (own_ret q')) (hsf : ∀ x ∈ sf', x ∈ sf) (k : ∀ w h' xs, q' w h' xs → own_WP K M Q pc' Ls (w :: rest) (xs ++ sf) h' (cs + M'.R.cells) (sl + M'.R.slots)) :
    own_WP K M Q pc Ls (v0 :: rest) sf h cs sl := own_static (argsL := [v0]) hd hp w1 w2 w3 w4 hy hsz hlen rfl hf hl hc hs hM hsf (fun v h' xs ⟨w, e, q⟩ => by subst e; exact k w h' xs q)
theorem own_static2v {index : Nat} {v0 v1 : Value} {q' : Value → Heap → List Addr → Prop} (hd : decode M.b pc = .ok (.invokestatic index, 3)) (hp : pc + 3 = pc') (w1 : (Jvm.Cond.methodLink M.y.cls index M'.y).before a0 K.Z = true) (w2 : (Jvm.Cond.static M'.y).before a0 K.Z = true) (w3 : (Jvm.Cond.initialized M'.y.cls).before a0 K.Z = true) (w4 : (Jvm.Cond.code M'.y M'.b M'.mx M'.ret).before a0 K.Z = true) (hy : M'.y.cls ≠ "java/lang/invoke/MethodHandle" ∧ M'.y.cls ≠ "java/lang/invoke/VarHandle") (hsz : Ls.length = M.mx) (hlen : ∀ sig, parseMethodDescriptor M'.y.desc = some sig → 2 = sig.parameters.length)
    (hf : Nat.ble (M'.R.frames + 1) M.R.frames = true) (hl : Nat.ble ((rest.map fun v => v.category).sum + (M'.mx + 11) + M'.R.locals) M.R.locals = true) (hc : Nat.ble (cs + M'.R.cells) M.R.cells = true) (hs : Nat.ble (sl + M'.R.slots) M.R.slots = true) (hM : own_Met K M' #[v0, v1] sf' h (own_ret q')) (hsf : ∀ x ∈ sf', x ∈ sf) (k : ∀ w h' xs, q' w h' xs → own_WP K M Q pc' Ls (w :: rest) (xs ++ sf) h' (cs + M'.R.cells) (sl + M'.R.slots)) :
    own_WP K M Q pc Ls (v1 :: v0 :: rest) sf h cs sl := own_static (argsL := [v0, v1]) hd hp w1 w2 w3 w4 hy hsz hlen rfl hf hl hc hs hM hsf (fun v h' xs ⟨w, e, q⟩ => by subst e; exact k w h' xs q)
theorem own_static2n {index : Nat} {v0 v1 : Value} {q' : Heap → List Addr → Prop} (hd : decode M.b pc = .ok (.invokestatic index, 3)) (hp : pc + 3 = pc') (w1 : (Jvm.Cond.methodLink M.y.cls index M'.y).before a0 K.Z = true) (w2 : (Jvm.Cond.static M'.y).before a0 K.Z = true) (w3 : (Jvm.Cond.initialized M'.y.cls).before a0 K.Z = true) (w4 : (Jvm.Cond.code M'.y M'.b M'.mx M'.ret).before a0 K.Z = true) (hy : M'.y.cls ≠ "java/lang/invoke/MethodHandle" ∧ M'.y.cls ≠ "java/lang/invoke/VarHandle") (hsz : Ls.length = M.mx) (hlen : ∀ sig, parseMethodDescriptor M'.y.desc = some sig → 2 = sig.parameters.length)
    (hf : Nat.ble (M'.R.frames + 1) M.R.frames = true) (hl : Nat.ble ((rest.map fun v => v.category).sum + (M'.mx + 11) + M'.R.locals) M.R.locals = true) (hc : Nat.ble (cs + M'.R.cells) M.R.cells = true) (hs : Nat.ble (sl + M'.R.slots) M.R.slots = true) (hM : own_Met K M' #[v0, v1] sf' h (own_void q')) (hsf : ∀ x ∈ sf', x ∈ sf) (k : ∀ h' xs, q' h' xs → own_WP K M Q pc' Ls rest (xs ++ sf) h' (cs + M'.R.cells) (sl + M'.R.slots)) :
    own_WP K M Q pc Ls (v1 :: v0 :: rest) sf h cs sl := own_static (argsL := [v0, v1]) hd hp w1 w2 w3 w4 hy hsz hlen rfl hf hl hc hs hM hsf (fun v h' xs ⟨e, q⟩ => by subst e; exact k h' xs q)
theorem own_static3v {index : Nat} {v0 v1 v2 : Value} {q' : Value → Heap → List Addr → Prop} (hd : decode M.b pc = .ok (.invokestatic index, 3)) (hp : pc + 3 = pc') (w1 : (Jvm.Cond.methodLink M.y.cls index M'.y).before a0 K.Z = true) (w2 : (Jvm.Cond.static M'.y).before a0 K.Z = true) (w3 : (Jvm.Cond.initialized M'.y.cls).before a0 K.Z = true) (w4 : (Jvm.Cond.code M'.y M'.b M'.mx M'.ret).before a0 K.Z = true) (hy : M'.y.cls ≠ "java/lang/invoke/MethodHandle" ∧ M'.y.cls ≠ "java/lang/invoke/VarHandle") (hsz : Ls.length = M.mx) (hlen : ∀ sig, parseMethodDescriptor M'.y.desc = some sig → 3 = sig.parameters.length)
    (hf : Nat.ble (M'.R.frames + 1) M.R.frames = true) (hl : Nat.ble ((rest.map fun v => v.category).sum + (M'.mx + 11) + M'.R.locals) M.R.locals = true) (hc : Nat.ble (cs + M'.R.cells) M.R.cells = true) (hs : Nat.ble (sl + M'.R.slots) M.R.slots = true) (hM : own_Met K M' #[v0, v1, v2] sf' h (own_ret q')) (hsf : ∀ x ∈ sf', x ∈ sf) (k : ∀ w h' xs, q' w h' xs → own_WP K M Q pc' Ls (w :: rest) (xs ++ sf) h' (cs + M'.R.cells) (sl + M'.R.slots)) :
    own_WP K M Q pc Ls (v2 :: v1 :: v0 :: rest) sf h cs sl := own_static (argsL := [v0, v1, v2]) hd hp w1 w2 w3 w4 hy hsz hlen rfl hf hl hc hs hM hsf (fun v h' xs ⟨w, e, q⟩ => by subst e; exact k w h' xs q)
theorem own_static3n {index : Nat} {v0 v1 v2 : Value} {q' : Heap → List Addr → Prop} (hd : decode M.b pc = .ok (.invokestatic index, 3)) (hp : pc + 3 = pc') (w1 : (Jvm.Cond.methodLink M.y.cls index M'.y).before a0 K.Z = true) (w2 : (Jvm.Cond.static M'.y).before a0 K.Z = true) (w3 : (Jvm.Cond.initialized M'.y.cls).before a0 K.Z = true) (w4 : (Jvm.Cond.code M'.y M'.b M'.mx M'.ret).before a0 K.Z = true) (hy : M'.y.cls ≠ "java/lang/invoke/MethodHandle" ∧ M'.y.cls ≠ "java/lang/invoke/VarHandle") (hsz : Ls.length = M.mx) (hlen : ∀ sig, parseMethodDescriptor M'.y.desc = some sig → 3 = sig.parameters.length)
    (hf : Nat.ble (M'.R.frames + 1) M.R.frames = true) (hl : Nat.ble ((rest.map fun v => v.category).sum + (M'.mx + 11) + M'.R.locals) M.R.locals = true) (hc : Nat.ble (cs + M'.R.cells) M.R.cells = true) (hs : Nat.ble (sl + M'.R.slots) M.R.slots = true) (hM : own_Met K M' #[v0, v1, v2] sf' h (own_void q')) (hsf : ∀ x ∈ sf', x ∈ sf) (k : ∀ h' xs, q' h' xs → own_WP K M Q pc' Ls rest (xs ++ sf) h' (cs + M'.R.cells) (sl + M'.R.slots)) :
    own_WP K M Q pc Ls (v2 :: v1 :: v0 :: rest) sf h cs sl := own_static (argsL := [v0, v1, v2]) hd hp w1 w2 w3 w4 hy hsz hlen rfl hf hl hc hs hM hsf (fun v h' xs ⟨e, q⟩ => by subst e; exact k h' xs q)
theorem own_static4v {index : Nat} {v0 v1 v2 v3 : Value} {q' : Value → Heap → List Addr → Prop} (hd : decode M.b pc = .ok (.invokestatic index, 3)) (hp : pc + 3 = pc') (w1 : (Jvm.Cond.methodLink M.y.cls index M'.y).before a0 K.Z = true) (w2 : (Jvm.Cond.static M'.y).before a0 K.Z = true) (w3 : (Jvm.Cond.initialized M'.y.cls).before a0 K.Z = true) (w4 : (Jvm.Cond.code M'.y M'.b M'.mx M'.ret).before a0 K.Z = true) (hy : M'.y.cls ≠ "java/lang/invoke/MethodHandle" ∧ M'.y.cls ≠ "java/lang/invoke/VarHandle") (hsz : Ls.length = M.mx) (hlen : ∀ sig, parseMethodDescriptor M'.y.desc = some sig → 4 = sig.parameters.length)
    (hf : Nat.ble (M'.R.frames + 1) M.R.frames = true) (hl : Nat.ble ((rest.map fun v => v.category).sum + (M'.mx + 11) + M'.R.locals) M.R.locals = true) (hc : Nat.ble (cs + M'.R.cells) M.R.cells = true) (hs : Nat.ble (sl + M'.R.slots) M.R.slots = true) (hM : own_Met K M' #[v0, v1, v2, v3] sf' h (own_ret q')) (hsf : ∀ x ∈ sf', x ∈ sf) (k : ∀ w h' xs, q' w h' xs → own_WP K M Q pc' Ls (w :: rest) (xs ++ sf) h' (cs + M'.R.cells) (sl + M'.R.slots)) :
    own_WP K M Q pc Ls (v3 :: v2 :: v1 :: v0 :: rest) sf h cs sl := own_static (argsL := [v0, v1, v2, v3]) hd hp w1 w2 w3 w4 hy hsz hlen rfl hf hl hc hs hM hsf (fun v h' xs ⟨w, e, q⟩ => by subst e; exact k w h' xs q)
theorem own_static5v {index : Nat} {v0 v1 v2 v3 v4 : Value} {q' : Value → Heap → List Addr → Prop} (hd : decode M.b pc = .ok (.invokestatic index, 3)) (hp : pc + 3 = pc') (w1 : (Jvm.Cond.methodLink M.y.cls index M'.y).before a0 K.Z = true) (w2 : (Jvm.Cond.static M'.y).before a0 K.Z = true) (w3 : (Jvm.Cond.initialized M'.y.cls).before a0 K.Z = true) (w4 : (Jvm.Cond.code M'.y M'.b M'.mx M'.ret).before a0 K.Z = true) (hy : M'.y.cls ≠ "java/lang/invoke/MethodHandle" ∧ M'.y.cls ≠ "java/lang/invoke/VarHandle") (hsz : Ls.length = M.mx) (hlen : ∀ sig, parseMethodDescriptor M'.y.desc = some sig → 5 = sig.parameters.length)
    (hf : Nat.ble (M'.R.frames + 1) M.R.frames = true) (hl : Nat.ble ((rest.map fun v => v.category).sum + (M'.mx + 11) + M'.R.locals) M.R.locals = true) (hc : Nat.ble (cs + M'.R.cells) M.R.cells = true) (hs : Nat.ble (sl + M'.R.slots) M.R.slots = true) (hM : own_Met K M' #[v0, v1, v2, v3, v4] sf' h (own_ret q')) (hsf : ∀ x ∈ sf', x ∈ sf) (k : ∀ w h' xs, q' w h' xs → own_WP K M Q pc' Ls (w :: rest) (xs ++ sf) h' (cs + M'.R.cells) (sl + M'.R.slots)) :
    own_WP K M Q pc Ls (v4 :: v3 :: v2 :: v1 :: v0 :: rest) sf h cs sl := own_static (argsL := [v0, v1, v2, v3, v4]) hd hp w1 w2 w3 w4 hy hsz hlen rfl hf hl hc hs hM hsf (fun v h' xs ⟨w, e, q⟩ => by subst e; exact k w h' xs q)
theorem own_static5n {index : Nat} {v0 v1 v2 v3 v4 : Value} {q' : Heap → List Addr → Prop} (hd : decode M.b pc = .ok (.invokestatic index, 3)) (hp : pc + 3 = pc') (w1 : (Jvm.Cond.methodLink M.y.cls index M'.y).before a0 K.Z = true) (w2 : (Jvm.Cond.static M'.y).before a0 K.Z = true) (w3 : (Jvm.Cond.initialized M'.y.cls).before a0 K.Z = true) (w4 : (Jvm.Cond.code M'.y M'.b M'.mx M'.ret).before a0 K.Z = true) (hy : M'.y.cls ≠ "java/lang/invoke/MethodHandle" ∧ M'.y.cls ≠ "java/lang/invoke/VarHandle") (hsz : Ls.length = M.mx) (hlen : ∀ sig, parseMethodDescriptor M'.y.desc = some sig → 5 = sig.parameters.length)
    (hf : Nat.ble (M'.R.frames + 1) M.R.frames = true) (hl : Nat.ble ((rest.map fun v => v.category).sum + (M'.mx + 11) + M'.R.locals) M.R.locals = true) (hc : Nat.ble (cs + M'.R.cells) M.R.cells = true) (hs : Nat.ble (sl + M'.R.slots) M.R.slots = true) (hM : own_Met K M' #[v0, v1, v2, v3, v4] sf' h (own_void q')) (hsf : ∀ x ∈ sf', x ∈ sf) (k : ∀ h' xs, q' h' xs → own_WP K M Q pc' Ls rest (xs ++ sf) h' (cs + M'.R.cells) (sl + M'.R.slots)) :
    own_WP K M Q pc Ls (v4 :: v3 :: v2 :: v1 :: v0 :: rest) sf h cs sl := own_static (argsL := [v0, v1, v2, v3, v4]) hd hp w1 w2 w3 w4 hy hsz hlen rfl hf hl hc hs hM hsf (fun v h' xs ⟨e, q⟩ => by subst e; exact k h' xs q)
theorem own_special1n {index : Nat} {a : Addr} {v0 : Value} {q' : Heap → List Addr → Prop} (hd : decode M.b pc = .ok (.invokespecial index, 3)) (hp : pc + 3 = pc') (hn : M'.y.name = "<init>") (hrt : M'.ret = none) (w1 : (Jvm.Cond.methodLink M.y.cls index M'.y).before a0 K.Z = true) (w2 : (Jvm.Cond.instanceMethod M'.y).before a0 K.Z = true) (w3 : (Jvm.Cond.initialized M'.y.cls).before a0 K.Z = true) (w4 : (Jvm.Cond.code M'.y M'.b M'.mx M'.ret).before a0 K.Z = true) (hy : M'.y.cls ≠ "java/lang/invoke/MethodHandle" ∧ M'.y.cls ≠ "java/lang/invoke/VarHandle") (hsz : Ls.length = M.mx) (hlen : ∀ sig, parseMethodDescriptor M'.y.desc = some sig → 1 = sig.parameters.length)
    (hf : Nat.ble (M'.R.frames + 1) M.R.frames = true) (hl : Nat.ble ((rest.map fun v => v.category).sum + (M'.mx + 11) + M'.R.locals) M.R.locals = true) (hc : Nat.ble (cs + M'.R.cells) M.R.cells = true) (hs : Nat.ble (sl + M'.R.slots) M.R.slots = true) (hM : own_Met K M' #[.ref a, v0] sf' h (own_void q')) (hsf : ∀ x ∈ sf', x ∈ sf) (k : ∀ h' xs, q' h' xs → own_WP K M Q pc' Ls rest (xs ++ sf) h' (cs + M'.R.cells) (sl + M'.R.slots)) :
    own_WP K M Q pc Ls (v0 :: .ref a :: rest) sf h cs sl := own_special (argsL := [v0]) hd hp hn hrt w1 w2 w3 w4 hy hsz hlen rfl hf hl hc hs hM hsf (fun v h' xs ⟨e, q⟩ => by subst e; exact k h' xs q)
theorem own_special2n {index : Nat} {a : Addr} {v0 v1 : Value} {q' : Heap → List Addr → Prop} (hd : decode M.b pc = .ok (.invokespecial index, 3)) (hp : pc + 3 = pc') (hn : M'.y.name = "<init>") (hrt : M'.ret = none) (w1 : (Jvm.Cond.methodLink M.y.cls index M'.y).before a0 K.Z = true) (w2 : (Jvm.Cond.instanceMethod M'.y).before a0 K.Z = true) (w3 : (Jvm.Cond.initialized M'.y.cls).before a0 K.Z = true) (w4 : (Jvm.Cond.code M'.y M'.b M'.mx M'.ret).before a0 K.Z = true) (hy : M'.y.cls ≠ "java/lang/invoke/MethodHandle" ∧ M'.y.cls ≠ "java/lang/invoke/VarHandle") (hsz : Ls.length = M.mx) (hlen : ∀ sig, parseMethodDescriptor M'.y.desc = some sig → 2 = sig.parameters.length)
    (hf : Nat.ble (M'.R.frames + 1) M.R.frames = true) (hl : Nat.ble ((rest.map fun v => v.category).sum + (M'.mx + 11) + M'.R.locals) M.R.locals = true) (hc : Nat.ble (cs + M'.R.cells) M.R.cells = true) (hs : Nat.ble (sl + M'.R.slots) M.R.slots = true) (hM : own_Met K M' #[.ref a, v0, v1] sf' h (own_void q')) (hsf : ∀ x ∈ sf', x ∈ sf) (k : ∀ h' xs, q' h' xs → own_WP K M Q pc' Ls rest (xs ++ sf) h' (cs + M'.R.cells) (sl + M'.R.slots)) :
    own_WP K M Q pc Ls (v1 :: v0 :: .ref a :: rest) sf h cs sl := own_special (argsL := [v0, v1]) hd hp hn hrt w1 w2 w3 w4 hy hsz hlen rfl hf hl hc hs hM hsf (fun v h' xs ⟨e, q⟩ => by subst e; exact k h' xs q)
theorem own_special4n {index : Nat} {a : Addr} {v0 v1 v2 v3 : Value} {q' : Heap → List Addr → Prop} (hd : decode M.b pc = .ok (.invokespecial index, 3)) (hp : pc + 3 = pc') (hn : M'.y.name = "<init>") (hrt : M'.ret = none) (w1 : (Jvm.Cond.methodLink M.y.cls index M'.y).before a0 K.Z = true) (w2 : (Jvm.Cond.instanceMethod M'.y).before a0 K.Z = true) (w3 : (Jvm.Cond.initialized M'.y.cls).before a0 K.Z = true) (w4 : (Jvm.Cond.code M'.y M'.b M'.mx M'.ret).before a0 K.Z = true) (hy : M'.y.cls ≠ "java/lang/invoke/MethodHandle" ∧ M'.y.cls ≠ "java/lang/invoke/VarHandle") (hsz : Ls.length = M.mx) (hlen : ∀ sig, parseMethodDescriptor M'.y.desc = some sig → 4 = sig.parameters.length)
    (hf : Nat.ble (M'.R.frames + 1) M.R.frames = true) (hl : Nat.ble ((rest.map fun v => v.category).sum + (M'.mx + 11) + M'.R.locals) M.R.locals = true) (hc : Nat.ble (cs + M'.R.cells) M.R.cells = true) (hs : Nat.ble (sl + M'.R.slots) M.R.slots = true) (hM : own_Met K M' #[.ref a, v0, v1, v2, v3] sf' h (own_void q')) (hsf : ∀ x ∈ sf', x ∈ sf) (k : ∀ h' xs, q' h' xs → own_WP K M Q pc' Ls rest (xs ++ sf) h' (cs + M'.R.cells) (sl + M'.R.slots)) :
    own_WP K M Q pc Ls (v3 :: v2 :: v1 :: v0 :: .ref a :: rest) sf h cs sl := own_special (argsL := [v0, v1, v2, v3]) hd hp hn hrt w1 w2 w3 w4 hy hsz hlen rfl hf hl hc hs hM hsf (fun v h' xs ⟨e, q⟩ => by subst e; exact k h' xs q)
theorem own_virtual0v {index : Nat} {a : Addr} {C : String} {q' : Value → Heap → List Addr → Prop} (hd : decode M.b pc = .ok (.invokevirtual index, 3)) (hp : pc + 3 = pc') (w1 : (Jvm.Cond.methodLink M.y.cls index M'.y).before a0 K.Z = true) (w2 : (Jvm.Cond.declares M'.y).before a0 K.Z = true) (w5 : (Jvm.Cond.selects C M'.y M'.y).before a0 K.Z = true) (w6 : (Jvm.Cond.instanceMethod M'.y).before a0 K.Z = true) (w3 : (Jvm.Cond.initialized M'.y.cls).before a0 K.Z = true) (w4 : (Jvm.Cond.code M'.y M'.b M'.mx M'.ret).before a0 K.Z = true) (hy : M'.y.cls ≠ "java/lang/invoke/MethodHandle" ∧ M'.y.cls ≠ "java/lang/invoke/VarHandle") (hsz : Ls.length = M.mx) (hlen : ∀ sig, parseMethodDescriptor M'.y.desc = some sig → 0 = sig.parameters.length)
    (hf : Nat.ble (M'.R.frames + 1) M.R.frames = true) (hl : Nat.ble ((rest.map fun v => v.category).sum + (M'.mx + 11) + M'.R.locals) M.R.locals = true) (hc : Nat.ble (cs + M'.R.cells) M.R.cells = true) (hs : Nat.ble (sl + M'.R.slots) M.R.slots = true) (E : Exa K.Z h a C) (hM : own_Met K M' #[.ref a] sf' h (own_ret q')) (hsf : ∀ x ∈ sf', x ∈ sf) (k : ∀ w h' xs, q' w h' xs → own_WP K M Q pc' Ls (w :: rest) (xs ++ sf) h' (cs + M'.R.cells) (sl + M'.R.slots)) :
    own_WP K M Q pc Ls (.ref a :: rest) sf h cs sl := own_virtual (argsL := []) hd hp w1 w2 w5 w6 w3 w4 hy hsz hlen rfl hf hl hc hs E hM hsf (fun v h' xs ⟨w, e, q⟩ => by subst e; exact k w h' xs q)
theorem own_virtual0n {index : Nat} {a : Addr} {C : String} {q' : Heap → List Addr → Prop} (hd : decode M.b pc = .ok (.invokevirtual index, 3)) (hp : pc + 3 = pc') (w1 : (Jvm.Cond.methodLink M.y.cls index M'.y).before a0 K.Z = true) (w2 : (Jvm.Cond.declares M'.y).before a0 K.Z = true) (w5 : (Jvm.Cond.selects C M'.y M'.y).before a0 K.Z = true) (w6 : (Jvm.Cond.instanceMethod M'.y).before a0 K.Z = true) (w3 : (Jvm.Cond.initialized M'.y.cls).before a0 K.Z = true) (w4 : (Jvm.Cond.code M'.y M'.b M'.mx M'.ret).before a0 K.Z = true) (hy : M'.y.cls ≠ "java/lang/invoke/MethodHandle" ∧ M'.y.cls ≠ "java/lang/invoke/VarHandle") (hsz : Ls.length = M.mx) (hlen : ∀ sig, parseMethodDescriptor M'.y.desc = some sig → 0 = sig.parameters.length)
    (hf : Nat.ble (M'.R.frames + 1) M.R.frames = true) (hl : Nat.ble ((rest.map fun v => v.category).sum + (M'.mx + 11) + M'.R.locals) M.R.locals = true) (hc : Nat.ble (cs + M'.R.cells) M.R.cells = true) (hs : Nat.ble (sl + M'.R.slots) M.R.slots = true) (E : Exa K.Z h a C) (hM : own_Met K M' #[.ref a] sf' h (own_void q')) (hsf : ∀ x ∈ sf', x ∈ sf) (k : ∀ h' xs, q' h' xs → own_WP K M Q pc' Ls rest (xs ++ sf) h' (cs + M'.R.cells) (sl + M'.R.slots)) :
    own_WP K M Q pc Ls (.ref a :: rest) sf h cs sl := own_virtual (argsL := []) hd hp w1 w2 w5 w6 w3 w4 hy hsz hlen rfl hf hl hc hs E hM hsf (fun v h' xs ⟨e, q⟩ => by subst e; exact k h' xs q)
theorem own_virtual1v {index : Nat} {a : Addr} {C : String} {v0 : Value} {q' : Value → Heap → List Addr → Prop} (hd : decode M.b pc = .ok (.invokevirtual index, 3)) (hp : pc + 3 = pc') (w1 : (Jvm.Cond.methodLink M.y.cls index M'.y).before a0 K.Z = true) (w2 : (Jvm.Cond.declares M'.y).before a0 K.Z = true) (w5 : (Jvm.Cond.selects C M'.y M'.y).before a0 K.Z = true) (w6 : (Jvm.Cond.instanceMethod M'.y).before a0 K.Z = true) (w3 : (Jvm.Cond.initialized M'.y.cls).before a0 K.Z = true) (w4 : (Jvm.Cond.code M'.y M'.b M'.mx M'.ret).before a0 K.Z = true) (hy : M'.y.cls ≠ "java/lang/invoke/MethodHandle" ∧ M'.y.cls ≠ "java/lang/invoke/VarHandle") (hsz : Ls.length = M.mx) (hlen : ∀ sig, parseMethodDescriptor M'.y.desc = some sig → 1 = sig.parameters.length)
    (hf : Nat.ble (M'.R.frames + 1) M.R.frames = true) (hl : Nat.ble ((rest.map fun v => v.category).sum + (M'.mx + 11) + M'.R.locals) M.R.locals = true) (hc : Nat.ble (cs + M'.R.cells) M.R.cells = true) (hs : Nat.ble (sl + M'.R.slots) M.R.slots = true) (E : Exa K.Z h a C) (hM : own_Met K M' #[.ref a, v0] sf' h (own_ret q')) (hsf : ∀ x ∈ sf', x ∈ sf) (k : ∀ w h' xs, q' w h' xs → own_WP K M Q pc' Ls (w :: rest) (xs ++ sf) h' (cs + M'.R.cells) (sl + M'.R.slots)) :
    own_WP K M Q pc Ls (v0 :: .ref a :: rest) sf h cs sl := own_virtual (argsL := [v0]) hd hp w1 w2 w5 w6 w3 w4 hy hsz hlen rfl hf hl hc hs E hM hsf (fun v h' xs ⟨w, e, q⟩ => by subst e; exact k w h' xs q)
theorem own_virtual1n {index : Nat} {a : Addr} {C : String} {v0 : Value} {q' : Heap → List Addr → Prop} (hd : decode M.b pc = .ok (.invokevirtual index, 3)) (hp : pc + 3 = pc') (w1 : (Jvm.Cond.methodLink M.y.cls index M'.y).before a0 K.Z = true) (w2 : (Jvm.Cond.declares M'.y).before a0 K.Z = true) (w5 : (Jvm.Cond.selects C M'.y M'.y).before a0 K.Z = true) (w6 : (Jvm.Cond.instanceMethod M'.y).before a0 K.Z = true) (w3 : (Jvm.Cond.initialized M'.y.cls).before a0 K.Z = true) (w4 : (Jvm.Cond.code M'.y M'.b M'.mx M'.ret).before a0 K.Z = true) (hy : M'.y.cls ≠ "java/lang/invoke/MethodHandle" ∧ M'.y.cls ≠ "java/lang/invoke/VarHandle") (hsz : Ls.length = M.mx) (hlen : ∀ sig, parseMethodDescriptor M'.y.desc = some sig → 1 = sig.parameters.length)
    (hf : Nat.ble (M'.R.frames + 1) M.R.frames = true) (hl : Nat.ble ((rest.map fun v => v.category).sum + (M'.mx + 11) + M'.R.locals) M.R.locals = true) (hc : Nat.ble (cs + M'.R.cells) M.R.cells = true) (hs : Nat.ble (sl + M'.R.slots) M.R.slots = true) (E : Exa K.Z h a C) (hM : own_Met K M' #[.ref a, v0] sf' h (own_void q')) (hsf : ∀ x ∈ sf', x ∈ sf) (k : ∀ h' xs, q' h' xs → own_WP K M Q pc' Ls rest (xs ++ sf) h' (cs + M'.R.cells) (sl + M'.R.slots)) :
    own_WP K M Q pc Ls (v0 :: .ref a :: rest) sf h cs sl := own_virtual (argsL := [v0]) hd hp w1 w2 w5 w6 w3 w4 hy hsz hlen rfl hf hl hc hs E hM hsf (fun v h' xs ⟨e, q⟩ => by subst e; exact k h' xs q)
theorem own_virtual2v {index : Nat} {a : Addr} {C : String} {v0 v1 : Value} {q' : Value → Heap → List Addr → Prop} (hd : decode M.b pc = .ok (.invokevirtual index, 3)) (hp : pc + 3 = pc') (w1 : (Jvm.Cond.methodLink M.y.cls index M'.y).before a0 K.Z = true) (w2 : (Jvm.Cond.declares M'.y).before a0 K.Z = true) (w5 : (Jvm.Cond.selects C M'.y M'.y).before a0 K.Z = true) (w6 : (Jvm.Cond.instanceMethod M'.y).before a0 K.Z = true) (w3 : (Jvm.Cond.initialized M'.y.cls).before a0 K.Z = true) (w4 : (Jvm.Cond.code M'.y M'.b M'.mx M'.ret).before a0 K.Z = true) (hy : M'.y.cls ≠ "java/lang/invoke/MethodHandle" ∧ M'.y.cls ≠ "java/lang/invoke/VarHandle") (hsz : Ls.length = M.mx) (hlen : ∀ sig, parseMethodDescriptor M'.y.desc = some sig → 2 = sig.parameters.length)
    (hf : Nat.ble (M'.R.frames + 1) M.R.frames = true) (hl : Nat.ble ((rest.map fun v => v.category).sum + (M'.mx + 11) + M'.R.locals) M.R.locals = true) (hc : Nat.ble (cs + M'.R.cells) M.R.cells = true) (hs : Nat.ble (sl + M'.R.slots) M.R.slots = true) (E : Exa K.Z h a C) (hM : own_Met K M' #[.ref a, v0, v1] sf' h (own_ret q')) (hsf : ∀ x ∈ sf', x ∈ sf) (k : ∀ w h' xs, q' w h' xs → own_WP K M Q pc' Ls (w :: rest) (xs ++ sf) h' (cs + M'.R.cells) (sl + M'.R.slots)) :
    own_WP K M Q pc Ls (v1 :: v0 :: .ref a :: rest) sf h cs sl := own_virtual (argsL := [v0, v1]) hd hp w1 w2 w5 w6 w3 w4 hy hsz hlen rfl hf hl hc hs E hM hsf (fun v h' xs ⟨w, e, q⟩ => by subst e; exact k w h' xs q)
theorem own_virtual3v {index : Nat} {a : Addr} {C : String} {v0 v1 v2 : Value} {q' : Value → Heap → List Addr → Prop} (hd : decode M.b pc = .ok (.invokevirtual index, 3)) (hp : pc + 3 = pc') (w1 : (Jvm.Cond.methodLink M.y.cls index M'.y).before a0 K.Z = true) (w2 : (Jvm.Cond.declares M'.y).before a0 K.Z = true) (w5 : (Jvm.Cond.selects C M'.y M'.y).before a0 K.Z = true) (w6 : (Jvm.Cond.instanceMethod M'.y).before a0 K.Z = true) (w3 : (Jvm.Cond.initialized M'.y.cls).before a0 K.Z = true) (w4 : (Jvm.Cond.code M'.y M'.b M'.mx M'.ret).before a0 K.Z = true) (hy : M'.y.cls ≠ "java/lang/invoke/MethodHandle" ∧ M'.y.cls ≠ "java/lang/invoke/VarHandle") (hsz : Ls.length = M.mx) (hlen : ∀ sig, parseMethodDescriptor M'.y.desc = some sig → 3 = sig.parameters.length)
    (hf : Nat.ble (M'.R.frames + 1) M.R.frames = true) (hl : Nat.ble ((rest.map fun v => v.category).sum + (M'.mx + 11) + M'.R.locals) M.R.locals = true) (hc : Nat.ble (cs + M'.R.cells) M.R.cells = true) (hs : Nat.ble (sl + M'.R.slots) M.R.slots = true) (E : Exa K.Z h a C) (hM : own_Met K M' #[.ref a, v0, v1, v2] sf' h (own_ret q')) (hsf : ∀ x ∈ sf', x ∈ sf) (k : ∀ w h' xs, q' w h' xs → own_WP K M Q pc' Ls (w :: rest) (xs ++ sf) h' (cs + M'.R.cells) (sl + M'.R.slots)) :
    own_WP K M Q pc Ls (v2 :: v1 :: v0 :: .ref a :: rest) sf h cs sl := own_virtual (argsL := [v0, v1, v2]) hd hp w1 w2 w5 w6 w3 w4 hy hsz hlen rfl hf hl hc hs E hM hsf (fun v h' xs ⟨w, e, q⟩ => by subst e; exact k w h' xs q)
theorem own_virtual3n {index : Nat} {a : Addr} {C : String} {v0 v1 v2 : Value} {q' : Heap → List Addr → Prop} (hd : decode M.b pc = .ok (.invokevirtual index, 3)) (hp : pc + 3 = pc') (w1 : (Jvm.Cond.methodLink M.y.cls index M'.y).before a0 K.Z = true) (w2 : (Jvm.Cond.declares M'.y).before a0 K.Z = true) (w5 : (Jvm.Cond.selects C M'.y M'.y).before a0 K.Z = true) (w6 : (Jvm.Cond.instanceMethod M'.y).before a0 K.Z = true) (w3 : (Jvm.Cond.initialized M'.y.cls).before a0 K.Z = true) (w4 : (Jvm.Cond.code M'.y M'.b M'.mx M'.ret).before a0 K.Z = true) (hy : M'.y.cls ≠ "java/lang/invoke/MethodHandle" ∧ M'.y.cls ≠ "java/lang/invoke/VarHandle") (hsz : Ls.length = M.mx) (hlen : ∀ sig, parseMethodDescriptor M'.y.desc = some sig → 3 = sig.parameters.length)
    (hf : Nat.ble (M'.R.frames + 1) M.R.frames = true) (hl : Nat.ble ((rest.map fun v => v.category).sum + (M'.mx + 11) + M'.R.locals) M.R.locals = true) (hc : Nat.ble (cs + M'.R.cells) M.R.cells = true) (hs : Nat.ble (sl + M'.R.slots) M.R.slots = true) (E : Exa K.Z h a C) (hM : own_Met K M' #[.ref a, v0, v1, v2] sf' h (own_void q')) (hsf : ∀ x ∈ sf', x ∈ sf) (k : ∀ h' xs, q' h' xs → own_WP K M Q pc' Ls rest (xs ++ sf) h' (cs + M'.R.cells) (sl + M'.R.slots)) :
    own_WP K M Q pc Ls (v2 :: v1 :: v0 :: .ref a :: rest) sf h cs sl := own_virtual (argsL := [v0, v1, v2]) hd hp w1 w2 w5 w6 w3 w4 hy hsz hlen rfl hf hl hc hs E hM hsf (fun v h' xs ⟨e, q⟩ => by subst e; exact k h' xs q)
end Calls
section Plain
variable {K : own_Cx} {M : own_Mi} {Q : own_Q} {pc pc' : Nat} {Ls : List Slot} {St : List Value} {sf : List Addr} {h : Heap} {cs sl : Nat} {a0 : Array Value}
theorem own_get {α : Type} {L : List α} {k : Nat} {v : α} (q : L[k]? = some v) : L.toArray[k]? = some v := by simpa using q
theorem own_aload_n {i : Fin 4} {v : Value} (hp : pc + 1 = pc') (hd : decode M.b pc = .ok (.aload_n i, 1)) (hl : Ls[i.val]? = some (.val v)) (hv : v.isRef = true) (k : own_WP K M Q pc' Ls (v :: St) sf h cs sl) : own_WP K M Q pc Ls St sf h cs sl :=
  own_step k fun p e s m args below meth c T locs cs' sl' B X eT t q => XS.aloadN X.here B.1 rfl (hb B.2.1 hd) (own_get hl) hv (by subst hp; exact q)
theorem own_aload {i : Nat} {v : Value} (hp : pc + 2 = pc') (hd : decode M.b pc = .ok (.aload i, 2)) (hl : Ls[i]? = some (.val v)) (hv : v.isRef = true) (k : own_WP K M Q pc' Ls (v :: St) sf h cs sl) : own_WP K M Q pc Ls St sf h cs sl :=
  own_step k fun p e s m args below meth c T locs cs' sl' B X eT t q => XS.aload X.here B.1 rfl (hb B.2.1 hd) (own_get hl) hv (by subst hp; exact q)
theorem own_iload_n {i : Fin 4} {v : Int32} (hp : pc + 1 = pc') (hd : decode M.b pc = .ok (.iload_n i, 1)) (hl : Ls[i.val]? = some (.val (.int v))) (k : own_WP K M Q pc' Ls (.int v :: St) sf h cs sl) : own_WP K M Q pc Ls St sf h cs sl :=
  own_step k fun p e s m args below meth c T locs cs' sl' B X eT t q => XS.iloadN X.here B.1 rfl (hb B.2.1 hd) (own_get hl) (by subst hp; exact q)
theorem own_iload {i : Nat} {v : Int32} (hp : pc + 2 = pc') (hd : decode M.b pc = .ok (.iload i, 2)) (hl : Ls[i]? = some (.val (.int v))) (k : own_WP K M Q pc' Ls (.int v :: St) sf h cs sl) : own_WP K M Q pc Ls St sf h cs sl :=
  own_step k fun p e s m args below meth c T locs cs' sl' B X eT t q => XS.iload X.here B.1 rfl (hb B.2.1 hd) (own_get hl) (by subst hp; exact q)
theorem own_iconst {i : Int} {v : Int32} (hp : pc + 1 = pc') (hd : decode M.b pc = .ok (.iconst i, 1)) (hv : Int32.ofInt i = v) (k : own_WP K M Q pc' Ls (.int v :: St) sf h cs sl) : own_WP K M Q pc Ls St sf h cs sl :=
  own_step k fun p e s m args below meth c T locs cs' sl' B X eT t q => XS.iconst X.here B.1 rfl (hb B.2.1 hd) (by subst hp hv; exact q)
theorem own_bipush {i : Int} {v : Int32} (hp : pc + 2 = pc') (hd : decode M.b pc = .ok (.bipush i, 2)) (hv : (Int8.ofInt i).toInt32 = v) (k : own_WP K M Q pc' Ls (.int v :: St) sf h cs sl) : own_WP K M Q pc Ls St sf h cs sl :=
  own_step k fun p e s m args below meth c T locs cs' sl' B X eT t q => XS.bipush X.here B.1 rfl (hb B.2.1 hd) (by subst hp hv; exact q)
theorem own_sipush {i : Int} {v : Int32} (hp : pc + 3 = pc') (hd : decode M.b pc = .ok (.sipush i, 3)) (hv : (Int16.ofInt i).toInt32 = v) (k : own_WP K M Q pc' Ls (.int v :: St) sf h cs sl) : own_WP K M Q pc Ls St sf h cs sl :=
  own_step k fun p e s m args below meth c T locs cs' sl' B X eT t q => XS.sipush X.here B.1 rfl (hb B.2.1 hd) (by subst hp hv; exact q)
theorem own_aconst_null (hp : pc + 1 = pc') (hd : decode M.b pc = .ok (.aconst_null, 1)) (k : own_WP K M Q pc' Ls (.null :: St) sf h cs sl) : own_WP K M Q pc Ls St sf h cs sl :=
  own_step k fun p e s m args below meth c T locs cs' sl' B X eT t q => XS.aconstNull X.here B.1 rfl (hb B.2.1 hd) (by subst hp; exact q)
theorem own_iadd {x y : Int32} (hp : pc + 1 = pc') (hd : decode M.b pc = .ok (.iadd, 1)) (k : own_WP K M Q pc' Ls (.int (x + y) :: St) sf h cs sl) : own_WP K M Q pc Ls (.int y :: .int x :: St) sf h cs sl :=
  own_step k fun p e s m args below meth c T locs cs' sl' B X eT t q => XS.iadd X.here B.1 rfl (hb B.2.1 hd) rfl (by subst hp; exact q)
theorem own_isub {x y : Int32} (hp : pc + 1 = pc') (hd : decode M.b pc = .ok (.isub, 1)) (k : own_WP K M Q pc' Ls (.int (x - y) :: St) sf h cs sl) : own_WP K M Q pc Ls (.int y :: .int x :: St) sf h cs sl :=
  own_step k fun p e s m args below meth c T locs cs' sl' B X eT t q => XS.isub X.here B.1 rfl (hb B.2.1 hd) rfl (by subst hp; exact q)
theorem own_iand {x y : Int32} (hp : pc + 1 = pc') (hd : decode M.b pc = .ok (.iand, 1)) (k : own_WP K M Q pc' Ls (.int (x &&& y) :: St) sf h cs sl) : own_WP K M Q pc Ls (.int y :: .int x :: St) sf h cs sl :=
  own_step k fun p e s m args below meth c T locs cs' sl' B X eT t q => XS.iand X.here B.1 rfl (hb B.2.1 hd) rfl (by subst hp; exact q)
theorem own_ior {x y : Int32} (hp : pc + 1 = pc') (hd : decode M.b pc = .ok (.ior, 1)) (k : own_WP K M Q pc' Ls (.int (x ||| y) :: St) sf h cs sl) : own_WP K M Q pc Ls (.int y :: .int x :: St) sf h cs sl :=
  own_step k fun p e s m args below meth c T locs cs' sl' B X eT t q => XS.ior X.here B.1 rfl (hb B.2.1 hd) rfl (by subst hp; exact q)
theorem own_ishl {x y : Int32} (hp : pc + 1 = pc') (hd : decode M.b pc = .ok (.ishl, 1)) (k : own_WP K M Q pc' Ls (.int (x <<< (y &&& 31)) :: St) sf h cs sl) : own_WP K M Q pc Ls (.int y :: .int x :: St) sf h cs sl :=
  own_step k fun p e s m args below meth c T locs cs' sl' B X eT t q => XS.ishl X.here B.1 rfl (hb B.2.1 hd) rfl (by subst hp; exact q)
theorem own_ishr {x y : Int32} (hp : pc + 1 = pc') (hd : decode M.b pc = .ok (.ishr, 1)) (k : own_WP K M Q pc' Ls (.int (x >>> (y &&& 31)) :: St) sf h cs sl) : own_WP K M Q pc Ls (.int y :: .int x :: St) sf h cs sl :=
  own_step k fun p e s m args below meth c T locs cs' sl' B X eT t q => XS.ishr X.here B.1 rfl (hb B.2.1 hd) rfl (by subst hp; exact q)
theorem own_iushr {x y : Int32} (hp : pc + 1 = pc') (hd : decode M.b pc = .ok (.iushr, 1)) (k : own_WP K M Q pc' Ls (.int (XT.ushr x y) :: St) sf h cs sl) : own_WP K M Q pc Ls (.int y :: .int x :: St) sf h cs sl :=
  own_step k fun p e s m args below meth c T locs cs' sl' B X eT t q => XT.iushr X.here B.1 rfl (hb B.2.1 hd) rfl (by subst hp; exact q)
theorem own_i2b {x : Int32} (hp : pc + 1 = pc') (hd : decode M.b pc = .ok (.i2b, 1)) (k : own_WP K M Q pc' Ls (.int (x.toInt8.toInt32) :: St) sf h cs sl) : own_WP K M Q pc Ls (.int x :: St) sf h cs sl :=
  own_step k fun p e s m args below meth c T locs cs' sl' B X eT t q => XS.i2b X.here B.1 rfl (hb B.2.1 hd) rfl (by subst hp; exact q)
theorem own_i2c {x : Int32} (hp : pc + 1 = pc') (hd : decode M.b pc = .ok (.i2c, 1)) (k : own_WP K M Q pc' Ls (.int (x.toUInt32.toUInt16.toUInt32.toInt32) :: St) sf h cs sl) : own_WP K M Q pc Ls (.int x :: St) sf h cs sl :=
  own_step k fun p e s m args below meth c T locs cs' sl' B X eT t q => XS.i2c X.here B.1 rfl (hb B.2.1 hd) rfl (by subst hp; exact q)
theorem own_dup {x : Value} (hp : pc + 1 = pc') (hd : decode M.b pc = .ok (.dup, 1)) (hc : x.category = 1) (k : own_WP K M Q pc' Ls (x :: x :: St) sf h cs sl) : own_WP K M Q pc Ls (x :: St) sf h cs sl :=
  own_step k fun p e s m args below meth c T locs cs' sl' B X eT t q => XS.dup X.here B.1 rfl (hb B.2.1 hd) rfl hc (by subst hp; exact q)
theorem own_pop {x : Value} (hp : pc + 1 = pc') (hd : decode M.b pc = .ok (.pop, 1)) (hc : x.category = 1) (k : own_WP K M Q pc' Ls St sf h cs sl) : own_WP K M Q pc Ls (x :: St) sf h cs sl :=
  own_step k fun p e s m args below meth c T locs cs' sl' B X eT t q => XS.pop X.here B.1 rfl (hb B.2.1 hd) rfl hc (by subst hp; exact q)
theorem own_store {Ls : List Slot} {i : Nat} {v : Value} {o : Slot} (ho : One o) (hv : v.category = 1) (hold : Ls[i]? = some o) : storeLocals Ls.toArray i v = some (Ls.set i (.val v)).toArray := by
  rw [XS.store1 (own_get hold) ho hv]; simp
theorem own_istore_n1 {u0 o : Slot} {r : List Slot} {x : Int32} (hp : pc + 1 = pc') (hd : decode M.b pc = .ok (.istore_n 1, 1)) (ho : One o) (k : own_WP K M Q pc' (u0 :: .val (.int x) :: r) St sf h cs sl) : own_WP K M Q pc (u0 :: o :: r) (.int x :: St) sf h cs sl :=
  own_step k fun p e s m args below meth c T locs cs' sl' B X eT t q => XS.istoreN X.here B.1 rfl (hb B.2.1 hd) rfl (own_store (Ls := u0 :: o :: r) (i := 1) ho rfl rfl) (by subst hp; exact q)
theorem own_astore_n1 {u0 o : Slot} {r : List Slot} {x : Value} (hp : pc + 1 = pc') (hd : decode M.b pc = .ok (.astore_n 1, 1)) (ho : One o) (hv : x.isRef = true) (k : own_WP K M Q pc' (u0 :: .val x :: r) St sf h cs sl) : own_WP K M Q pc (u0 :: o :: r) (x :: St) sf h cs sl :=
  own_step k fun p e s m args below meth c T locs cs' sl' B X eT t q => XS.astoreN X.here B.1 rfl (hb B.2.1 hd) rfl hv (own_store (Ls := u0 :: o :: r) (i := 1) ho (by rcases ref_cases hv with rfl | ⟨_, rfl⟩ <;> rfl) rfl) (by subst hp; exact q)
theorem own_iinc_1 {u0 : Slot} {r : List Slot} {x : Int32} {cst : Int} {z : Int32} (hp : pc + 3 = pc') (hd : decode M.b pc = .ok (.iinc 1 cst, 3)) (hz : Int32.ofInt cst = z) (k : own_WP K M Q pc' (u0 :: .val (.int (x + z)) :: r) St sf h cs sl) : own_WP K M Q pc (u0 :: .val (.int x) :: r) St sf h cs sl :=
  own_step k fun p e s m args below meth c T locs cs' sl' B X eT t q => XS.iinc X.here B.1 rfl (hb B.2.1 hd) (x := x) (own_get (L := u0 :: .val (.int x) :: r) (k := 1) rfl) (own_store (Ls := u0 :: .val (.int x) :: r) (i := 1) (One.val rfl) rfl rfl) (by subst hp hz; exact q)
theorem own_istore_n2 {u0 u1 o : Slot} {r : List Slot} {x : Int32} (hp : pc + 1 = pc') (hd : decode M.b pc = .ok (.istore_n 2, 1)) (ho : One o) (k : own_WP K M Q pc' (u0 :: u1 :: .val (.int x) :: r) St sf h cs sl) : own_WP K M Q pc (u0 :: u1 :: o :: r) (.int x :: St) sf h cs sl :=
  own_step k fun p e s m args below meth c T locs cs' sl' B X eT t q => XS.istoreN X.here B.1 rfl (hb B.2.1 hd) rfl (own_store (Ls := u0 :: u1 :: o :: r) (i := 2) ho rfl rfl) (by subst hp; exact q)
theorem own_astore_n2 {u0 u1 o : Slot} {r : List Slot} {x : Value} (hp : pc + 1 = pc') (hd : decode M.b pc = .ok (.astore_n 2, 1)) (ho : One o) (hv : x.isRef = true) (k : own_WP K M Q pc' (u0 :: u1 :: .val x :: r) St sf h cs sl) : own_WP K M Q pc (u0 :: u1 :: o :: r) (x :: St) sf h cs sl :=
  own_step k fun p e s m args below meth c T locs cs' sl' B X eT t q => XS.astoreN X.here B.1 rfl (hb B.2.1 hd) rfl hv (own_store (Ls := u0 :: u1 :: o :: r) (i := 2) ho (by rcases ref_cases hv with rfl | ⟨_, rfl⟩ <;> rfl) rfl) (by subst hp; exact q)
theorem own_istore_n3 {u0 u1 u2 o : Slot} {r : List Slot} {x : Int32} (hp : pc + 1 = pc') (hd : decode M.b pc = .ok (.istore_n 3, 1)) (ho : One o) (k : own_WP K M Q pc' (u0 :: u1 :: u2 :: .val (.int x) :: r) St sf h cs sl) : own_WP K M Q pc (u0 :: u1 :: u2 :: o :: r) (.int x :: St) sf h cs sl :=
  own_step k fun p e s m args below meth c T locs cs' sl' B X eT t q => XS.istoreN X.here B.1 rfl (hb B.2.1 hd) rfl (own_store (Ls := u0 :: u1 :: u2 :: o :: r) (i := 3) ho rfl rfl) (by subst hp; exact q)
theorem own_astore_n3 {u0 u1 u2 o : Slot} {r : List Slot} {x : Value} (hp : pc + 1 = pc') (hd : decode M.b pc = .ok (.astore_n 3, 1)) (ho : One o) (hv : x.isRef = true) (k : own_WP K M Q pc' (u0 :: u1 :: u2 :: .val x :: r) St sf h cs sl) : own_WP K M Q pc (u0 :: u1 :: u2 :: o :: r) (x :: St) sf h cs sl :=
  own_step k fun p e s m args below meth c T locs cs' sl' B X eT t q => XS.astoreN X.here B.1 rfl (hb B.2.1 hd) rfl hv (own_store (Ls := u0 :: u1 :: u2 :: o :: r) (i := 3) ho (by rcases ref_cases hv with rfl | ⟨_, rfl⟩ <;> rfl) rfl) (by subst hp; exact q)
theorem own_iinc_3 {u0 u1 u2 : Slot} {r : List Slot} {x : Int32} {cst : Int} {z : Int32} (hp : pc + 3 = pc') (hd : decode M.b pc = .ok (.iinc 3 cst, 3)) (hz : Int32.ofInt cst = z) (k : own_WP K M Q pc' (u0 :: u1 :: u2 :: .val (.int (x + z)) :: r) St sf h cs sl) : own_WP K M Q pc (u0 :: u1 :: u2 :: .val (.int x) :: r) St sf h cs sl :=
  own_step k fun p e s m args below meth c T locs cs' sl' B X eT t q => XS.iinc X.here B.1 rfl (hb B.2.1 hd) (x := x) (own_get (L := u0 :: u1 :: u2 :: .val (.int x) :: r) (k := 3) rfl) (own_store (Ls := u0 :: u1 :: u2 :: .val (.int x) :: r) (i := 3) (One.val rfl) rfl rfl) (by subst hp hz; exact q)
theorem own_istore_4 {u0 u1 u2 u3 o : Slot} {r : List Slot} {x : Int32} (hp : pc + 2 = pc') (hd : decode M.b pc = .ok (.istore 4, 2)) (ho : One o) (k : own_WP K M Q pc' (u0 :: u1 :: u2 :: u3 :: .val (.int x) :: r) St sf h cs sl) : own_WP K M Q pc (u0 :: u1 :: u2 :: u3 :: o :: r) (.int x :: St) sf h cs sl :=
  own_step k fun p e s m args below meth c T locs cs' sl' B X eT t q => XS.istore X.here B.1 rfl (hb B.2.1 hd) rfl (own_store (Ls := u0 :: u1 :: u2 :: u3 :: o :: r) (i := 4) ho rfl rfl) (by subst hp; exact q)
theorem own_astore_4 {u0 u1 u2 u3 o : Slot} {r : List Slot} {x : Value} (hp : pc + 2 = pc') (hd : decode M.b pc = .ok (.astore 4, 2)) (ho : One o) (hv : x.isRef = true) (k : own_WP K M Q pc' (u0 :: u1 :: u2 :: u3 :: .val x :: r) St sf h cs sl) : own_WP K M Q pc (u0 :: u1 :: u2 :: u3 :: o :: r) (x :: St) sf h cs sl :=
  own_step k fun p e s m args below meth c T locs cs' sl' B X eT t q => XS.astore X.here B.1 rfl (hb B.2.1 hd) rfl hv (own_store (Ls := u0 :: u1 :: u2 :: u3 :: o :: r) (i := 4) ho (by rcases ref_cases hv with rfl | ⟨_, rfl⟩ <;> rfl) rfl) (by subst hp; exact q)
theorem own_iinc_4 {u0 u1 u2 u3 : Slot} {r : List Slot} {x : Int32} {cst : Int} {z : Int32} (hp : pc + 3 = pc') (hd : decode M.b pc = .ok (.iinc 4 cst, 3)) (hz : Int32.ofInt cst = z) (k : own_WP K M Q pc' (u0 :: u1 :: u2 :: u3 :: .val (.int (x + z)) :: r) St sf h cs sl) : own_WP K M Q pc (u0 :: u1 :: u2 :: u3 :: .val (.int x) :: r) St sf h cs sl :=
  own_step k fun p e s m args below meth c T locs cs' sl' B X eT t q => XS.iinc X.here B.1 rfl (hb B.2.1 hd) (x := x) (own_get (L := u0 :: u1 :: u2 :: u3 :: .val (.int x) :: r) (k := 4) rfl) (own_store (Ls := u0 :: u1 :: u2 :: u3 :: .val (.int x) :: r) (i := 4) (One.val rfl) rfl rfl) (by subst hp hz; exact q)
theorem own_istore_5 {u0 u1 u2 u3 u4 o : Slot} {r : List Slot} {x : Int32} (hp : pc + 2 = pc') (hd : decode M.b pc = .ok (.istore 5, 2)) (ho : One o) (k : own_WP K M Q pc' (u0 :: u1 :: u2 :: u3 :: u4 :: .val (.int x) :: r) St sf h cs sl) : own_WP K M Q pc (u0 :: u1 :: u2 :: u3 :: u4 :: o :: r) (.int x :: St) sf h cs sl :=
  own_step k fun p e s m args below meth c T locs cs' sl' B X eT t q => XS.istore X.here B.1 rfl (hb B.2.1 hd) rfl (own_store (Ls := u0 :: u1 :: u2 :: u3 :: u4 :: o :: r) (i := 5) ho rfl rfl) (by subst hp; exact q)
theorem own_astore_5 {u0 u1 u2 u3 u4 o : Slot} {r : List Slot} {x : Value} (hp : pc + 2 = pc') (hd : decode M.b pc = .ok (.astore 5, 2)) (ho : One o) (hv : x.isRef = true) (k : own_WP K M Q pc' (u0 :: u1 :: u2 :: u3 :: u4 :: .val x :: r) St sf h cs sl) : own_WP K M Q pc (u0 :: u1 :: u2 :: u3 :: u4 :: o :: r) (x :: St) sf h cs sl :=
  own_step k fun p e s m args below meth c T locs cs' sl' B X eT t q => XS.astore X.here B.1 rfl (hb B.2.1 hd) rfl hv (own_store (Ls := u0 :: u1 :: u2 :: u3 :: u4 :: o :: r) (i := 5) ho (by rcases ref_cases hv with rfl | ⟨_, rfl⟩ <;> rfl) rfl) (by subst hp; exact q)
theorem own_iinc_5 {u0 u1 u2 u3 u4 : Slot} {r : List Slot} {x : Int32} {cst : Int} {z : Int32} (hp : pc + 3 = pc') (hd : decode M.b pc = .ok (.iinc 5 cst, 3)) (hz : Int32.ofInt cst = z) (k : own_WP K M Q pc' (u0 :: u1 :: u2 :: u3 :: u4 :: .val (.int (x + z)) :: r) St sf h cs sl) : own_WP K M Q pc (u0 :: u1 :: u2 :: u3 :: u4 :: .val (.int x) :: r) St sf h cs sl :=
  own_step k fun p e s m args below meth c T locs cs' sl' B X eT t q => XS.iinc X.here B.1 rfl (hb B.2.1 hd) (x := x) (own_get (L := u0 :: u1 :: u2 :: u3 :: u4 :: .val (.int x) :: r) (k := 5) rfl) (own_store (Ls := u0 :: u1 :: u2 :: u3 :: u4 :: .val (.int x) :: r) (i := 5) (One.val rfl) rfl rfl) (by subst hp hz; exact q)
theorem own_istore_6 {u0 u1 u2 u3 u4 u5 o : Slot} {r : List Slot} {x : Int32} (hp : pc + 2 = pc') (hd : decode M.b pc = .ok (.istore 6, 2)) (ho : One o) (k : own_WP K M Q pc' (u0 :: u1 :: u2 :: u3 :: u4 :: u5 :: .val (.int x) :: r) St sf h cs sl) : own_WP K M Q pc (u0 :: u1 :: u2 :: u3 :: u4 :: u5 :: o :: r) (.int x :: St) sf h cs sl :=
  own_step k fun p e s m args below meth c T locs cs' sl' B X eT t q => XS.istore X.here B.1 rfl (hb B.2.1 hd) rfl (own_store (Ls := u0 :: u1 :: u2 :: u3 :: u4 :: u5 :: o :: r) (i := 6) ho rfl rfl) (by subst hp; exact q)
theorem own_astore_6 {u0 u1 u2 u3 u4 u5 o : Slot} {r : List Slot} {x : Value} (hp : pc + 2 = pc') (hd : decode M.b pc = .ok (.astore 6, 2)) (ho : One o) (hv : x.isRef = true) (k : own_WP K M Q pc' (u0 :: u1 :: u2 :: u3 :: u4 :: u5 :: .val x :: r) St sf h cs sl) : own_WP K M Q pc (u0 :: u1 :: u2 :: u3 :: u4 :: u5 :: o :: r) (x :: St) sf h cs sl :=
  own_step k fun p e s m args below meth c T locs cs' sl' B X eT t q => XS.astore X.here B.1 rfl (hb B.2.1 hd) rfl hv (own_store (Ls := u0 :: u1 :: u2 :: u3 :: u4 :: u5 :: o :: r) (i := 6) ho (by rcases ref_cases hv with rfl | ⟨_, rfl⟩ <;> rfl) rfl) (by subst hp; exact q)
theorem own_iinc_6 {u0 u1 u2 u3 u4 u5 : Slot} {r : List Slot} {x : Int32} {cst : Int} {z : Int32} (hp : pc + 3 = pc') (hd : decode M.b pc = .ok (.iinc 6 cst, 3)) (hz : Int32.ofInt cst = z) (k : own_WP K M Q pc' (u0 :: u1 :: u2 :: u3 :: u4 :: u5 :: .val (.int (x + z)) :: r) St sf h cs sl) : own_WP K M Q pc (u0 :: u1 :: u2 :: u3 :: u4 :: u5 :: .val (.int x) :: r) St sf h cs sl :=
  own_step k fun p e s m args below meth c T locs cs' sl' B X eT t q => XS.iinc X.here B.1 rfl (hb B.2.1 hd) (x := x) (own_get (L := u0 :: u1 :: u2 :: u3 :: u4 :: u5 :: .val (.int x) :: r) (k := 6) rfl) (own_store (Ls := u0 :: u1 :: u2 :: u3 :: u4 :: u5 :: .val (.int x) :: r) (i := 6) (One.val rfl) rfl rfl) (by subst hp hz; exact q)
theorem own_istore_7 {u0 u1 u2 u3 u4 u5 u6 o : Slot} {r : List Slot} {x : Int32} (hp : pc + 2 = pc') (hd : decode M.b pc = .ok (.istore 7, 2)) (ho : One o) (k : own_WP K M Q pc' (u0 :: u1 :: u2 :: u3 :: u4 :: u5 :: u6 :: .val (.int x) :: r) St sf h cs sl) : own_WP K M Q pc (u0 :: u1 :: u2 :: u3 :: u4 :: u5 :: u6 :: o :: r) (.int x :: St) sf h cs sl :=
  own_step k fun p e s m args below meth c T locs cs' sl' B X eT t q => XS.istore X.here B.1 rfl (hb B.2.1 hd) rfl (own_store (Ls := u0 :: u1 :: u2 :: u3 :: u4 :: u5 :: u6 :: o :: r) (i := 7) ho rfl rfl) (by subst hp; exact q)
theorem own_astore_7 {u0 u1 u2 u3 u4 u5 u6 o : Slot} {r : List Slot} {x : Value} (hp : pc + 2 = pc') (hd : decode M.b pc = .ok (.astore 7, 2)) (ho : One o) (hv : x.isRef = true) (k : own_WP K M Q pc' (u0 :: u1 :: u2 :: u3 :: u4 :: u5 :: u6 :: .val x :: r) St sf h cs sl) : own_WP K M Q pc (u0 :: u1 :: u2 :: u3 :: u4 :: u5 :: u6 :: o :: r) (x :: St) sf h cs sl :=
  own_step k fun p e s m args below meth c T locs cs' sl' B X eT t q => XS.astore X.here B.1 rfl (hb B.2.1 hd) rfl hv (own_store (Ls := u0 :: u1 :: u2 :: u3 :: u4 :: u5 :: u6 :: o :: r) (i := 7) ho (by rcases ref_cases hv with rfl | ⟨_, rfl⟩ <;> rfl) rfl) (by subst hp; exact q)
theorem own_astore_8 {u0 u1 u2 u3 u4 u5 u6 u7 o : Slot} {r : List Slot} {x : Value} (hp : pc + 2 = pc') (hd : decode M.b pc = .ok (.astore 8, 2)) (ho : One o) (hv : x.isRef = true) (k : own_WP K M Q pc' (u0 :: u1 :: u2 :: u3 :: u4 :: u5 :: u6 :: u7 :: .val x :: r) St sf h cs sl) : own_WP K M Q pc (u0 :: u1 :: u2 :: u3 :: u4 :: u5 :: u6 :: u7 :: o :: r) (x :: St) sf h cs sl :=
  own_step k fun p e s m args below meth c T locs cs' sl' B X eT t q => XS.astore X.here B.1 rfl (hb B.2.1 hd) rfl hv (own_store (Ls := u0 :: u1 :: u2 :: u3 :: u4 :: u5 :: u6 :: u7 :: o :: r) (i := 8) ho (by rcases ref_cases hv with rfl | ⟨_, rfl⟩ <;> rfl) rfl) (by subst hp; exact q)
theorem own_istore_9 {u0 u1 u2 u3 u4 u5 u6 u7 u8 o : Slot} {r : List Slot} {x : Int32} (hp : pc + 2 = pc') (hd : decode M.b pc = .ok (.istore 9, 2)) (ho : One o) (k : own_WP K M Q pc' (u0 :: u1 :: u2 :: u3 :: u4 :: u5 :: u6 :: u7 :: u8 :: .val (.int x) :: r) St sf h cs sl) : own_WP K M Q pc (u0 :: u1 :: u2 :: u3 :: u4 :: u5 :: u6 :: u7 :: u8 :: o :: r) (.int x :: St) sf h cs sl :=
  own_step k fun p e s m args below meth c T locs cs' sl' B X eT t q => XS.istore X.here B.1 rfl (hb B.2.1 hd) rfl (own_store (Ls := u0 :: u1 :: u2 :: u3 :: u4 :: u5 :: u6 :: u7 :: u8 :: o :: r) (i := 9) ho rfl rfl) (by subst hp; exact q)
theorem own_iinc_9 {u0 u1 u2 u3 u4 u5 u6 u7 u8 : Slot} {r : List Slot} {x : Int32} {cst : Int} {z : Int32} (hp : pc + 3 = pc') (hd : decode M.b pc = .ok (.iinc 9 cst, 3)) (hz : Int32.ofInt cst = z) (k : own_WP K M Q pc' (u0 :: u1 :: u2 :: u3 :: u4 :: u5 :: u6 :: u7 :: u8 :: .val (.int (x + z)) :: r) St sf h cs sl) : own_WP K M Q pc (u0 :: u1 :: u2 :: u3 :: u4 :: u5 :: u6 :: u7 :: u8 :: .val (.int x) :: r) St sf h cs sl :=
  own_step k fun p e s m args below meth c T locs cs' sl' B X eT t q => XS.iinc X.here B.1 rfl (hb B.2.1 hd) (x := x) (own_get (L := u0 :: u1 :: u2 :: u3 :: u4 :: u5 :: u6 :: u7 :: u8 :: .val (.int x) :: r) (k := 9) rfl) (own_store (Ls := u0 :: u1 :: u2 :: u3 :: u4 :: u5 :: u6 :: u7 :: u8 :: .val (.int x) :: r) (i := 9) (One.val rfl) rfl rfl) (by subst hp hz; exact q)
theorem own_istore_10 {u0 u1 u2 u3 u4 u5 u6 u7 u8 u9 o : Slot} {r : List Slot} {x : Int32} (hp : pc + 2 = pc') (hd : decode M.b pc = .ok (.istore 10, 2)) (ho : One o) (k : own_WP K M Q pc' (u0 :: u1 :: u2 :: u3 :: u4 :: u5 :: u6 :: u7 :: u8 :: u9 :: .val (.int x) :: r) St sf h cs sl) : own_WP K M Q pc (u0 :: u1 :: u2 :: u3 :: u4 :: u5 :: u6 :: u7 :: u8 :: u9 :: o :: r) (.int x :: St) sf h cs sl :=
  own_step k fun p e s m args below meth c T locs cs' sl' B X eT t q => XS.istore X.here B.1 rfl (hb B.2.1 hd) rfl (own_store (Ls := u0 :: u1 :: u2 :: u3 :: u4 :: u5 :: u6 :: u7 :: u8 :: u9 :: o :: r) (i := 10) ho rfl rfl) (by subst hp; exact q)
theorem own_astore_11 {u0 u1 u2 u3 u4 u5 u6 u7 u8 u9 u10 o : Slot} {r : List Slot} {x : Value} (hp : pc + 2 = pc') (hd : decode M.b pc = .ok (.astore 11, 2)) (ho : One o) (hv : x.isRef = true) (k : own_WP K M Q pc' (u0 :: u1 :: u2 :: u3 :: u4 :: u5 :: u6 :: u7 :: u8 :: u9 :: u10 :: .val x :: r) St sf h cs sl) : own_WP K M Q pc (u0 :: u1 :: u2 :: u3 :: u4 :: u5 :: u6 :: u7 :: u8 :: u9 :: u10 :: o :: r) (x :: St) sf h cs sl :=
  own_step k fun p e s m args below meth c T locs cs' sl' B X eT t q => XS.astore X.here B.1 rfl (hb B.2.1 hd) rfl hv (own_store (Ls := u0 :: u1 :: u2 :: u3 :: u4 :: u5 :: u6 :: u7 :: u8 :: u9 :: u10 :: o :: r) (i := 11) ho (by rcases ref_cases hv with rfl | ⟨_, rfl⟩ <;> rfl) rfl) (by subst hp; exact q)
theorem own_istore_12 {u0 u1 u2 u3 u4 u5 u6 u7 u8 u9 u10 u11 o : Slot} {r : List Slot} {x : Int32} (hp : pc + 2 = pc') (hd : decode M.b pc = .ok (.istore 12, 2)) (ho : One o) (k : own_WP K M Q pc' (u0 :: u1 :: u2 :: u3 :: u4 :: u5 :: u6 :: u7 :: u8 :: u9 :: u10 :: u11 :: .val (.int x) :: r) St sf h cs sl) : own_WP K M Q pc (u0 :: u1 :: u2 :: u3 :: u4 :: u5 :: u6 :: u7 :: u8 :: u9 :: u10 :: u11 :: o :: r) (.int x :: St) sf h cs sl :=
  own_step k fun p e s m args below meth c T locs cs' sl' B X eT t q => XS.istore X.here B.1 rfl (hb B.2.1 hd) rfl (own_store (Ls := u0 :: u1 :: u2 :: u3 :: u4 :: u5 :: u6 :: u7 :: u8 :: u9 :: u10 :: u11 :: o :: r) (i := 12) ho rfl rfl) (by subst hp; exact q)
theorem own_goto {o : Int} (hd : decode M.b pc = .ok (.goto o, 3)) (ho : 0 ≤ (pc : Int) + o) (hp : ((pc : Int) + o).toNat = pc') (k : own_WP K M Q pc' Ls St sf h cs sl) : own_WP K M Q pc Ls St sf h cs sl :=
  own_step k fun p e s m args below meth c T locs cs' sl' B X eT t q => XS.goto X.here B.1 rfl (pc0 := pc) rfl (hb B.2.1 hd) ho hp q
theorem own_if {cd : ClassFile.Cond} {o : Int} {x : Int32} {pcT pcF : Nat} (hd : decode M.b pc = .ok (.ifCond cd o, 3)) (ho : 0 ≤ (pc : Int) + o) (hp : ((pc : Int) + o).toNat = pcT) (hp' : pc + 3 = pcF)
    (kT : ifCond.holds cd x = true → own_WP K M Q pcT Ls St sf h cs sl) (kF : ifCond.holds cd x = false → own_WP K M Q pcF Ls St sf h cs sl) : own_WP K M Q pc Ls (.int x :: St) sf h cs sl := by
  cases hc : ifCond.holds cd x
  · exact own_step (kF hc) fun p e s m args below meth c T locs cs' sl' B X eT t q => XS.ifNo X.here B.1 rfl (hb B.2.1 hd) rfl hc (by subst hp'; exact q)
  · exact own_step (kT hc) fun p e s m args below meth c T locs cs' sl' B X eT t q => XS.ifYes X.here B.1 rfl (pc0 := pc) rfl (hb B.2.1 hd) rfl hc ho hp q
theorem own_icmp {cd : ClassFile.Cond} {o : Int} {x y : Int32} {pcT pcF : Nat} (hd : decode M.b pc = .ok (.if_icmp cd o, 3)) (ho : 0 ≤ (pc : Int) + o) (hp : ((pc : Int) + o).toNat = pcT) (hp' : pc + 3 = pcF)
    (kT : if_icmp.holds cd x y = true → own_WP K M Q pcT Ls St sf h cs sl) (kF : if_icmp.holds cd x y = false → own_WP K M Q pcF Ls St sf h cs sl) : own_WP K M Q pc Ls (.int y :: .int x :: St) sf h cs sl := by
  cases hc : if_icmp.holds cd x y
  · exact own_step (kF hc) fun p e s m args below meth c T locs cs' sl' B X eT t q => XS.icmpNo X.here B.1 rfl (hb B.2.1 hd) rfl hc (by subst hp'; exact q)
  · exact own_step (kT hc) fun p e s m args below meth c T locs cs' sl' B X eT t q => XS.icmpYes X.here B.1 rfl (pc0 := pc) rfl (hb B.2.1 hd) rfl hc ho hp q
theorem own_ifeq {o : Int} {x : Int32} {pcT pcF : Nat} (hd : decode M.b pc = .ok (.ifCond .eq o, 3)) (ho : 0 ≤ (pc : Int) + o) (hp : ((pc : Int) + o).toNat = pcT) (hp' : pc + 3 = pcF) (kT : x = 0 → own_WP K M Q pcT Ls St sf h cs sl) (kF : ¬ x = 0 → own_WP K M Q pcF Ls St sf h cs sl) : own_WP K M Q pc Ls (.int x :: St) sf h cs sl := by
  refine own_if hd ho hp hp' (fun c => ?_) (fun c => ?_)
  · rw [if0] at c; by_cases q : x = 0
    · exact kT q
    · have z := (feq q).1; rw [z] at c; cases c
  · rw [if0] at c; by_cases q : x = 0
    · have z := (teq q).1; rw [z] at c; cases c
    · exact kF q
theorem own_icmpeq {o : Int} {x y : Int32} {pcT pcF : Nat} (hd : decode M.b pc = .ok (.if_icmp .eq o, 3)) (ho : 0 ≤ (pc : Int) + o) (hp : ((pc : Int) + o).toNat = pcT) (hp' : pc + 3 = pcF) (kT : x = y → own_WP K M Q pcT Ls St sf h cs sl) (kF : ¬ x = y → own_WP K M Q pcF Ls St sf h cs sl) : own_WP K M Q pc Ls (.int y :: .int x :: St) sf h cs sl := by
  refine own_icmp hd ho hp hp' (fun c => ?_) (fun c => ?_)
  · by_cases q : x = y
    · exact kT q
    · have z := (feq q).1; rw [z] at c; cases c
  · by_cases q : x = y
    · have z := (teq q).1; rw [z] at c; cases c
    · exact kF q
theorem own_ifne {o : Int} {x : Int32} {pcT pcF : Nat} (hd : decode M.b pc = .ok (.ifCond .ne o, 3)) (ho : 0 ≤ (pc : Int) + o) (hp : ((pc : Int) + o).toNat = pcT) (hp' : pc + 3 = pcF) (kT : ¬ x = 0 → own_WP K M Q pcT Ls St sf h cs sl) (kF : x = 0 → own_WP K M Q pcF Ls St sf h cs sl) : own_WP K M Q pc Ls (.int x :: St) sf h cs sl := by
  refine own_if hd ho hp hp' (fun c => ?_) (fun c => ?_)
  · rw [if0] at c; by_cases q : x = 0
    · have z := (teq q).2; rw [z] at c; cases c
    · exact kT q
  · rw [if0] at c; by_cases q : x = 0
    · exact kF q
    · have z := (feq q).2; rw [z] at c; cases c
theorem own_icmpne {o : Int} {x y : Int32} {pcT pcF : Nat} (hd : decode M.b pc = .ok (.if_icmp .ne o, 3)) (ho : 0 ≤ (pc : Int) + o) (hp : ((pc : Int) + o).toNat = pcT) (hp' : pc + 3 = pcF) (kT : ¬ x = y → own_WP K M Q pcT Ls St sf h cs sl) (kF : x = y → own_WP K M Q pcF Ls St sf h cs sl) : own_WP K M Q pc Ls (.int y :: .int x :: St) sf h cs sl := by
  refine own_icmp hd ho hp hp' (fun c => ?_) (fun c => ?_)
  · by_cases q : x = y
    · have z := (teq q).2; rw [z] at c; cases c
    · exact kT q
  · by_cases q : x = y
    · exact kF q
    · have z := (feq q).2; rw [z] at c; cases c
theorem own_iflt {o : Int} {x : Int32} {pcT pcF : Nat} (hd : decode M.b pc = .ok (.ifCond .lt o, 3)) (ho : 0 ≤ (pc : Int) + o) (hp : ((pc : Int) + o).toNat = pcT) (hp' : pc + 3 = pcF) (kT : x < 0 → own_WP K M Q pcT Ls St sf h cs sl) (kF : ¬ x < 0 → own_WP K M Q pcF Ls St sf h cs sl) : own_WP K M Q pc Ls (.int x :: St) sf h cs sl := by
  refine own_if hd ho hp hp' (fun c => ?_) (fun c => ?_)
  · rw [if0] at c; by_cases q : x < 0
    · exact kT q
    · have z := (flt q).1; rw [z] at c; cases c
  · rw [if0] at c; by_cases q : x < 0
    · have z := (tlt q).1; rw [z] at c; cases c
    · exact kF q
theorem own_icmplt {o : Int} {x y : Int32} {pcT pcF : Nat} (hd : decode M.b pc = .ok (.if_icmp .lt o, 3)) (ho : 0 ≤ (pc : Int) + o) (hp : ((pc : Int) + o).toNat = pcT) (hp' : pc + 3 = pcF) (kT : x < y → own_WP K M Q pcT Ls St sf h cs sl) (kF : ¬ x < y → own_WP K M Q pcF Ls St sf h cs sl) : own_WP K M Q pc Ls (.int y :: .int x :: St) sf h cs sl := by
  refine own_icmp hd ho hp hp' (fun c => ?_) (fun c => ?_)
  · by_cases q : x < y
    · exact kT q
    · have z := (flt q).1; rw [z] at c; cases c
  · by_cases q : x < y
    · have z := (tlt q).1; rw [z] at c; cases c
    · exact kF q
theorem own_ifge {o : Int} {x : Int32} {pcT pcF : Nat} (hd : decode M.b pc = .ok (.ifCond .ge o, 3)) (ho : 0 ≤ (pc : Int) + o) (hp : ((pc : Int) + o).toNat = pcT) (hp' : pc + 3 = pcF) (kT : ¬ x < 0 → own_WP K M Q pcT Ls St sf h cs sl) (kF : x < 0 → own_WP K M Q pcF Ls St sf h cs sl) : own_WP K M Q pc Ls (.int x :: St) sf h cs sl := by
  refine own_if hd ho hp hp' (fun c => ?_) (fun c => ?_)
  · rw [if0] at c; by_cases q : x < 0
    · have z := (tlt q).2.1; rw [z] at c; cases c
    · exact kT q
  · rw [if0] at c; by_cases q : x < 0
    · exact kF q
    · have z := (flt q).2.1; rw [z] at c; cases c
theorem own_icmpge {o : Int} {x y : Int32} {pcT pcF : Nat} (hd : decode M.b pc = .ok (.if_icmp .ge o, 3)) (ho : 0 ≤ (pc : Int) + o) (hp : ((pc : Int) + o).toNat = pcT) (hp' : pc + 3 = pcF) (kT : ¬ x < y → own_WP K M Q pcT Ls St sf h cs sl) (kF : x < y → own_WP K M Q pcF Ls St sf h cs sl) : own_WP K M Q pc Ls (.int y :: .int x :: St) sf h cs sl := by
  refine own_icmp hd ho hp hp' (fun c => ?_) (fun c => ?_)
  · by_cases q : x < y
    · have z := (tlt q).2.1; rw [z] at c; cases c
    · exact kT q
  · by_cases q : x < y
    · exact kF q
    · have z := (flt q).2.1; rw [z] at c; cases c
theorem own_icmpgt {o : Int} {x y : Int32} {pcT pcF : Nat} (hd : decode M.b pc = .ok (.if_icmp .gt o, 3)) (ho : 0 ≤ (pc : Int) + o) (hp : ((pc : Int) + o).toNat = pcT) (hp' : pc + 3 = pcF) (kT : y < x → own_WP K M Q pcT Ls St sf h cs sl) (kF : ¬ y < x → own_WP K M Q pcF Ls St sf h cs sl) : own_WP K M Q pc Ls (.int y :: .int x :: St) sf h cs sl := by
  refine own_icmp hd ho hp hp' (fun c => ?_) (fun c => ?_)
  · by_cases q : y < x
    · exact kT q
    · have z := (flt q).2.2.1; rw [z] at c; cases c
  · by_cases q : y < x
    · have z := (tlt q).2.2.1; rw [z] at c; cases c
    · exact kF q
theorem own_ifle {o : Int} {x : Int32} {pcT pcF : Nat} (hd : decode M.b pc = .ok (.ifCond .le o, 3)) (ho : 0 ≤ (pc : Int) + o) (hp : ((pc : Int) + o).toNat = pcT) (hp' : pc + 3 = pcF) (kT : ¬ 0 < x → own_WP K M Q pcT Ls St sf h cs sl) (kF : 0 < x → own_WP K M Q pcF Ls St sf h cs sl) : own_WP K M Q pc Ls (.int x :: St) sf h cs sl := by
  refine own_if hd ho hp hp' (fun c => ?_) (fun c => ?_)
  · rw [if0] at c; by_cases q : 0 < x
    · have z := (tlt q).2.2.2; rw [z] at c; cases c
    · exact kT q
  · rw [if0] at c; by_cases q : 0 < x
    · exact kF q
    · have z := (flt q).2.2.2; rw [z] at c; cases c
theorem own_icmple {o : Int} {x y : Int32} {pcT pcF : Nat} (hd : decode M.b pc = .ok (.if_icmp .le o, 3)) (ho : 0 ≤ (pc : Int) + o) (hp : ((pc : Int) + o).toNat = pcT) (hp' : pc + 3 = pcF) (kT : ¬ y < x → own_WP K M Q pcT Ls St sf h cs sl) (kF : y < x → own_WP K M Q pcF Ls St sf h cs sl) : own_WP K M Q pc Ls (.int y :: .int x :: St) sf h cs sl := by
  refine own_icmp hd ho hp hp' (fun c => ?_) (fun c => ?_)
  · by_cases q : y < x
    · have z := (tlt q).2.2.2; rw [z] at c; cases c
    · exact kT q
  · by_cases q : y < x
    · exact kF q
    · have z := (flt q).2.2.2; rw [z] at c; cases c
theorem own_ifnull_n {o : Int} {b : Addr} (hp : pc + 3 = pc') (hd : decode M.b pc = .ok (.ifnull o, 3)) (k : own_WP K M Q pc' Ls St sf h cs sl) : own_WP K M Q pc Ls (.ref b :: St) sf h cs sl :=
  own_step k fun p e s m args below meth c T locs cs' sl' B X eT t q => XS.ifnullNo X.here B.1 rfl (hb B.2.1 hd) rfl (by subst hp; exact q)
theorem own_ifnonnull_y {o : Int} {b : Addr} (hd : decode M.b pc = .ok (.ifnonnull o, 3)) (ho : 0 ≤ (pc : Int) + o) (hp : ((pc : Int) + o).toNat = pc') (k : own_WP K M Q pc' Ls St sf h cs sl) : own_WP K M Q pc Ls (.ref b :: St) sf h cs sl :=
  own_step k fun p e s m args below meth c T locs cs' sl' B X eT t q => XS.ifnonnullYes X.here B.1 rfl (pc0 := pc) rfl (hb B.2.1 hd) rfl ho hp q
theorem own_ifnonnull_n {o : Int} (hp : pc + 3 = pc') (hd : decode M.b pc = .ok (.ifnonnull o, 3)) (k : own_WP K M Q pc' Ls St sf h cs sl) : own_WP K M Q pc Ls (.null :: St) sf h cs sl :=
  own_step k fun p e s m args below meth c T locs cs' sl' B X eT t q => XS.ifnonnullNo X.here B.1 rfl (hb B.2.1 hd) rfl (by subst hp; exact q)
theorem own_acmpne {o : Int} {x y : Value} {pcT pcF : Nat} (hd : decode M.b pc = .ok (.if_acmp .ne o, 3)) (ho : 0 ≤ (pc : Int) + o) (hp : ((pc : Int) + o).toNat = pcT) (hp' : pc + 3 = pcF) (hx : x.isRef = true) (hy : y.isRef = true) (kT : ¬ x = y → own_WP K M Q pcT Ls St sf h cs sl) (kF : x = y → own_WP K M Q pcF Ls St sf h cs sl) : own_WP K M Q pc Ls (y :: x :: St) sf h cs sl := by
  by_cases z : x = y
  · exact own_step (kF z) fun p e s m args below meth c T locs cs' sl' B X eT t q => XT.acmpNo X.here B.1 rfl (hb B.2.1 hd) rfl hx hy (by simp [XT.acmp, z]) (by subst hp'; exact q)
  · exact own_step (kT z) fun p e s m args below meth c T locs cs' sl' B X eT t q => XT.acmpYes X.here B.1 rfl (pc0 := pc) rfl (hb B.2.1 hd) rfl hx hy (by simp [XT.acmp, z]) ho hp q
/-- returns -/
theorem own_return {qn : Heap → List Addr → Prop} (hr : M.ret = none) (hd : decode M.b pc = .ok (.return_, 1)) (hc : Nat.ble cs M.R.cells = true) (hs : Nat.ble sl M.R.slots = true) (q : qn h sf) : own_WP K M (own_void qn) pc Ls [] sf h cs sl :=
  own_leave (v := none) (fun _ => rfl) (Nat.le_of_ble_eq_true hc) (Nat.le_of_ble_eq_true hs) ⟨rfl, q⟩ fun p e s m args below meth c T locs cs' sl' B X fs hl => X.returnOut B.1 (by rw [B.2.2.2.2.2.1, hr]) (hb B.2.1 hd) hl
theorem own_ireturn {qv : Value → Heap → List Addr → Prop} {z : Int32} (hr : M.ret = some .int) (hd : decode M.b pc = .ok (.ireturn, 1)) (hc : Nat.ble cs M.R.cells = true) (hs : Nat.ble sl M.R.slots = true) (q : qv (.int z) h sf) : own_WP K M (own_ret qv) pc Ls (.int z :: St) sf h cs sl :=
  own_leave (v := some (.int z)) (fun n => by rw [hr] at n; cases n) (Nat.le_of_ble_eq_true hc) (Nat.le_of_ble_eq_true hs) ⟨_, rfl, q⟩ fun p e s m args below meth c T locs cs' sl' B X fs hl => retOut X B.1 (t := .int) (by rw [B.2.2.2.2.2.1, hr]) rfl (Or.inl ⟨rfl, Or.inl rfl, z, rfl⟩) (hb B.2.1 hd) hl
theorem own_ireturnN {qv : Value → Heap → List Addr → Prop} {t : FieldType} {z z' : Int32} (hr : M.ret = some t) (ht : t = .boolean ∨ t = .byte ∨ t = .char ∨ t = .short) (hz : nar t z = z') (hd : decode M.b pc = .ok (.ireturn, 1)) (hc : Nat.ble cs M.R.cells = true) (hs : Nat.ble sl M.R.slots = true) (q : qv (.int z') h sf) : own_WP K M (own_ret qv) pc Ls (.int z :: St) sf h cs sl :=
  own_leave (v := some (.int z')) (fun n => by rw [hr] at n; cases n) (Nat.le_of_ble_eq_true hc) (Nat.le_of_ble_eq_true hs) ⟨_, rfl, q⟩ fun p e s m args below meth c T locs cs' sl' B X fs hl => retN X B.1 (t := t) (by rw [B.2.2.2.2.2.1, hr]) ht (hb B.2.1 hd) (by rw [hz]; exact hl)
theorem own_areturn {qv : Value → Heap → List Addr → Prop} {t : FieldType} {v : Value} (hr : M.ret = some t) (ht : t.isReference = true) (hv : v.isRef = true) (hd : decode M.b pc = .ok (.areturn, 1)) (hc : Nat.ble cs M.R.cells = true) (hs : Nat.ble sl M.R.slots = true) (q : qv v h sf) : own_WP K M (own_ret qv) pc Ls (v :: St) sf h cs sl :=
  own_leave (v := some v) (fun n => by rw [hr] at n; cases n) (Nat.le_of_ble_eq_true hc) (Nat.le_of_ble_eq_true hs) ⟨_, rfl, q⟩ fun p e s m args below meth c T locs cs' sl' B X fs hl => retOut X B.1 (t := t) (by rw [B.2.2.2.2.2.1, hr]) (by cases t <;> first | (cases ht; done) | (rcases ref_cases hv with rfl | ⟨_, rfl⟩ <;> rfl)) (Or.inr (Or.inr (Or.inr (Or.inr ⟨rfl, ht, hv⟩)))) (hb B.2.1 hd) hl
/-- constants of the pool, fields, statics, new objects and arrays -/
theorem own_ldcI {index : Nat} {v : Int32} (hp : pc + 2 = pc') (hd : decode M.b pc = .ok (.ldc index, 2)) (w : (Jvm.Cond.constant M.y.cls index v).before a0 K.Z = true) (k : own_WP K M Q pc' Ls (.int v :: St) sf h cs sl) : own_WP K M Q pc Ls St sf h cs sl :=
  own_step k fun p e s m args below meth c T locs cs' sl' B X eT t q => X.ldcInt B.1 B.2.2.2.1 (mv B.2.2.2.2.2.2.2.1 w) (g := mkF m pc Ls.toArray St) rfl (hb B.2.1 hd) t (by subst hp; exact q)
theorem own_getF {index : Nat} {R0 O n d : String} {a : Addr} {v : Value} (hp : pc + 3 = pc') (hd : decode M.b pc = .ok (.getfield index, 3)) (w : (Jvm.Cond.fieldLink M.y.cls index R0 n d).before a0 K.Z = true) (via : Via K.Z R0 O n d) (F : Fld K.Z h a O n d v) (k : own_WP K M Q pc' Ls (v :: St) sf h cs sl) : own_WP K M Q pc Ls (.ref a :: St) sf h cs sl := by
  subst hp
  exact own_move k fun p e s m args below meth c T locs cs' sl' B X eT hE => getF X B.1 B.2.2.2.2.2.2.2.1 (host := "") B.2.2.2.1 (Or.inl w) via eT F (g := mkF m pc Ls.toArray (.ref a :: St)) rfl rfl (hb B.2.1 hd)
theorem own_getS {index : Nat} {R0 O n d : String} {v : Value} (hp : pc + 3 = pc') (hd : decode M.b pc = .ok (.getstatic index, 3)) (w : (Jvm.Cond.fieldLink M.y.cls index R0 n d).before a0 K.Z = true) (via : Via K.Z R0 O n d) (F : Sta K.Z K.Z.heap O n d v) (k : own_WP K M Q pc' Ls (v :: St) sf h cs sl) : own_WP K M Q pc Ls St sf h cs sl := by
  subst hp
  exact own_move k fun p e s m args below meth c T locs cs' sl' B X eT hE => getS X B.1 B.2.2.2.2.2.2.2.1 (host := "") B.2.2.2.1 w via eT (F.ext hE) (g := mkF m pc Ls.toArray St) rfl (hb B.2.1 hd)
theorem own_new {index n : Nat} {C : String} (hp : pc + 3 = pc') (hd : decode M.b pc = .ok (.new index, 3)) (w : (Jvm.Cond.classLink M.y.cls index C).before a0 K.Z = true) (wi : (Jvm.Cond.instantiable C n).before a0 K.Z = true) (wz : (Jvm.Cond.initialized C).before a0 K.Z = true) (hc : Nat.ble (cs + 1) M.R.cells = true) (hs : Nat.ble (sl + n) M.R.slots = true)
    (k : ∀ (a : Addr) (h' : Heap), @Eq Nat a h.size → Ext h h' → Exa K.Z h' a C → (∀ {O nm d : String} {ty : FieldType}, Laid K.Z a0 C O nm d → parseFieldDescriptor d = some ty → Fld K.Z h' a O nm d (defaultValue ty)) → own_WP K M Q pc' Ls (.ref a :: St) (a :: sf) h' (cs + 1) (sl + n)) : own_WP K M Q pc Ls St sf h cs sl := by
  subst hp
  refine own_grow (P := fun h' => Exa K.Z h' h.size C ∧ (∀ {O nm d : String} {ty : FieldType}, Laid K.Z a0 C O nm d → parseFieldDescriptor d = some ty → Fld K.Z h' h.size O nm d (defaultValue ty))) (Nat.le_of_ble_eq_true hc) (Nat.le_of_ble_eq_true hs) (fun h' E P => k _ h' rfl E P.1 P.2) ?_
  intro p e s m args below meth c T locs cs' sl' B X hc' hs' eT
  obtain ⟨T', h', X', e', E, A, D, -, st⟩ := newO X B.1 B.2.2.2.2.2.2.2.1 B.2.2.2.1 w wi wz eT (g := mkF m pc Ls.toArray St) rfl (hb B.2.1 hd) hc' hs'
  exact ⟨T', h', X', e', E, A.lt, ⟨A, D⟩, st⟩
theorem own_putF {index kk : Nat} {R0 O n d C : String} {ty : FieldType} {a : Addr} {v v' old : Value} (hp : pc + 3 = pc') (hd : decode M.b pc = .ok (.putfield index, 3)) (w : (Jvm.Cond.fieldLink M.y.cls index R0 n d).before a0 K.Z = true) (via : Via K.Z R0 O n d)
    (L : (Jvm.Cond.lays C O n d).before a0 K.Z = true ∨ ((Jvm.Cond.laysFinal C O n d).before a0 K.Z = true ∧ M.y.cls = O ∧ M.y.name = "<init>")) (wi : (Jvm.Cond.instantiable C kk).before a0 K.Z = true) (hty : parseFieldDescriptor d = some ty) (hn : narrow ty v = v') (hf : fits ty v' = true) (F : Fld K.Z h a O n d old) (E : Exa K.Z h a C) (ha : a ∈ sf)
    (k : ∀ h', Wr h h' a (RoadKit.slotOf K.Z O n d) v' → own_WP K M Q pc' Ls St sf h' cs sl) : own_WP K M Q pc Ls (v :: .ref a :: St) sf h cs sl := by
  subst hp
  exact own_write ha k fun p e s m args below meth c T locs cs' sl' B X eT => putFN X B.1 B.2.2.2.2.2.2.2.1 B.2.2.2.1 w via eT F E (L.imp id fun q => ⟨q.1, q.2.1, by rw [B.2.2.2.2.1]; exact q.2.2⟩) wi hty hn hf (g := mkF m pc Ls.toArray (v :: .ref a :: St)) rfl rfl (hb B.2.1 hd)
theorem own_initO {index : Nat} {a : Addr} (hp : pc + 3 = pc') (hd : decode M.b pc = .ok (.invokespecial index, 3)) (w1 : (Jvm.Cond.methodLink M.y.cls index Lib.objectInit).before a0 K.Z = true) (w2 : (Jvm.Cond.instanceMethod Lib.objectInit).before a0 K.Z = true) (w3 : (Jvm.Cond.code Lib.objectInit ⟨#[0xb1]⟩ 1 none).before a0 K.Z = true) (hsz : Ls.length = M.mx) (hf : Nat.ble 1 M.R.frames = true) (hl : Nat.ble ((St.map fun v => v.category).sum + 12) M.R.locals = true)
    (k : own_WP K M Q pc' Ls St sf h cs sl) : own_WP K M Q pc Ls (.ref a :: St) sf h cs sl := by
  subst hp
  exact own_move k fun p e s m args below meth c T locs cs' sl' B X eT hE => initO X B.1 B.2.2.2.2.2.2.2.1 B.2.2.2.1 w1 w2 w3 eT (g := mkF m pc Ls.toArray (.ref a :: St)) rfl (by rw [B.2.2.1, ← hsz]; simp) rfl (hb B.2.1 hd) (Nat.le_of_ble_eq_true hf) (W := (St.map fun v => v.category).sum) (by show 2 * 0 + _ ≤ _; omega) (Nat.le_of_ble_eq_true hl)
theorem own_castY {index : Nat} {C : String} {a : Addr} (hp : pc + 3 = pc') (hd : decode M.b pc = .ok (.checkcast index, 3)) (w : (Jvm.Cond.classLink M.y.cls index C).before a0 K.Z = true) (F : Ins K.Z h a C true) (k : own_WP K M Q pc' Ls (.ref a :: St) sf h cs sl) : own_WP K M Q pc Ls (.ref a :: St) sf h cs sl := by
  subst hp
  exact own_move k fun p e s m args below meth c T locs cs' sl' B X eT hE => castY X B.1 B.2.2.2.2.2.2.2.1 B.2.2.2.1 w eT F (g := mkF m pc Ls.toArray (.ref a :: St)) rfl rfl (hb B.2.1 hd)
theorem own_instY {index : Nat} {C : String} {a : Addr} (hp : pc + 3 = pc') (hd : decode M.b pc = .ok (.instanceof index, 3)) (w : (Jvm.Cond.classLink M.y.cls index C).before a0 K.Z = true) (F : Ins K.Z h a C true) (k : own_WP K M Q pc' Ls (.int 1 :: St) sf h cs sl) : own_WP K M Q pc Ls (.ref a :: St) sf h cs sl := by
  subst hp
  exact own_move k fun p e s m args below meth c T locs cs' sl' B X eT hE => instY X B.1 B.2.2.2.2.2.2.2.1 B.2.2.2.1 w eT F (g := mkF m pc Ls.toArray (.ref a :: St)) rfl rfl (hb B.2.1 hd)
end Plain
section Arrays
/-- the array at a holds just vs -/
def own_Ary (Z : State) (h : Heap) (a : Addr) (ty : FieldType) (vs : List Value) : Prop := ∃ c : Cell, Arr Z h a c ty ∧ c.slots = vs.toArray ∧ vs.length < 2 ^ 31
variable {K : own_Cx} {M : own_Mi} {Q : own_Q} {pc pc' : Nat} {Ls : List Slot} {St : List Value} {sf : List Addr} {h h' : Heap} {cs sl : Nat} {a0 : Array Value} {Z : State} {a b : Addr} {ty : FieldType} {vs : List Value}
theorem own_Ary.ext (F : own_Ary Z h a ty vs) (E : Ext h h') : own_Ary Z h' a ty vs := by obtain ⟨c, A, r⟩ := F; exact ⟨c, A.ext E, r⟩
theorem own_Ary.lt (F : own_Ary Z h a ty vs) : a < h.size := by obtain ⟨c, A, r⟩ := F; exact A.lt
theorem own_Ary.keep {ws : List Addr} (F : own_Ary Z h a ty vs) (k : Keep h h' ws) (q : a ∉ ws) : own_Ary Z h' a ty vs := by obtain ⟨c, A, r⟩ := F; exact ⟨c, ⟨k.2.1 a c A.1 q, A.2⟩, r⟩
theorem own_Ary.other {i : Nat} {v : Value} (F : own_Ary Z h b ty vs) (W : Wr h h' a i v) (q : b ≠ a) : own_Ary Z h' b ty vs := by obtain ⟨c, A, r⟩ := F; exact ⟨c, A.other W q, r⟩
theorem own_Ary.same {i : Nat} {v : Value} (F : own_Ary Z h a ty vs) (W : Wr h h' a i v) : own_Ary Z h' a ty (vs.set i v) := by
  obtain ⟨c, A, r1, r2⟩ := F
  refine ⟨c.setSlot i v, A.same W, ?_, by simpa using r2⟩
  simp [Cell.setSlot, r1]
theorem own_idx {j : Int32} {i n : Nat} (hj : j.toInt = i) (hi : i < n) : ¬ (j < 0 ∨ n ≤ j.toNatClampNeg) ∧ j.toNatClampNeg = i := by
  have q : j.toNatClampNeg = i := by
    have : j.toNatClampNeg = j.toInt.toNat := rfl
    rw [this, hj]; rfl
  refine ⟨fun z => ?_, q⟩
  rcases z with z | z
  · rw [Int32.lt_iff_toInt_lt, hj] at z
    have : (0 : Int32).toInt = 0 := rfl
    omega
  · omega
theorem own_len {n : Nat} (q : n < 2 ^ 31) : (n.toInt32).toInt = n := Int32.toInt_ofNat_small q
theorem own_arrlen {z : Int32} (hp : pc + 1 = pc') (hd : decode M.b pc = .ok (.arraylength, 1)) (F : own_Ary K.Z h a ty vs) (hz : z.toInt = vs.length) (k : own_WP K M Q pc' Ls (.int z :: St) sf h cs sl) : own_WP K M Q pc Ls (.ref a :: St) sf h cs sl := by
  obtain ⟨cl, A, r1, r2⟩ := F
  have e1 : cl.slots.size.toInt32 = z := by
    apply Int32.toInt_inj.mp
    rw [hz, r1]; simpa using own_len r2
  exact own_step k fun p e s m args below meth c T locs cs' sl' B X eT t q => X.arraylength B.1 (by rw [eT]; exact A.1) (State.isArrayOf_alike B.2.2.2.2.2.2.2.1.alike A.2.1) (g := mkF m pc Ls.toArray (.ref a :: St)) rfl rfl (hb B.2.1 hd) t (by subst hp; rw [e1]; exact q)
theorem own_caload {i : Nat} {j : Int32} {v : Value} (hp : pc + 1 = pc') (hd : decode M.b pc = .ok (.caload, 1)) (F : own_Ary K.Z h a .char vs) (hj : j.toInt = i) (hv : vs[i]? = some v) (k : own_WP K M Q pc' Ls (v :: St) sf h cs sl) : own_WP K M Q pc Ls (.int j :: .ref a :: St) sf h cs sl := by
  obtain ⟨cl, A, r1, r2⟩ := F
  have hi : i < vs.length := (List.getElem?_eq_some_iff.mp hv).1
  have hsz : cl.slots.size = vs.length := by rw [r1]; simp
  obtain ⟨q1, q2⟩ := own_idx (n := cl.slots.size) hj (by rw [hsz]; exact hi)
  exact own_step k fun p e s m args below meth c T locs cs' sl' B X eT t q => X.caload B.1 (j := j) (v := v) (by rw [eT]; exact A.1) (State.isArrayOf_alike B.2.2.2.2.2.2.2.1.alike A.2.1) A.2.2 q1 (by rw [q2, r1]; simpa using hv) (g := mkF m pc Ls.toArray (.int j :: .ref a :: St)) rfl rfl (hb B.2.1 hd) t (by subst hp; exact q)
theorem own_baload {i : Nat} {j : Int32} {v : Value} (hp : pc + 1 = pc') (hd : decode M.b pc = .ok (.baload, 1)) (F : own_Ary K.Z h a .byte vs) (hj : j.toInt = i) (hv : vs[i]? = some v) (k : own_WP K M Q pc' Ls (v :: St) sf h cs sl) : own_WP K M Q pc Ls (.int j :: .ref a :: St) sf h cs sl := by
  obtain ⟨cl, A, r1, r2⟩ := F
  have hi : i < vs.length := (List.getElem?_eq_some_iff.mp hv).1
  have hsz : cl.slots.size = vs.length := by rw [r1]; simp
  obtain ⟨q1, q2⟩ := own_idx (n := cl.slots.size) hj (by rw [hsz]; exact hi)
  exact own_step k fun p e s m args below meth c T locs cs' sl' B X eT t q => X.baloadBytes B.1 (j := j) (v := v) (by rw [eT]; exact A.1) (State.isArrayOf_alike B.2.2.2.2.2.2.2.1.alike A.2.1) A.2.2 q1 (by rw [q2, r1]; simpa using hv) (g := mkF m pc Ls.toArray (.int j :: .ref a :: St)) rfl rfl (hb B.2.1 hd) t (by subst hp; exact q)
theorem own_castore {i : Nat} {j x x' : Int32} (hp : pc + 1 = pc') (hd : decode M.b pc = .ok (.castore, 1)) (F : own_Ary K.Z h a .char vs) (hj : j.toInt = i) (hi : i < vs.length) (hx : nar .char x = x') (ha : a ∈ sf) (k : ∀ h', Keep h h' [a] → own_Ary K.Z h' a .char (vs.set i (.int x')) → own_WP K M Q pc' Ls St sf h' cs sl) : own_WP K M Q pc Ls (.int x :: .int j :: .ref a :: St) sf h cs sl := by
  subst hp hx
  have F' := F
  obtain ⟨cl, A, r1, r2⟩ := F
  have hsz : cl.slots.size = vs.length := by rw [r1]; simp
  obtain ⟨q1, q2⟩ := own_idx (n := cl.slots.size) hj (by rw [hsz]; exact hi)
  refine own_write ha (i := j.toNatClampNeg) (fun h' W => k h' (Keep.of_wr W) (by rw [← q2]; exact F'.same W)) ?_
  exact fun p e s m args below meth c T locs cs' sl' B X eT => stC X B.1 B.2.2.2.2.2.2.2.1 eT A (j := j) q1 (g := mkF m pc Ls.toArray (.int x :: .int j :: .ref a :: St)) rfl rfl (hb B.2.1 hd)
theorem own_bastore {i : Nat} {j x x' : Int32} (hp : pc + 1 = pc') (hd : decode M.b pc = .ok (.bastore, 1)) (F : own_Ary K.Z h a .byte vs) (hj : j.toInt = i) (hi : i < vs.length) (hx : nar .byte x = x') (ha : a ∈ sf) (k : ∀ h', Keep h h' [a] → own_Ary K.Z h' a .byte (vs.set i (.int x')) → own_WP K M Q pc' Ls St sf h' cs sl) : own_WP K M Q pc Ls (.int x :: .int j :: .ref a :: St) sf h cs sl := by
  subst hp hx
  have F' := F
  obtain ⟨cl, A, r1, r2⟩ := F
  have hsz : cl.slots.size = vs.length := by rw [r1]; simp
  obtain ⟨q1, q2⟩ := own_idx (n := cl.slots.size) hj (by rw [hsz]; exact hi)
  refine own_write ha (i := j.toNatClampNeg) (fun h' W => k h' (Keep.of_wr W) (by rw [← q2]; exact F'.same W)) ?_
  exact fun p e s m args below meth c T locs cs' sl' B X eT => stB X B.1 B.2.2.2.2.2.2.2.1 eT A (j := j) q1 (g := mkF m pc Ls.toArray (.int x :: .int j :: .ref a :: St)) rfl rfl (hb B.2.1 hd)
theorem own_newarray {aty : ArrayType} {n : Int32} {N cap : Nat} (hp : pc + 2 = pc') (hd : decode M.b pc = .ok (.newarray aty, 2)) (w : (Jvm.Cond.arrayClass (newarray.typeOf aty)).before a0 K.Z = true) (hn : n.toInt = N) (hcap : N ≤ cap) (hb' : Nat.ble (cap * 8) 536870912 = true) (hc : Nat.ble (cs + 1) M.R.cells = true) (hs : Nat.ble (sl + cap) M.R.slots = true)
    (k : ∀ (a : Addr) (h' : Heap), @Eq Nat a h.size → Ext h h' → own_Ary K.Z h' a (newarray.typeOf aty) (List.replicate N (defaultValue (newarray.typeOf aty))) → own_WP K M Q pc' Ls (.ref a :: St) (a :: sf) h' (cs + 1) (sl + cap)) : own_WP K M Q pc Ls (.int n :: St) sf h cs sl := by
  subst hp
  have hN : n.toNatClampNeg = N := by
    have : n.toNatClampNeg = n.toInt.toNat := rfl
    rw [this, hn]; rfl
  have h0 : ¬ n < 0 := fun z => by
    rw [Int32.lt_iff_toInt_lt, hn] at z
    have : (0 : Int32).toInt = 0 := rfl
    omega
  refine own_grow (P := fun h' => own_Ary K.Z h' h.size (newarray.typeOf aty) (List.replicate N (defaultValue (newarray.typeOf aty)))) (Nat.le_of_ble_eq_true hc) (Nat.le_of_ble_eq_true hs) (fun h' E P => k _ h' rfl E P) ?_
  intro p e s m args below meth c T locs cs' sl' B X hc' hs' eT
  obtain ⟨T', h', cA, X', e', E, A, st⟩ := newP X B.1 B.2.2.2.2.2.2.2.1 w eT (g := mkF m pc Ls.toArray (.int n :: St)) rfl (hb B.2.1 hd) rfl h0 (cap := cap) (by omega) (Nat.le_of_ble_eq_true hb') hc' hs'
  have hlt := (back32 h0).2
  exact ⟨T', h', X', e', E, A.lt, ⟨_, A, by simp [newA, hN], by rw [List.length_replicate, ← hN]; exact hlt⟩, st⟩
end Arrays
theorem own_lenOf {d : String} {ps : List FieldType} {r : Option FieldType} (hd : parseMethodDescriptor d = some ⟨ps, r⟩) {n : Nat} (hl : n = ps.length) : ∀ sig, parseMethodDescriptor d = some sig → n = sig.parameters.length := fun sig q => by cases hd.symm.trans q; exact hl
theorem own_cat {v : Value} (q : v.isRef = true) : v.category = 1 := by rcases ref_cases q with rfl | ⟨_, rfl⟩ <;> rfl
theorem own_ne {a b : Addr} (q : @Ne Nat a b) : a ≠ b := q
theorem own_nb0 : nar .boolean 0 = 0 := rfl
theorem own_nb1 : nar .boolean 1 = 1 := rfl
theorem own_ints_get {cs : List Int32} {i : Nat} {c : Int32} (hc : cs[i]? = some c) : (cs.map Value.int)[i]? = some (.int c) := by simp [hc]
theorem own_ints_getM {cs : List Int32} {f : Int32 → Int32} {i : Nat} {c : Int32} (hc : cs[i]? = some c) : ((cs.map f).map Value.int)[i]? = some (.int (f c)) := by simp [hc]
theorem tw_0 {a0 : Array Value} {Z : State} (hw : ∀ d ∈ tables_1, d.before a0 Z = true) : (Jvm.Cond.arrayClass Jvm.ClassFile.FieldType.char).before a0 Z = true := hw _ (List.mem_of_getElem? (i := 0) rfl)
theorem tw_1 {a0 : Array Value} {Z : State} (hw : ∀ d ∈ tables_1, d.before a0 Z = true) : (Jvm.Cond.methodLink "com/example/selgen/selgen/CompactJsonOfPinLaw" (20 : Nat) ({ cls := "com/example/selgen/selgen/CompactJsonOfPinLaw", name := "draw", desc := "(I)C" } : Jvm.MethodName)).before a0 Z = true := hw _ (List.mem_of_getElem? (i := 1) rfl)
theorem tw_2 {a0 : Array Value} {Z : State} (hw : ∀ d ∈ tables_1, d.before a0 Z = true) : (Jvm.Cond.static ({ cls := "com/example/selgen/selgen/CompactJsonOfPinLaw", name := "draw", desc := "(I)C" } : Jvm.MethodName)).before a0 Z = true := hw _ (List.mem_of_getElem? (i := 2) rfl)
theorem tw_3 {a0 : Array Value} {Z : State} (hw : ∀ d ∈ tables_1, d.before a0 Z = true) : (Jvm.Cond.initialized "com/example/selgen/selgen/CompactJsonOfPinLaw").before a0 Z = true := hw _ (List.mem_of_getElem? (i := 3) rfl)
theorem tw_4 {a0 : Array Value} {Z : State} (hw : ∀ d ∈ tables_1, d.before a0 Z = true) : (Jvm.Cond.code ({ cls := "com/example/selgen/selgen/CompactJsonOfPinLaw", name := "draw", desc := "(I)C" } : Jvm.MethodName) method_2_code (2 : Nat) (Option.some Jvm.ClassFile.FieldType.char)).before a0 Z = true := hw _ (List.mem_of_getElem? (i := 4) rfl)
theorem tw_5 {a0 : Array Value} {Z : State} (hw : ∀ d ∈ tables_1, d.before a0 Z = true) : (Jvm.Cond.classLink "com/example/selgen/selgen/CompactJsonOfPinLaw" (15 : Nat) "java/lang/String").before a0 Z = true := hw _ (List.mem_of_getElem? (i := 5) rfl)
theorem tw_6 {a0 : Array Value} {Z : State} (hw : ∀ d ∈ tables_1, d.before a0 Z = true) : (Jvm.Cond.instantiable "java/lang/String" (4 : Nat)).before a0 Z = true := hw _ (List.mem_of_getElem? (i := 6) rfl)
theorem tw_7 {a0 : Array Value} {Z : State} (hw : ∀ d ∈ tables_1, d.before a0 Z = true) : (Jvm.Cond.initialized "java/lang/String").before a0 Z = true := hw _ (List.mem_of_getElem? (i := 7) rfl)
theorem tw_8 {a0 : Array Value} {Z : State} (hw : ∀ d ∈ tables_1, d.before a0 Z = true) : (Jvm.Cond.methodLink "com/example/selgen/selgen/CompactJsonOfPinLaw" (23 : Nat) ({ cls := "java/lang/String", name := "<init>", desc := "([C)V" } : Jvm.MethodName)).before a0 Z = true := hw _ (List.mem_of_getElem? (i := 8) rfl)
theorem tw_9 {a0 : Array Value} {Z : State} (hw : ∀ d ∈ tables_1, d.before a0 Z = true) : (Jvm.Cond.instanceMethod ({ cls := "java/lang/String", name := "<init>", desc := "([C)V" } : Jvm.MethodName)).before a0 Z = true := hw _ (List.mem_of_getElem? (i := 9) rfl)
theorem tw_10 {a0 : Array Value} {Z : State} (hw : ∀ d ∈ tables_1, d.before a0 Z = true) : (Jvm.Cond.code ({ cls := "java/lang/String", name := "<init>", desc := "([C)V" } : Jvm.MethodName) jdk_42_method_3_code (2 : Nat) (Option.none : Option Jvm.ClassFile.FieldType)).before a0 Z = true := hw _ (List.mem_of_getElem? (i := 10) rfl)
theorem tw_11 {a0 : Array Value} {Z : State} (hw : ∀ d ∈ tables_1, d.before a0 Z = true) : (Jvm.Cond.methodLink "java/lang/String" (27 : Nat) ({ cls := "java/lang/String", name := "<init>", desc := "([CIILjava/lang/Void;)V" } : Jvm.MethodName)).before a0 Z = true := hw _ (List.mem_of_getElem? (i := 11) rfl)
theorem tw_12 {a0 : Array Value} {Z : State} (hw : ∀ d ∈ tables_1, d.before a0 Z = true) : (Jvm.Cond.instanceMethod ({ cls := "java/lang/String", name := "<init>", desc := "([CIILjava/lang/Void;)V" } : Jvm.MethodName)).before a0 Z = true := hw _ (List.mem_of_getElem? (i := 12) rfl)
theorem tw_14 {a0 : Array Value} {Z : State} (hw : ∀ d ∈ tables_1, d.before a0 Z = true) : (Jvm.Cond.code ({ cls := "java/lang/String", name := "<init>", desc := "([CIILjava/lang/Void;)V" } : Jvm.MethodName) jdk_42_method_149_code (6 : Nat) (Option.none : Option Jvm.ClassFile.FieldType)).before a0 Z = true := hw _ (List.mem_of_getElem? (i := 14) rfl)
theorem tw_15 {a0 : Array Value} {Z : State} (hw : ∀ d ∈ tables_1, d.before a0 Z = true) : (Jvm.Cond.methodLink "java/lang/String" (1 : Nat) ({ cls := "java/lang/Object", name := "<init>", desc := "()V" } : Jvm.MethodName)).before a0 Z = true := hw _ (List.mem_of_getElem? (i := 15) rfl)
theorem tw_16 {a0 : Array Value} {Z : State} (hw : ∀ d ∈ tables_1, d.before a0 Z = true) : (Jvm.Cond.instanceMethod ({ cls := "java/lang/Object", name := "<init>", desc := "()V" } : Jvm.MethodName)).before a0 Z = true := hw _ (List.mem_of_getElem? (i := 16) rfl)
theorem tw_17 {a0 : Array Value} {Z : State} (hw : ∀ d ∈ tables_1, d.before a0 Z = true) : (Jvm.Cond.code ({ cls := "java/lang/Object", name := "<init>", desc := "()V" } : Jvm.MethodName) object_method_1_code (1 : Nat) (Option.none : Option Jvm.ClassFile.FieldType)).before a0 Z = true := hw _ (List.mem_of_getElem? (i := 17) rfl)
theorem tw_18 {a0 : Array Value} {Z : State} (hw : ∀ d ∈ tables_1, d.before a0 Z = true) : (Jvm.Cond.fieldLink "java/lang/String" (38 : Nat) "java/lang/String" "COMPACT_STRINGS" "Z").before a0 Z = true := hw _ (List.mem_of_getElem? (i := 18) rfl)
theorem tw_19 {a0 : Array Value} {Z : State} (hw : ∀ d ∈ tables_1, d.before a0 Z = true) : (Jvm.Cond.methodLink "java/lang/String" (177 : Nat) ({ cls := "java/lang/StringUTF16", name := "compress", desc := "([CII)[B" } : Jvm.MethodName)).before a0 Z = true := hw _ (List.mem_of_getElem? (i := 19) rfl)
theorem tw_20 {a0 : Array Value} {Z : State} (hw : ∀ d ∈ tables_1, d.before a0 Z = true) : (Jvm.Cond.static ({ cls := "java/lang/StringUTF16", name := "compress", desc := "([CII)[B" } : Jvm.MethodName)).before a0 Z = true := hw _ (List.mem_of_getElem? (i := 20) rfl)
theorem tw_21 {a0 : Array Value} {Z : State} (hw : ∀ d ∈ tables_1, d.before a0 Z = true) : (Jvm.Cond.initialized "java/lang/StringUTF16").before a0 Z = true := hw _ (List.mem_of_getElem? (i := 21) rfl)
theorem tw_22 {a0 : Array Value} {Z : State} (hw : ∀ d ∈ tables_1, d.before a0 Z = true) : (Jvm.Cond.code ({ cls := "java/lang/StringUTF16", name := "compress", desc := "([CII)[B" } : Jvm.MethodName) jdk_52_method_16_code (6 : Nat) (Option.some (Jvm.ClassFile.FieldType.array Jvm.ClassFile.FieldType.byte))).before a0 Z = true := hw _ (List.mem_of_getElem? (i := 22) rfl)
theorem tw_23 {a0 : Array Value} {Z : State} (hw : ∀ d ∈ tables_1, d.before a0 Z = true) : (Jvm.Cond.arrayClass Jvm.ClassFile.FieldType.byte).before a0 Z = true := hw _ (List.mem_of_getElem? (i := 23) rfl)
theorem tw_24 {a0 : Array Value} {Z : State} (hw : ∀ d ∈ tables_1, d.before a0 Z = true) : (Jvm.Cond.methodLink "java/lang/StringUTF16" (115 : Nat) ({ cls := "java/lang/StringUTF16", name := "compress", desc := "([CI[BII)I" } : Jvm.MethodName)).before a0 Z = true := hw _ (List.mem_of_getElem? (i := 24) rfl)
theorem tw_25 {a0 : Array Value} {Z : State} (hw : ∀ d ∈ tables_1, d.before a0 Z = true) : (Jvm.Cond.static ({ cls := "java/lang/StringUTF16", name := "compress", desc := "([CI[BII)I" } : Jvm.MethodName)).before a0 Z = true := hw _ (List.mem_of_getElem? (i := 25) rfl)
theorem tw_26 {a0 : Array Value} {Z : State} (hw : ∀ d ∈ tables_1, d.before a0 Z = true) : (Jvm.Cond.code ({ cls := "java/lang/StringUTF16", name := "compress", desc := "([CI[BII)I" } : Jvm.MethodName) jdk_52_method_21_code (7 : Nat) (Option.some Jvm.ClassFile.FieldType.int)).before a0 Z = true := hw _ (List.mem_of_getElem? (i := 26) rfl)
theorem tw_27 {a0 : Array Value} {Z : State} (hw : ∀ d ∈ tables_1, d.before a0 Z = true) : (Jvm.Cond.methodLink "java/lang/String" (47 : Nat) ({ cls := "java/lang/StringUTF16", name := "coderFromArrayLen", desc := "([BI)B" } : Jvm.MethodName)).before a0 Z = true := hw _ (List.mem_of_getElem? (i := 27) rfl)
theorem tw_28 {a0 : Array Value} {Z : State} (hw : ∀ d ∈ tables_1, d.before a0 Z = true) : (Jvm.Cond.static ({ cls := "java/lang/StringUTF16", name := "coderFromArrayLen", desc := "([BI)B" } : Jvm.MethodName)).before a0 Z = true := hw _ (List.mem_of_getElem? (i := 28) rfl)
theorem tw_29 {a0 : Array Value} {Z : State} (hw : ∀ d ∈ tables_1, d.before a0 Z = true) : (Jvm.Cond.code ({ cls := "java/lang/StringUTF16", name := "coderFromArrayLen", desc := "([BI)B" } : Jvm.MethodName) jdk_52_method_15_code (2 : Nat) (Option.some Jvm.ClassFile.FieldType.byte)).before a0 Z = true := hw _ (List.mem_of_getElem? (i := 29) rfl)
theorem tw_30 {a0 : Array Value} {Z : State} (hw : ∀ d ∈ tables_1, d.before a0 Z = true) : (Jvm.Cond.fieldLink "java/lang/String" (15 : Nat) "java/lang/String" "coder" "B").before a0 Z = true := hw _ (List.mem_of_getElem? (i := 30) rfl)
theorem tw_31 {a0 : Array Value} {Z : State} (hw : ∀ d ∈ tables_1, d.before a0 Z = true) : (Jvm.Cond.laysFinal "java/lang/String" "java/lang/String" "coder" "B").before a0 Z = true := hw _ (List.mem_of_getElem? (i := 31) rfl)
theorem tw_32 {a0 : Array Value} {Z : State} (hw : ∀ d ∈ tables_1, d.before a0 Z = true) : (Jvm.Cond.fieldLink "java/lang/String" (9 : Nat) "java/lang/String" "value" "[B").before a0 Z = true := hw _ (List.mem_of_getElem? (i := 32) rfl)
theorem tw_33 {a0 : Array Value} {Z : State} (hw : ∀ d ∈ tables_1, d.before a0 Z = true) : (Jvm.Cond.laysFinal "java/lang/String" "java/lang/String" "value" "[B").before a0 Z = true := hw _ (List.mem_of_getElem? (i := 33) rfl)
theorem tw_34 {a0 : Array Value} {Z : State} (hw : ∀ d ∈ tables_1, d.before a0 Z = true) : (Jvm.Cond.methodLink "com/example/selgen/selgen/CompactJsonOfPinLaw" (26 : Nat) ({ cls := "com/example/selgen/selgen/CompactJsonOfPinLaw", name := "keep", desc := "(IC)Z" } : Jvm.MethodName)).before a0 Z = true := hw _ (List.mem_of_getElem? (i := 34) rfl)
theorem tw_35 {a0 : Array Value} {Z : State} (hw : ∀ d ∈ tables_1, d.before a0 Z = true) : (Jvm.Cond.static ({ cls := "com/example/selgen/selgen/CompactJsonOfPinLaw", name := "keep", desc := "(IC)Z" } : Jvm.MethodName)).before a0 Z = true := hw _ (List.mem_of_getElem? (i := 35) rfl)
theorem tw_36 {a0 : Array Value} {Z : State} (hw : ∀ d ∈ tables_1, d.before a0 Z = true) : (Jvm.Cond.code ({ cls := "com/example/selgen/selgen/CompactJsonOfPinLaw", name := "keep", desc := "(IC)Z" } : Jvm.MethodName) method_5_code (2 : Nat) (Option.some Jvm.ClassFile.FieldType.boolean)).before a0 Z = true := hw _ (List.mem_of_getElem? (i := 36) rfl)
theorem tw_37 {a0 : Array Value} {Z : State} (hw : ∀ d ∈ tables_1, d.before a0 Z = true) : (Jvm.Cond.methodLink "com/example/selgen/selgen/CompactJsonOfPinLaw" (8 : Nat) ({ cls := "com/example/selgen/selgen/CompactJsonOfPinLaw", name := "ws", desc := "(C)Z" } : Jvm.MethodName)).before a0 Z = true := hw _ (List.mem_of_getElem? (i := 37) rfl)
theorem tw_38 {a0 : Array Value} {Z : State} (hw : ∀ d ∈ tables_1, d.before a0 Z = true) : (Jvm.Cond.static ({ cls := "com/example/selgen/selgen/CompactJsonOfPinLaw", name := "ws", desc := "(C)Z" } : Jvm.MethodName)).before a0 Z = true := hw _ (List.mem_of_getElem? (i := 38) rfl)
theorem tw_39 {a0 : Array Value} {Z : State} (hw : ∀ d ∈ tables_1, d.before a0 Z = true) : (Jvm.Cond.code ({ cls := "com/example/selgen/selgen/CompactJsonOfPinLaw", name := "ws", desc := "(C)Z" } : Jvm.MethodName) method_3_code (1 : Nat) (Option.some Jvm.ClassFile.FieldType.boolean)).before a0 Z = true := hw _ (List.mem_of_getElem? (i := 39) rfl)
theorem tw_40 {a0 : Array Value} {Z : State} (hw : ∀ d ∈ tables_1, d.before a0 Z = true) : (Jvm.Cond.methodLink "com/example/selgen/selgen/CompactJsonOfPinLaw" (30 : Nat) ({ cls := "com/example/selgen/selgen/CompactJsonOfPinLaw", name := "next", desc := "(IC)I" } : Jvm.MethodName)).before a0 Z = true := hw _ (List.mem_of_getElem? (i := 40) rfl)
theorem tw_41 {a0 : Array Value} {Z : State} (hw : ∀ d ∈ tables_1, d.before a0 Z = true) : (Jvm.Cond.static ({ cls := "com/example/selgen/selgen/CompactJsonOfPinLaw", name := "next", desc := "(IC)I" } : Jvm.MethodName)).before a0 Z = true := hw _ (List.mem_of_getElem? (i := 41) rfl)
theorem tw_42 {a0 : Array Value} {Z : State} (hw : ∀ d ∈ tables_1, d.before a0 Z = true) : (Jvm.Cond.code ({ cls := "com/example/selgen/selgen/CompactJsonOfPinLaw", name := "next", desc := "(IC)I" } : Jvm.MethodName) method_4_code (2 : Nat) (Option.some Jvm.ClassFile.FieldType.int)).before a0 Z = true := hw _ (List.mem_of_getElem? (i := 42) rfl)
theorem tw_43 {a0 : Array Value} {Z : State} (hw : ∀ d ∈ tables_1, d.before a0 Z = true) : (Jvm.Cond.methodLink "com/example/selgen/selgen/CompactJsonOfPinLaw" (34 : Nat) ({ cls := "com/example/selgen/selgen/CompactJson", name := "of", desc := "(Ljava/lang/String;)Ljava/lang/String;" } : Jvm.MethodName)).before a0 Z = true := hw _ (List.mem_of_getElem? (i := 43) rfl)
theorem tw_44 {a0 : Array Value} {Z : State} (hw : ∀ d ∈ tables_1, d.before a0 Z = true) : (Jvm.Cond.static ({ cls := "com/example/selgen/selgen/CompactJson", name := "of", desc := "(Ljava/lang/String;)Ljava/lang/String;" } : Jvm.MethodName)).before a0 Z = true := hw _ (List.mem_of_getElem? (i := 44) rfl)
theorem tw_45 {a0 : Array Value} {Z : State} (hw : ∀ d ∈ tables_1, d.before a0 Z = true) : (Jvm.Cond.initialized "com/example/selgen/selgen/CompactJson").before a0 Z = true := hw _ (List.mem_of_getElem? (i := 45) rfl)
theorem tw_46 {a0 : Array Value} {Z : State} (hw : ∀ d ∈ tables_1, d.before a0 Z = true) : (Jvm.Cond.code ({ cls := "com/example/selgen/selgen/CompactJson", name := "of", desc := "(Ljava/lang/String;)Ljava/lang/String;" } : Jvm.MethodName) prog_3_method_2_code (8 : Nat) (Option.some (Jvm.ClassFile.FieldType.object "java/lang/String"))).before a0 Z = true := hw _ (List.mem_of_getElem? (i := 46) rfl)
theorem tw_47 {a0 : Array Value} {Z : State} (hw : ∀ d ∈ tables_1, d.before a0 Z = true) : (Jvm.Cond.methodLink "com/example/selgen/selgen/CompactJson" (7 : Nat) ({ cls := "java/lang/String", name := "length", desc := "()I" } : Jvm.MethodName)).before a0 Z = true := hw _ (List.mem_of_getElem? (i := 47) rfl)
theorem tw_48 {a0 : Array Value} {Z : State} (hw : ∀ d ∈ tables_1, d.before a0 Z = true) : (Jvm.Cond.declares ({ cls := "java/lang/String", name := "length", desc := "()I" } : Jvm.MethodName)).before a0 Z = true := hw _ (List.mem_of_getElem? (i := 48) rfl)
theorem tw_49 {a0 : Array Value} {Z : State} (hw : ∀ d ∈ tables_1, d.before a0 Z = true) : (Jvm.Cond.instanceMethod ({ cls := "java/lang/String", name := "length", desc := "()I" } : Jvm.MethodName)).before a0 Z = true := hw _ (List.mem_of_getElem? (i := 49) rfl)
theorem tw_50 {a0 : Array Value} {Z : State} (hw : ∀ d ∈ tables_1, d.before a0 Z = true) : (Jvm.Cond.selects "java/lang/String" ({ cls := "java/lang/String", name := "length", desc := "()I" } : Jvm.MethodName) ({ cls := "java/lang/String", name := "length", desc := "()I" } : Jvm.MethodName)).before a0 Z = true := hw _ (List.mem_of_getElem? (i := 50) rfl)
theorem tw_51 {a0 : Array Value} {Z : State} (hw : ∀ d ∈ tables_1, d.before a0 Z = true) : (Jvm.Cond.code ({ cls := "java/lang/String", name := "length", desc := "()I" } : Jvm.MethodName) jdk_42_method_54_code (1 : Nat) (Option.some Jvm.ClassFile.FieldType.int)).before a0 Z = true := hw _ (List.mem_of_getElem? (i := 51) rfl)
theorem tw_52 {a0 : Array Value} {Z : State} (hw : ∀ d ∈ tables_1, d.before a0 Z = true) : (Jvm.Cond.methodLink "java/lang/String" (335 : Nat) ({ cls := "java/lang/String", name := "coder", desc := "()B" } : Jvm.MethodName)).before a0 Z = true := hw _ (List.mem_of_getElem? (i := 52) rfl)
theorem tw_53 {a0 : Array Value} {Z : State} (hw : ∀ d ∈ tables_1, d.before a0 Z = true) : (Jvm.Cond.declares ({ cls := "java/lang/String", name := "coder", desc := "()B" } : Jvm.MethodName)).before a0 Z = true := hw _ (List.mem_of_getElem? (i := 53) rfl)
theorem tw_54 {a0 : Array Value} {Z : State} (hw : ∀ d ∈ tables_1, d.before a0 Z = true) : (Jvm.Cond.instanceMethod ({ cls := "java/lang/String", name := "coder", desc := "()B" } : Jvm.MethodName)).before a0 Z = true := hw _ (List.mem_of_getElem? (i := 54) rfl)
theorem tw_55 {a0 : Array Value} {Z : State} (hw : ∀ d ∈ tables_1, d.before a0 Z = true) : (Jvm.Cond.selects "java/lang/String" ({ cls := "java/lang/String", name := "coder", desc := "()B" } : Jvm.MethodName) ({ cls := "java/lang/String", name := "coder", desc := "()B" } : Jvm.MethodName)).before a0 Z = true := hw _ (List.mem_of_getElem? (i := 55) rfl)
theorem tw_56 {a0 : Array Value} {Z : State} (hw : ∀ d ∈ tables_1, d.before a0 Z = true) : (Jvm.Cond.code ({ cls := "java/lang/String", name := "coder", desc := "()B" } : Jvm.MethodName) jdk_42_method_152_code (1 : Nat) (Option.some Jvm.ClassFile.FieldType.byte)).before a0 Z = true := hw _ (List.mem_of_getElem? (i := 56) rfl)
theorem tw_57 {a0 : Array Value} {Z : State} (hw : ∀ d ∈ tables_1, d.before a0 Z = true) : (Jvm.Cond.methodLink "com/example/selgen/selgen/CompactJson" (13 : Nat) ({ cls := "java/lang/String", name := "charAt", desc := "(I)C" } : Jvm.MethodName)).before a0 Z = true := hw _ (List.mem_of_getElem? (i := 57) rfl)
theorem tw_58 {a0 : Array Value} {Z : State} (hw : ∀ d ∈ tables_1, d.before a0 Z = true) : (Jvm.Cond.declares ({ cls := "java/lang/String", name := "charAt", desc := "(I)C" } : Jvm.MethodName)).before a0 Z = true := hw _ (List.mem_of_getElem? (i := 58) rfl)
theorem tw_59 {a0 : Array Value} {Z : State} (hw : ∀ d ∈ tables_1, d.before a0 Z = true) : (Jvm.Cond.instanceMethod ({ cls := "java/lang/String", name := "charAt", desc := "(I)C" } : Jvm.MethodName)).before a0 Z = true := hw _ (List.mem_of_getElem? (i := 59) rfl)
theorem tw_60 {a0 : Array Value} {Z : State} (hw : ∀ d ∈ tables_1, d.before a0 Z = true) : (Jvm.Cond.selects "java/lang/String" ({ cls := "java/lang/String", name := "charAt", desc := "(I)C" } : Jvm.MethodName) ({ cls := "java/lang/String", name := "charAt", desc := "(I)C" } : Jvm.MethodName)).before a0 Z = true := hw _ (List.mem_of_getElem? (i := 60) rfl)
theorem tw_61 {a0 : Array Value} {Z : State} (hw : ∀ d ∈ tables_1, d.before a0 Z = true) : (Jvm.Cond.code ({ cls := "java/lang/String", name := "charAt", desc := "(I)C" } : Jvm.MethodName) jdk_42_method_56_code (2 : Nat) (Option.some Jvm.ClassFile.FieldType.char)).before a0 Z = true := hw _ (List.mem_of_getElem? (i := 61) rfl)
theorem tw_62 {a0 : Array Value} {Z : State} (hw : ∀ d ∈ tables_1, d.before a0 Z = true) : (Jvm.Cond.methodLink "java/lang/String" (492 : Nat) ({ cls := "java/lang/String", name := "isLatin1", desc := "()Z" } : Jvm.MethodName)).before a0 Z = true := hw _ (List.mem_of_getElem? (i := 62) rfl)
theorem tw_63 {a0 : Array Value} {Z : State} (hw : ∀ d ∈ tables_1, d.before a0 Z = true) : (Jvm.Cond.declares ({ cls := "java/lang/String", name := "isLatin1", desc := "()Z" } : Jvm.MethodName)).before a0 Z = true := hw _ (List.mem_of_getElem? (i := 63) rfl)
theorem tw_64 {a0 : Array Value} {Z : State} (hw : ∀ d ∈ tables_1, d.before a0 Z = true) : (Jvm.Cond.instanceMethod ({ cls := "java/lang/String", name := "isLatin1", desc := "()Z" } : Jvm.MethodName)).before a0 Z = true := hw _ (List.mem_of_getElem? (i := 64) rfl)
theorem tw_65 {a0 : Array Value} {Z : State} (hw : ∀ d ∈ tables_1, d.before a0 Z = true) : (Jvm.Cond.selects "java/lang/String" ({ cls := "java/lang/String", name := "isLatin1", desc := "()Z" } : Jvm.MethodName) ({ cls := "java/lang/String", name := "isLatin1", desc := "()Z" } : Jvm.MethodName)).before a0 Z = true := hw _ (List.mem_of_getElem? (i := 65) rfl)
theorem tw_66 {a0 : Array Value} {Z : State} (hw : ∀ d ∈ tables_1, d.before a0 Z = true) : (Jvm.Cond.code ({ cls := "java/lang/String", name := "isLatin1", desc := "()Z" } : Jvm.MethodName) jdk_42_method_154_code (1 : Nat) (Option.some Jvm.ClassFile.FieldType.boolean)).before a0 Z = true := hw _ (List.mem_of_getElem? (i := 66) rfl)
theorem tw_67 {a0 : Array Value} {Z : State} (hw : ∀ d ∈ tables_1, d.before a0 Z = true) : (Jvm.Cond.methodLink "java/lang/String" (495 : Nat) ({ cls := "java/lang/StringLatin1", name := "charAt", desc := "([BI)C" } : Jvm.MethodName)).before a0 Z = true := hw _ (List.mem_of_getElem? (i := 67) rfl)
theorem tw_68 {a0 : Array Value} {Z : State} (hw : ∀ d ∈ tables_1, d.before a0 Z = true) : (Jvm.Cond.static ({ cls := "java/lang/StringLatin1", name := "charAt", desc := "([BI)C" } : Jvm.MethodName)).before a0 Z = true := hw _ (List.mem_of_getElem? (i := 68) rfl)
theorem tw_69 {a0 : Array Value} {Z : State} (hw : ∀ d ∈ tables_1, d.before a0 Z = true) : (Jvm.Cond.initialized "java/lang/StringLatin1").before a0 Z = true := hw _ (List.mem_of_getElem? (i := 69) rfl)
theorem tw_70 {a0 : Array Value} {Z : State} (hw : ∀ d ∈ tables_1, d.before a0 Z = true) : (Jvm.Cond.code ({ cls := "java/lang/StringLatin1", name := "charAt", desc := "([BI)C" } : Jvm.MethodName) jdk_43_method_2_code (2 : Nat) (Option.some Jvm.ClassFile.FieldType.char)).before a0 Z = true := hw _ (List.mem_of_getElem? (i := 70) rfl)
theorem tw_71 {a0 : Array Value} {Z : State} (hw : ∀ d ∈ tables_1, d.before a0 Z = true) : (Jvm.Cond.methodLink "java/lang/StringLatin1" (9 : Nat) ({ cls := "java/lang/String", name := "checkIndex", desc := "(II)V" } : Jvm.MethodName)).before a0 Z = true := hw _ (List.mem_of_getElem? (i := 71) rfl)
theorem tw_72 {a0 : Array Value} {Z : State} (hw : ∀ d ∈ tables_1, d.before a0 Z = true) : (Jvm.Cond.static ({ cls := "java/lang/String", name := "checkIndex", desc := "(II)V" } : Jvm.MethodName)).before a0 Z = true := hw _ (List.mem_of_getElem? (i := 72) rfl)
theorem tw_73 {a0 : Array Value} {Z : State} (hw : ∀ d ∈ tables_1, d.before a0 Z = true) : (Jvm.Cond.code ({ cls := "java/lang/String", name := "checkIndex", desc := "(II)V" } : Jvm.MethodName) jdk_42_method_155_code (2 : Nat) (Option.none : Option Jvm.ClassFile.FieldType)).before a0 Z = true := hw _ (List.mem_of_getElem? (i := 73) rfl)
theorem tw_74 {a0 : Array Value} {Z : State} (hw : ∀ d ∈ tables_1, d.before a0 Z = true) : (Jvm.Cond.fieldLink "java/lang/String" (1053 : Nat) "jdk/internal/util/Preconditions" "SIOOBE_FORMATTER" "Ljava/util/function/BiFunction;").before a0 Z = true := hw _ (List.mem_of_getElem? (i := 74) rfl)
theorem tw_75 {a0 : Array Value} {Z : State} (hw : ∀ d ∈ tables_1, d.before a0 Z = true) : (Jvm.Cond.initialized "jdk/internal/util/Preconditions").before a0 Z = true := hw _ (List.mem_of_getElem? (i := 75) rfl)
theorem tw_76 {a0 : Array Value} {Z : State} (hw : ∀ d ∈ tables_1, d.before a0 Z = true) : (Jvm.Cond.methodLink "java/lang/String" (1059 : Nat) ({ cls := "jdk/internal/util/Preconditions", name := "checkIndex", desc := "(IILjava/util/function/BiFunction;)I" } : Jvm.MethodName)).before a0 Z = true := hw _ (List.mem_of_getElem? (i := 76) rfl)
theorem tw_77 {a0 : Array Value} {Z : State} (hw : ∀ d ∈ tables_1, d.before a0 Z = true) : (Jvm.Cond.static ({ cls := "jdk/internal/util/Preconditions", name := "checkIndex", desc := "(IILjava/util/function/BiFunction;)I" } : Jvm.MethodName)).before a0 Z = true := hw _ (List.mem_of_getElem? (i := 77) rfl)
theorem tw_78 {a0 : Array Value} {Z : State} (hw : ∀ d ∈ tables_1, d.before a0 Z = true) : (Jvm.Cond.code ({ cls := "jdk/internal/util/Preconditions", name := "checkIndex", desc := "(IILjava/util/function/BiFunction;)I" } : Jvm.MethodName) jdk_41_method_11_code (3 : Nat) (Option.some Jvm.ClassFile.FieldType.int)).before a0 Z = true := hw _ (List.mem_of_getElem? (i := 78) rfl)
theorem tw_79 {a0 : Array Value} {Z : State} (hw : ∀ d ∈ tables_1, d.before a0 Z = true) : (Jvm.Cond.methodLink "com/example/selgen/selgen/CompactJson" (17 : Nat) ({ cls := "com/example/selgen/selgen/CompactJson", name := "nextOrEnd", desc := "(Ljava/lang/String;CI)I" } : Jvm.MethodName)).before a0 Z = true := hw _ (List.mem_of_getElem? (i := 79) rfl)
theorem tw_80 {a0 : Array Value} {Z : State} (hw : ∀ d ∈ tables_1, d.before a0 Z = true) : (Jvm.Cond.static ({ cls := "com/example/selgen/selgen/CompactJson", name := "nextOrEnd", desc := "(Ljava/lang/String;CI)I" } : Jvm.MethodName)).before a0 Z = true := hw _ (List.mem_of_getElem? (i := 80) rfl)
theorem tw_81 {a0 : Array Value} {Z : State} (hw : ∀ d ∈ tables_1, d.before a0 Z = true) : (Jvm.Cond.code ({ cls := "com/example/selgen/selgen/CompactJson", name := "nextOrEnd", desc := "(Ljava/lang/String;CI)I" } : Jvm.MethodName) prog_3_method_3_code (4 : Nat) (Option.some Jvm.ClassFile.FieldType.int)).before a0 Z = true := hw _ (List.mem_of_getElem? (i := 81) rfl)
theorem tw_82 {a0 : Array Value} {Z : State} (hw : ∀ d ∈ tables_1, d.before a0 Z = true) : (Jvm.Cond.methodLink "com/example/selgen/selgen/CompactJson" (36 : Nat) ({ cls := "java/lang/String", name := "indexOf", desc := "(II)I" } : Jvm.MethodName)).before a0 Z = true := hw _ (List.mem_of_getElem? (i := 82) rfl)
theorem tw_83 {a0 : Array Value} {Z : State} (hw : ∀ d ∈ tables_1, d.before a0 Z = true) : (Jvm.Cond.declares ({ cls := "java/lang/String", name := "indexOf", desc := "(II)I" } : Jvm.MethodName)).before a0 Z = true := hw _ (List.mem_of_getElem? (i := 83) rfl)
theorem tw_84 {a0 : Array Value} {Z : State} (hw : ∀ d ∈ tables_1, d.before a0 Z = true) : (Jvm.Cond.instanceMethod ({ cls := "java/lang/String", name := "indexOf", desc := "(II)I" } : Jvm.MethodName)).before a0 Z = true := hw _ (List.mem_of_getElem? (i := 84) rfl)
theorem tw_85 {a0 : Array Value} {Z : State} (hw : ∀ d ∈ tables_1, d.before a0 Z = true) : (Jvm.Cond.selects "java/lang/String" ({ cls := "java/lang/String", name := "indexOf", desc := "(II)I" } : Jvm.MethodName) ({ cls := "java/lang/String", name := "indexOf", desc := "(II)I" } : Jvm.MethodName)).before a0 Z = true := hw _ (List.mem_of_getElem? (i := 85) rfl)
theorem tw_86 {a0 : Array Value} {Z : State} (hw : ∀ d ∈ tables_1, d.before a0 Z = true) : (Jvm.Cond.code ({ cls := "java/lang/String", name := "indexOf", desc := "(II)I" } : Jvm.MethodName) jdk_42_method_80_code (3 : Nat) (Option.some Jvm.ClassFile.FieldType.int)).before a0 Z = true := hw _ (List.mem_of_getElem? (i := 86) rfl)
theorem tw_87 {a0 : Array Value} {Z : State} (hw : ∀ d ∈ tables_1, d.before a0 Z = true) : (Jvm.Cond.methodLink "java/lang/String" (505 : Nat) ({ cls := "java/lang/String", name := "length", desc := "()I" } : Jvm.MethodName)).before a0 Z = true := hw _ (List.mem_of_getElem? (i := 87) rfl)
theorem tw_88 {a0 : Array Value} {Z : State} (hw : ∀ d ∈ tables_1, d.before a0 Z = true) : (Jvm.Cond.methodLink "java/lang/String" (637 : Nat) ({ cls := "java/lang/StringLatin1", name := "indexOf", desc := "([BIII)I" } : Jvm.MethodName)).before a0 Z = true := hw _ (List.mem_of_getElem? (i := 88) rfl)
theorem tw_89 {a0 : Array Value} {Z : State} (hw : ∀ d ∈ tables_1, d.before a0 Z = true) : (Jvm.Cond.static ({ cls := "java/lang/StringLatin1", name := "indexOf", desc := "([BIII)I" } : Jvm.MethodName)).before a0 Z = true := hw _ (List.mem_of_getElem? (i := 89) rfl)
theorem tw_90 {a0 : Array Value} {Z : State} (hw : ∀ d ∈ tables_1, d.before a0 Z = true) : (Jvm.Cond.code ({ cls := "java/lang/StringLatin1", name := "indexOf", desc := "([BIII)I" } : Jvm.MethodName) jdk_43_method_22_code (4 : Nat) (Option.some Jvm.ClassFile.FieldType.int)).before a0 Z = true := hw _ (List.mem_of_getElem? (i := 90) rfl)
theorem tw_91 {a0 : Array Value} {Z : State} (hw : ∀ d ∈ tables_1, d.before a0 Z = true) : (Jvm.Cond.methodLink "java/lang/StringLatin1" (88 : Nat) ({ cls := "java/lang/StringLatin1", name := "canEncode", desc := "(I)Z" } : Jvm.MethodName)).before a0 Z = true := hw _ (List.mem_of_getElem? (i := 91) rfl)
theorem tw_92 {a0 : Array Value} {Z : State} (hw : ∀ d ∈ tables_1, d.before a0 Z = true) : (Jvm.Cond.static ({ cls := "java/lang/StringLatin1", name := "canEncode", desc := "(I)Z" } : Jvm.MethodName)).before a0 Z = true := hw _ (List.mem_of_getElem? (i := 92) rfl)
theorem tw_93 {a0 : Array Value} {Z : State} (hw : ∀ d ∈ tables_1, d.before a0 Z = true) : (Jvm.Cond.code ({ cls := "java/lang/StringLatin1", name := "canEncode", desc := "(I)Z" } : Jvm.MethodName) jdk_43_method_4_code (1 : Nat) (Option.some Jvm.ClassFile.FieldType.boolean)).before a0 Z = true := hw _ (List.mem_of_getElem? (i := 93) rfl)
theorem tw_94 {a0 : Array Value} {Z : State} (hw : ∀ d ∈ tables_1, d.before a0 Z = true) : (Jvm.Cond.methodLink "java/lang/StringLatin1" (92 : Nat) ({ cls := "java/lang/Math", name := "max", desc := "(II)I" } : Jvm.MethodName)).before a0 Z = true := hw _ (List.mem_of_getElem? (i := 94) rfl)
theorem tw_95 {a0 : Array Value} {Z : State} (hw : ∀ d ∈ tables_1, d.before a0 Z = true) : (Jvm.Cond.static ({ cls := "java/lang/Math", name := "max", desc := "(II)I" } : Jvm.MethodName)).before a0 Z = true := hw _ (List.mem_of_getElem? (i := 95) rfl)
theorem tw_96 {a0 : Array Value} {Z : State} (hw : ∀ d ∈ tables_1, d.before a0 Z = true) : (Jvm.Cond.initialized "java/lang/Math").before a0 Z = true := hw _ (List.mem_of_getElem? (i := 96) rfl)
theorem tw_97 {a0 : Array Value} {Z : State} (hw : ∀ d ∈ tables_1, d.before a0 Z = true) : (Jvm.Cond.code ({ cls := "java/lang/Math", name := "max", desc := "(II)I" } : Jvm.MethodName) jdk_29_method_65_code (2 : Nat) (Option.some Jvm.ClassFile.FieldType.int)).before a0 Z = true := hw _ (List.mem_of_getElem? (i := 97) rfl)
theorem tw_98 {a0 : Array Value} {Z : State} (hw : ∀ d ∈ tables_1, d.before a0 Z = true) : (Jvm.Cond.methodLink "java/lang/StringLatin1" (38 : Nat) ({ cls := "java/lang/Math", name := "min", desc := "(II)I" } : Jvm.MethodName)).before a0 Z = true := hw _ (List.mem_of_getElem? (i := 98) rfl)
theorem tw_99 {a0 : Array Value} {Z : State} (hw : ∀ d ∈ tables_1, d.before a0 Z = true) : (Jvm.Cond.static ({ cls := "java/lang/Math", name := "min", desc := "(II)I" } : Jvm.MethodName)).before a0 Z = true := hw _ (List.mem_of_getElem? (i := 99) rfl)
theorem tw_100 {a0 : Array Value} {Z : State} (hw : ∀ d ∈ tables_1, d.before a0 Z = true) : (Jvm.Cond.code ({ cls := "java/lang/Math", name := "min", desc := "(II)I" } : Jvm.MethodName) jdk_29_method_69_code (2 : Nat) (Option.some Jvm.ClassFile.FieldType.int)).before a0 Z = true := hw _ (List.mem_of_getElem? (i := 100) rfl)
theorem tw_101 {a0 : Array Value} {Z : State} (hw : ∀ d ∈ tables_1, d.before a0 Z = true) : (Jvm.Cond.methodLink "java/lang/StringLatin1" (95 : Nat) ({ cls := "java/lang/StringLatin1", name := "indexOfChar", desc := "([BIII)I" } : Jvm.MethodName)).before a0 Z = true := hw _ (List.mem_of_getElem? (i := 101) rfl)
theorem tw_102 {a0 : Array Value} {Z : State} (hw : ∀ d ∈ tables_1, d.before a0 Z = true) : (Jvm.Cond.static ({ cls := "java/lang/StringLatin1", name := "indexOfChar", desc := "([BIII)I" } : Jvm.MethodName)).before a0 Z = true := hw _ (List.mem_of_getElem? (i := 102) rfl)
theorem tw_103 {a0 : Array Value} {Z : State} (hw : ∀ d ∈ tables_1, d.before a0 Z = true) : (Jvm.Cond.code ({ cls := "java/lang/StringLatin1", name := "indexOfChar", desc := "([BIII)I" } : Jvm.MethodName) jdk_43_method_23_code (6 : Nat) (Option.some Jvm.ClassFile.FieldType.int)).before a0 Z = true := hw _ (List.mem_of_getElem? (i := 103) rfl)
theorem tw_104 {a0 : Array Value} {Z : State} (hw : ∀ d ∈ tables_1, d.before a0 Z = true) : (Jvm.Cond.methodLink "com/example/selgen/selgen/CompactJsonOfPinLaw" (40 : Nat) ({ cls := "java/lang/String", name := "length", desc := "()I" } : Jvm.MethodName)).before a0 Z = true := hw _ (List.mem_of_getElem? (i := 104) rfl)
theorem tw_105 {a0 : Array Value} {Z : State} (hw : ∀ d ∈ tables_1, d.before a0 Z = true) : (Jvm.Cond.methodLink "com/example/selgen/selgen/CompactJsonOfPinLaw" (44 : Nat) ({ cls := "com/example/selgen/selgen/CompactJsonOfPinLaw", name := "at", desc := "(Ljava/lang/String;II[C)Z" } : Jvm.MethodName)).before a0 Z = true := hw _ (List.mem_of_getElem? (i := 105) rfl)
theorem tw_106 {a0 : Array Value} {Z : State} (hw : ∀ d ∈ tables_1, d.before a0 Z = true) : (Jvm.Cond.static ({ cls := "com/example/selgen/selgen/CompactJsonOfPinLaw", name := "at", desc := "(Ljava/lang/String;II[C)Z" } : Jvm.MethodName)).before a0 Z = true := hw _ (List.mem_of_getElem? (i := 106) rfl)
theorem tw_107 {a0 : Array Value} {Z : State} (hw : ∀ d ∈ tables_1, d.before a0 Z = true) : (Jvm.Cond.code ({ cls := "com/example/selgen/selgen/CompactJsonOfPinLaw", name := "at", desc := "(Ljava/lang/String;II[C)Z" } : Jvm.MethodName) method_6_code (4 : Nat) (Option.some Jvm.ClassFile.FieldType.boolean)).before a0 Z = true := hw _ (List.mem_of_getElem? (i := 107) rfl)
theorem tw_108 {a0 : Array Value} {Z : State} (hw : ∀ d ∈ tables_1, d.before a0 Z = true) : (Jvm.Cond.methodLink "com/example/selgen/selgen/CompactJsonOfPinLaw" (14 : Nat) ({ cls := "java/lang/String", name := "charAt", desc := "(I)C" } : Jvm.MethodName)).before a0 Z = true := hw _ (List.mem_of_getElem? (i := 108) rfl)
theorem tw_109 {a0 : Array Value} {Z : State} (hw : ∀ d ∈ tables_1, d.before a0 Z = true) : (Jvm.Cond.constant "com/example/selgen/selgen/CompactJsonOfPinLaw" (7 : Nat) (65535 : Int32)).before a0 Z = true := hw _ (List.mem_of_getElem? (i := 109) rfl)
theorem tw_110 {a0 : Array Value} {Z : State} (hw : ∀ d ∈ tables_1, d.before a0 Z = true) : (Jvm.Cond.classLink "com/example/selgen/selgen/CompactJson" (23 : Nat) "java/lang/StringBuilder").before a0 Z = true := hw _ (List.mem_of_getElem? (i := 110) rfl)
theorem tw_111 {a0 : Array Value} {Z : State} (hw : ∀ d ∈ tables_1, d.before a0 Z = true) : (Jvm.Cond.instantiable "java/lang/StringBuilder" (4 : Nat)).before a0 Z = true := hw _ (List.mem_of_getElem? (i := 111) rfl)
theorem tw_112 {a0 : Array Value} {Z : State} (hw : ∀ d ∈ tables_1, d.before a0 Z = true) : (Jvm.Cond.initialized "java/lang/StringBuilder").before a0 Z = true := hw _ (List.mem_of_getElem? (i := 112) rfl)
theorem tw_113 {a0 : Array Value} {Z : State} (hw : ∀ d ∈ tables_1, d.before a0 Z = true) : (Jvm.Cond.methodLink "com/example/selgen/selgen/CompactJson" (25 : Nat) ({ cls := "java/lang/StringBuilder", name := "<init>", desc := "(I)V" } : Jvm.MethodName)).before a0 Z = true := hw _ (List.mem_of_getElem? (i := 113) rfl)
theorem tw_114 {a0 : Array Value} {Z : State} (hw : ∀ d ∈ tables_1, d.before a0 Z = true) : (Jvm.Cond.instanceMethod ({ cls := "java/lang/StringBuilder", name := "<init>", desc := "(I)V" } : Jvm.MethodName)).before a0 Z = true := hw _ (List.mem_of_getElem? (i := 114) rfl)
theorem tw_115 {a0 : Array Value} {Z : State} (hw : ∀ d ∈ tables_1, d.before a0 Z = true) : (Jvm.Cond.code ({ cls := "java/lang/StringBuilder", name := "<init>", desc := "(I)V" } : Jvm.MethodName) jdk_67_method_2_code (2 : Nat) (Option.none : Option Jvm.ClassFile.FieldType)).before a0 Z = true := hw _ (List.mem_of_getElem? (i := 115) rfl)
theorem tw_116 {a0 : Array Value} {Z : State} (hw : ∀ d ∈ tables_1, d.before a0 Z = true) : (Jvm.Cond.methodLink "java/lang/StringBuilder" (1 : Nat) ({ cls := "java/lang/AbstractStringBuilder", name := "<init>", desc := "(I)V" } : Jvm.MethodName)).before a0 Z = true := hw _ (List.mem_of_getElem? (i := 116) rfl)
theorem tw_117 {a0 : Array Value} {Z : State} (hw : ∀ d ∈ tables_1, d.before a0 Z = true) : (Jvm.Cond.instanceMethod ({ cls := "java/lang/AbstractStringBuilder", name := "<init>", desc := "(I)V" } : Jvm.MethodName)).before a0 Z = true := hw _ (List.mem_of_getElem? (i := 117) rfl)
theorem tw_120 {a0 : Array Value} {Z : State} (hw : ∀ d ∈ tables_1, d.before a0 Z = true) : (Jvm.Cond.initialized "java/lang/AbstractStringBuilder").before a0 Z = true := hw _ (List.mem_of_getElem? (i := 120) rfl)
theorem tw_121 {a0 : Array Value} {Z : State} (hw : ∀ d ∈ tables_1, d.before a0 Z = true) : (Jvm.Cond.code ({ cls := "java/lang/AbstractStringBuilder", name := "<init>", desc := "(I)V" } : Jvm.MethodName) jdk_68_method_2_code (2 : Nat) (Option.none : Option Jvm.ClassFile.FieldType)).before a0 Z = true := hw _ (List.mem_of_getElem? (i := 121) rfl)
theorem tw_122 {a0 : Array Value} {Z : State} (hw : ∀ d ∈ tables_1, d.before a0 Z = true) : (Jvm.Cond.methodLink "java/lang/AbstractStringBuilder" (3 : Nat) ({ cls := "java/lang/Object", name := "<init>", desc := "()V" } : Jvm.MethodName)).before a0 Z = true := hw _ (List.mem_of_getElem? (i := 122) rfl)
theorem tw_123 {a0 : Array Value} {Z : State} (hw : ∀ d ∈ tables_1, d.before a0 Z = true) : (Jvm.Cond.fieldLink "java/lang/AbstractStringBuilder" (18 : Nat) "java/lang/String" "COMPACT_STRINGS" "Z").before a0 Z = true := hw _ (List.mem_of_getElem? (i := 123) rfl)
theorem tw_124 {a0 : Array Value} {Z : State} (hw : ∀ d ∈ tables_1, d.before a0 Z = true) : (Jvm.Cond.fieldLink "java/lang/AbstractStringBuilder" (15 : Nat) "java/lang/AbstractStringBuilder" "value" "[B").before a0 Z = true := hw _ (List.mem_of_getElem? (i := 124) rfl)
theorem tw_125 {a0 : Array Value} {Z : State} (hw : ∀ d ∈ tables_1, d.before a0 Z = true) : (Jvm.Cond.lays "java/lang/StringBuilder" "java/lang/AbstractStringBuilder" "value" "[B").before a0 Z = true := hw _ (List.mem_of_getElem? (i := 125) rfl)
theorem tw_126 {a0 : Array Value} {Z : State} (hw : ∀ d ∈ tables_1, d.before a0 Z = true) : (Jvm.Cond.fieldLink "java/lang/AbstractStringBuilder" (22 : Nat) "java/lang/AbstractStringBuilder" "coder" "B").before a0 Z = true := hw _ (List.mem_of_getElem? (i := 126) rfl)
theorem tw_127 {a0 : Array Value} {Z : State} (hw : ∀ d ∈ tables_1, d.before a0 Z = true) : (Jvm.Cond.lays "java/lang/StringBuilder" "java/lang/AbstractStringBuilder" "coder" "B").before a0 Z = true := hw _ (List.mem_of_getElem? (i := 127) rfl)
theorem tw_128 {a0 : Array Value} {Z : State} (hw : ∀ d ∈ tables_1, d.before a0 Z = true) : (Jvm.Cond.methodLink "com/example/selgen/selgen/CompactJson" (28 : Nat) ({ cls := "java/lang/StringBuilder", name := "append", desc := "(Ljava/lang/CharSequence;II)Ljava/lang/StringBuilder;" } : Jvm.MethodName)).before a0 Z = true := hw _ (List.mem_of_getElem? (i := 128) rfl)
theorem tw_129 {a0 : Array Value} {Z : State} (hw : ∀ d ∈ tables_1, d.before a0 Z = true) : (Jvm.Cond.declares ({ cls := "java/lang/StringBuilder", name := "append", desc := "(Ljava/lang/CharSequence;II)Ljava/lang/StringBuilder;" } : Jvm.MethodName)).before a0 Z = true := hw _ (List.mem_of_getElem? (i := 129) rfl)
theorem tw_130 {a0 : Array Value} {Z : State} (hw : ∀ d ∈ tables_1, d.before a0 Z = true) : (Jvm.Cond.instanceMethod ({ cls := "java/lang/StringBuilder", name := "append", desc := "(Ljava/lang/CharSequence;II)Ljava/lang/StringBuilder;" } : Jvm.MethodName)).before a0 Z = true := hw _ (List.mem_of_getElem? (i := 130) rfl)
theorem tw_131 {a0 : Array Value} {Z : State} (hw : ∀ d ∈ tables_1, d.before a0 Z = true) : (Jvm.Cond.selects "java/lang/StringBuilder" ({ cls := "java/lang/StringBuilder", name := "append", desc := "(Ljava/lang/CharSequence;II)Ljava/lang/StringBuilder;" } : Jvm.MethodName) ({ cls := "java/lang/StringBuilder", name := "append", desc := "(Ljava/lang/CharSequence;II)Ljava/lang/StringBuilder;" } : Jvm.MethodName)).before a0 Z = true := hw _ (List.mem_of_getElem? (i := 131) rfl)
theorem tw_132 {a0 : Array Value} {Z : State} (hw : ∀ d ∈ tables_1, d.before a0 Z = true) : (Jvm.Cond.code ({ cls := "java/lang/StringBuilder", name := "append", desc := "(Ljava/lang/CharSequence;II)Ljava/lang/StringBuilder;" } : Jvm.MethodName) jdk_67_method_10_code (4 : Nat) (Option.some (Jvm.ClassFile.FieldType.object "java/lang/StringBuilder"))).before a0 Z = true := hw _ (List.mem_of_getElem? (i := 132) rfl)
theorem tw_133 {a0 : Array Value} {Z : State} (hw : ∀ d ∈ tables_1, d.before a0 Z = true) : (Jvm.Cond.methodLink "java/lang/StringBuilder" (38 : Nat) ({ cls := "java/lang/AbstractStringBuilder", name := "append", desc := "(Ljava/lang/CharSequence;II)Ljava/lang/AbstractStringBuilder;" } : Jvm.MethodName)).before a0 Z = true := hw _ (List.mem_of_getElem? (i := 133) rfl)
theorem tw_134 {a0 : Array Value} {Z : State} (hw : ∀ d ∈ tables_1, d.before a0 Z = true) : (Jvm.Cond.instanceMethod ({ cls := "java/lang/AbstractStringBuilder", name := "append", desc := "(Ljava/lang/CharSequence;II)Ljava/lang/AbstractStringBuilder;" } : Jvm.MethodName)).before a0 Z = true := hw _ (List.mem_of_getElem? (i := 134) rfl)
theorem tw_135 {a0 : Array Value} {Z : State} (hw : ∀ d ∈ tables_1, d.before a0 Z = true) : (Jvm.Cond.superclass "java/lang/StringBuilder" "java/lang/AbstractStringBuilder").before a0 Z = true := hw _ (List.mem_of_getElem? (i := 135) rfl)
theorem tw_137 {a0 : Array Value} {Z : State} (hw : ∀ d ∈ tables_1, d.before a0 Z = true) : (Jvm.Cond.code ({ cls := "java/lang/AbstractStringBuilder", name := "append", desc := "(Ljava/lang/CharSequence;II)Ljava/lang/AbstractStringBuilder;" } : Jvm.MethodName) jdk_68_method_27_code (5 : Nat) (Option.some (Jvm.ClassFile.FieldType.object "java/lang/AbstractStringBuilder"))).before a0 Z = true := hw _ (List.mem_of_getElem? (i := 137) rfl)
theorem tw_138 {a0 : Array Value} {Z : State} (hw : ∀ d ∈ tables_1, d.before a0 Z = true) : (Jvm.Cond.methodLink "java/lang/AbstractStringBuilder" (47 : Nat) ({ cls := "java/lang/CharSequence", name := "length", desc := "()I" } : Jvm.MethodName)).before a0 Z = true := hw _ (List.mem_of_getElem? (i := 138) rfl)
theorem tw_139 {a0 : Array Value} {Z : State} (hw : ∀ d ∈ tables_1, d.before a0 Z = true) : (Jvm.Cond.declares ({ cls := "java/lang/CharSequence", name := "length", desc := "()I" } : Jvm.MethodName)).before a0 Z = true := hw _ (List.mem_of_getElem? (i := 139) rfl)
theorem tw_140 {a0 : Array Value} {Z : State} (hw : ∀ d ∈ tables_1, d.before a0 Z = true) : (Jvm.Cond.interfaceMethod "java/lang/CharSequence" "java/lang/CharSequence" "length" "()I").before a0 Z = true := hw _ (List.mem_of_getElem? (i := 140) rfl)
theorem tw_141 {a0 : Array Value} {Z : State} (hw : ∀ d ∈ tables_1, d.before a0 Z = true) : (Jvm.Cond.selects "java/lang/String" ({ cls := "java/lang/CharSequence", name := "length", desc := "()I" } : Jvm.MethodName) ({ cls := "java/lang/String", name := "length", desc := "()I" } : Jvm.MethodName)).before a0 Z = true := hw _ (List.mem_of_getElem? (i := 141) rfl)
theorem tw_142 {a0 : Array Value} {Z : State} (hw : ∀ d ∈ tables_1, d.before a0 Z = true) : (Jvm.Cond.publicMethod ({ cls := "java/lang/String", name := "length", desc := "()I" } : Jvm.MethodName)).before a0 Z = true := hw _ (List.mem_of_getElem? (i := 142) rfl)
theorem tw_143 {a0 : Array Value} {Z : State} (hw : ∀ d ∈ tables_1, d.before a0 Z = true) : (Jvm.Cond.unhidden "java/lang/String" "length" "()I").before a0 Z = true := hw _ (List.mem_of_getElem? (i := 143) rfl)
theorem tw_144 {a0 : Array Value} {Z : State} (hw : ∀ d ∈ tables_1, d.before a0 Z = true) : (Jvm.Cond.castable "java/lang/String" "java/lang/CharSequence").before a0 Z = true := hw _ (List.mem_of_getElem? (i := 144) rfl)
theorem tw_145 {a0 : Array Value} {Z : State} (hw : ∀ d ∈ tables_1, d.before a0 Z = true) : (Jvm.Cond.fieldLink "java/lang/AbstractStringBuilder" (183 : Nat) "jdk/internal/util/Preconditions" "IOOBE_FORMATTER" "Ljava/util/function/BiFunction;").before a0 Z = true := hw _ (List.mem_of_getElem? (i := 145) rfl)
theorem tw_146 {a0 : Array Value} {Z : State} (hw : ∀ d ∈ tables_1, d.before a0 Z = true) : (Jvm.Cond.laysStatic "jdk/internal/util/Preconditions" "IOOBE_FORMATTER" "Ljava/util/function/BiFunction;").before a0 Z = true := hw _ (List.mem_of_getElem? (i := 146) rfl)
theorem tw_147 {a0 : Array Value} {Z : State} (hw : ∀ d ∈ tables_1, d.before a0 Z = true) : (Jvm.Cond.methodLink "java/lang/AbstractStringBuilder" (161 : Nat) ({ cls := "jdk/internal/util/Preconditions", name := "checkFromToIndex", desc := "(IIILjava/util/function/BiFunction;)I" } : Jvm.MethodName)).before a0 Z = true := hw _ (List.mem_of_getElem? (i := 147) rfl)
theorem tw_148 {a0 : Array Value} {Z : State} (hw : ∀ d ∈ tables_1, d.before a0 Z = true) : (Jvm.Cond.static ({ cls := "jdk/internal/util/Preconditions", name := "checkFromToIndex", desc := "(IIILjava/util/function/BiFunction;)I" } : Jvm.MethodName)).before a0 Z = true := hw _ (List.mem_of_getElem? (i := 148) rfl)
theorem tw_149 {a0 : Array Value} {Z : State} (hw : ∀ d ∈ tables_1, d.before a0 Z = true) : (Jvm.Cond.code ({ cls := "jdk/internal/util/Preconditions", name := "checkFromToIndex", desc := "(IIILjava/util/function/BiFunction;)I" } : Jvm.MethodName) jdk_41_method_12_code (4 : Nat) (Option.some Jvm.ClassFile.FieldType.int)).before a0 Z = true := hw _ (List.mem_of_getElem? (i := 149) rfl)
theorem tw_150 {a0 : Array Value} {Z : State} (hw : ∀ d ∈ tables_1, d.before a0 Z = true) : (Jvm.Cond.fieldLink "java/lang/AbstractStringBuilder" (79 : Nat) "java/lang/AbstractStringBuilder" "count" "I").before a0 Z = true := hw _ (List.mem_of_getElem? (i := 150) rfl)
theorem tw_151 {a0 : Array Value} {Z : State} (hw : ∀ d ∈ tables_1, d.before a0 Z = true) : (Jvm.Cond.lays "java/lang/StringBuilder" "java/lang/AbstractStringBuilder" "count" "I").before a0 Z = true := hw _ (List.mem_of_getElem? (i := 151) rfl)
theorem tw_152 {a0 : Array Value} {Z : State} (hw : ∀ d ∈ tables_1, d.before a0 Z = true) : (Jvm.Cond.methodLink "java/lang/AbstractStringBuilder" (100 : Nat) ({ cls := "java/lang/AbstractStringBuilder", name := "ensureCapacityInternal", desc := "(I)V" } : Jvm.MethodName)).before a0 Z = true := hw _ (List.mem_of_getElem? (i := 152) rfl)
theorem tw_153 {a0 : Array Value} {Z : State} (hw : ∀ d ∈ tables_1, d.before a0 Z = true) : (Jvm.Cond.instanceMethod ({ cls := "java/lang/AbstractStringBuilder", name := "ensureCapacityInternal", desc := "(I)V" } : Jvm.MethodName)).before a0 Z = true := hw _ (List.mem_of_getElem? (i := 153) rfl)
theorem tw_155 {a0 : Array Value} {Z : State} (hw : ∀ d ∈ tables_1, d.before a0 Z = true) : (Jvm.Cond.selects "java/lang/StringBuilder" ({ cls := "java/lang/AbstractStringBuilder", name := "ensureCapacityInternal", desc := "(I)V" } : Jvm.MethodName) ({ cls := "java/lang/AbstractStringBuilder", name := "ensureCapacityInternal", desc := "(I)V" } : Jvm.MethodName)).before a0 Z = true := hw _ (List.mem_of_getElem? (i := 155) rfl)
theorem tw_156 {a0 : Array Value} {Z : State} (hw : ∀ d ∈ tables_1, d.before a0 Z = true) : (Jvm.Cond.code ({ cls := "java/lang/AbstractStringBuilder", name := "ensureCapacityInternal", desc := "(I)V" } : Jvm.MethodName) jdk_68_method_9_code (3 : Nat) (Option.none : Option Jvm.ClassFile.FieldType)).before a0 Z = true := hw _ (List.mem_of_getElem? (i := 156) rfl)
theorem tw_157 {a0 : Array Value} {Z : State} (hw : ∀ d ∈ tables_1, d.before a0 Z = true) : (Jvm.Cond.classLink "java/lang/AbstractStringBuilder" (1 : Nat) "java/lang/String").before a0 Z = true := hw _ (List.mem_of_getElem? (i := 157) rfl)
theorem tw_158 {a0 : Array Value} {Z : State} (hw : ∀ d ∈ tables_1, d.before a0 Z = true) : (Jvm.Cond.methodLink "java/lang/AbstractStringBuilder" (232 : Nat) ({ cls := "java/lang/AbstractStringBuilder", name := "appendChars", desc := "(Ljava/lang/String;II)V" } : Jvm.MethodName)).before a0 Z = true := hw _ (List.mem_of_getElem? (i := 158) rfl)
theorem tw_159 {a0 : Array Value} {Z : State} (hw : ∀ d ∈ tables_1, d.before a0 Z = true) : (Jvm.Cond.instanceMethod ({ cls := "java/lang/AbstractStringBuilder", name := "appendChars", desc := "(Ljava/lang/String;II)V" } : Jvm.MethodName)).before a0 Z = true := hw _ (List.mem_of_getElem? (i := 159) rfl)
theorem tw_161 {a0 : Array Value} {Z : State} (hw : ∀ d ∈ tables_1, d.before a0 Z = true) : (Jvm.Cond.selects "java/lang/StringBuilder" ({ cls := "java/lang/AbstractStringBuilder", name := "appendChars", desc := "(Ljava/lang/String;II)V" } : Jvm.MethodName) ({ cls := "java/lang/AbstractStringBuilder", name := "appendChars", desc := "(Ljava/lang/String;II)V" } : Jvm.MethodName)).before a0 Z = true := hw _ (List.mem_of_getElem? (i := 161) rfl)
theorem tw_162 {a0 : Array Value} {Z : State} (hw : ∀ d ∈ tables_1, d.before a0 Z = true) : (Jvm.Cond.code ({ cls := "java/lang/AbstractStringBuilder", name := "appendChars", desc := "(Ljava/lang/String;II)V" } : Jvm.MethodName) jdk_68_method_75_code (8 : Nat) (Option.none : Option Jvm.ClassFile.FieldType)).before a0 Z = true := hw _ (List.mem_of_getElem? (i := 162) rfl)
theorem tw_163 {a0 : Array Value} {Z : State} (hw : ∀ d ∈ tables_1, d.before a0 Z = true) : (Jvm.Cond.methodLink "java/lang/AbstractStringBuilder" (83 : Nat) ({ cls := "java/lang/AbstractStringBuilder", name := "isLatin1", desc := "()Z" } : Jvm.MethodName)).before a0 Z = true := hw _ (List.mem_of_getElem? (i := 163) rfl)
theorem tw_164 {a0 : Array Value} {Z : State} (hw : ∀ d ∈ tables_1, d.before a0 Z = true) : (Jvm.Cond.declares ({ cls := "java/lang/AbstractStringBuilder", name := "isLatin1", desc := "()Z" } : Jvm.MethodName)).before a0 Z = true := hw _ (List.mem_of_getElem? (i := 164) rfl)
theorem tw_165 {a0 : Array Value} {Z : State} (hw : ∀ d ∈ tables_1, d.before a0 Z = true) : (Jvm.Cond.instanceMethod ({ cls := "java/lang/AbstractStringBuilder", name := "isLatin1", desc := "()Z" } : Jvm.MethodName)).before a0 Z = true := hw _ (List.mem_of_getElem? (i := 165) rfl)
theorem tw_166 {a0 : Array Value} {Z : State} (hw : ∀ d ∈ tables_1, d.before a0 Z = true) : (Jvm.Cond.selects "java/lang/StringBuilder" ({ cls := "java/lang/AbstractStringBuilder", name := "isLatin1", desc := "()Z" } : Jvm.MethodName) ({ cls := "java/lang/AbstractStringBuilder", name := "isLatin1", desc := "()Z" } : Jvm.MethodName)).before a0 Z = true := hw _ (List.mem_of_getElem? (i := 166) rfl)
theorem tw_167 {a0 : Array Value} {Z : State} (hw : ∀ d ∈ tables_1, d.before a0 Z = true) : (Jvm.Cond.code ({ cls := "java/lang/AbstractStringBuilder", name := "isLatin1", desc := "()Z" } : Jvm.MethodName) jdk_68_method_68_code (1 : Nat) (Option.some Jvm.ClassFile.FieldType.boolean)).before a0 Z = true := hw _ (List.mem_of_getElem? (i := 167) rfl)
theorem tw_168 {a0 : Array Value} {Z : State} (hw : ∀ d ∈ tables_1, d.before a0 Z = true) : (Jvm.Cond.methodLink "java/lang/AbstractStringBuilder" (400 : Nat) ({ cls := "java/lang/String", name := "isLatin1", desc := "()Z" } : Jvm.MethodName)).before a0 Z = true := hw _ (List.mem_of_getElem? (i := 168) rfl)
theorem tw_169 {a0 : Array Value} {Z : State} (hw : ∀ d ∈ tables_1, d.before a0 Z = true) : (Jvm.Cond.methodLink "java/lang/AbstractStringBuilder" (401 : Nat) ({ cls := "java/lang/String", name := "value", desc := "()[B" } : Jvm.MethodName)).before a0 Z = true := hw _ (List.mem_of_getElem? (i := 169) rfl)
theorem tw_170 {a0 : Array Value} {Z : State} (hw : ∀ d ∈ tables_1, d.before a0 Z = true) : (Jvm.Cond.declares ({ cls := "java/lang/String", name := "value", desc := "()[B" } : Jvm.MethodName)).before a0 Z = true := hw _ (List.mem_of_getElem? (i := 170) rfl)
theorem tw_171 {a0 : Array Value} {Z : State} (hw : ∀ d ∈ tables_1, d.before a0 Z = true) : (Jvm.Cond.instanceMethod ({ cls := "java/lang/String", name := "value", desc := "()[B" } : Jvm.MethodName)).before a0 Z = true := hw _ (List.mem_of_getElem? (i := 171) rfl)
theorem tw_172 {a0 : Array Value} {Z : State} (hw : ∀ d ∈ tables_1, d.before a0 Z = true) : (Jvm.Cond.selects "java/lang/String" ({ cls := "java/lang/String", name := "value", desc := "()[B" } : Jvm.MethodName) ({ cls := "java/lang/String", name := "value", desc := "()[B" } : Jvm.MethodName)).before a0 Z = true := hw _ (List.mem_of_getElem? (i := 172) rfl)
theorem tw_173 {a0 : Array Value} {Z : State} (hw : ∀ d ∈ tables_1, d.before a0 Z = true) : (Jvm.Cond.code ({ cls := "java/lang/String", name := "value", desc := "()[B" } : Jvm.MethodName) jdk_42_method_153_code (1 : Nat) (Option.some (Jvm.ClassFile.FieldType.array Jvm.ClassFile.FieldType.byte))).before a0 Z = true := hw _ (List.mem_of_getElem? (i := 173) rfl)
theorem tw_174 {a0 : Array Value} {Z : State} (hw : ∀ d ∈ tables_1, d.before a0 Z = true) : (Jvm.Cond.methodLink "java/lang/AbstractStringBuilder" (309 : Nat) ({ cls := "java/lang/System", name := "arraycopy", desc := "(Ljava/lang/Object;ILjava/lang/Object;II)V" } : Jvm.MethodName)).before a0 Z = true := hw _ (List.mem_of_getElem? (i := 174) rfl)
theorem tw_175 {a0 : Array Value} {Z : State} (hw : ∀ d ∈ tables_1, d.before a0 Z = true) : (Jvm.Cond.static ({ cls := "java/lang/System", name := "arraycopy", desc := "(Ljava/lang/Object;ILjava/lang/Object;II)V" } : Jvm.MethodName)).before a0 Z = true := hw _ (List.mem_of_getElem? (i := 175) rfl)
theorem tw_176 {a0 : Array Value} {Z : State} (hw : ∀ d ∈ tables_1, d.before a0 Z = true) : (Jvm.Cond.initialized "java/lang/System").before a0 Z = true := hw _ (List.mem_of_getElem? (i := 176) rfl)
theorem tw_177 {a0 : Array Value} {Z : State} (hw : ∀ d ∈ tables_1, d.before a0 Z = true) : (Jvm.Cond.native ({ cls := "java/lang/System", name := "arraycopy", desc := "(Ljava/lang/Object;ILjava/lang/Object;II)V" } : Jvm.MethodName)).before a0 Z = true := hw _ (List.mem_of_getElem? (i := 177) rfl)
theorem tw_178 {a0 : Array Value} {Z : State} (hw : ∀ d ∈ tables_1, d.before a0 Z = true) : (Jvm.Cond.methodLink "com/example/selgen/selgen/CompactJson" (32 : Nat) ({ cls := "java/lang/StringBuilder", name := "toString", desc := "()Ljava/lang/String;" } : Jvm.MethodName)).before a0 Z = true := hw _ (List.mem_of_getElem? (i := 178) rfl)
theorem tw_179 {a0 : Array Value} {Z : State} (hw : ∀ d ∈ tables_1, d.before a0 Z = true) : (Jvm.Cond.declares ({ cls := "java/lang/StringBuilder", name := "toString", desc := "()Ljava/lang/String;" } : Jvm.MethodName)).before a0 Z = true := hw _ (List.mem_of_getElem? (i := 179) rfl)
theorem tw_180 {a0 : Array Value} {Z : State} (hw : ∀ d ∈ tables_1, d.before a0 Z = true) : (Jvm.Cond.instanceMethod ({ cls := "java/lang/StringBuilder", name := "toString", desc := "()Ljava/lang/String;" } : Jvm.MethodName)).before a0 Z = true := hw _ (List.mem_of_getElem? (i := 180) rfl)
theorem tw_181 {a0 : Array Value} {Z : State} (hw : ∀ d ∈ tables_1, d.before a0 Z = true) : (Jvm.Cond.selects "java/lang/StringBuilder" ({ cls := "java/lang/StringBuilder", name := "toString", desc := "()Ljava/lang/String;" } : Jvm.MethodName) ({ cls := "java/lang/StringBuilder", name := "toString", desc := "()Ljava/lang/String;" } : Jvm.MethodName)).before a0 Z = true := hw _ (List.mem_of_getElem? (i := 181) rfl)
theorem tw_182 {a0 : Array Value} {Z : State} (hw : ∀ d ∈ tables_1, d.before a0 Z = true) : (Jvm.Cond.code ({ cls := "java/lang/StringBuilder", name := "toString", desc := "()Ljava/lang/String;" } : Jvm.MethodName) jdk_67_method_42_code (1 : Nat) (Option.some (Jvm.ClassFile.FieldType.object "java/lang/String"))).before a0 Z = true := hw _ (List.mem_of_getElem? (i := 182) rfl)
theorem tw_183 {a0 : Array Value} {Z : State} (hw : ∀ d ∈ tables_1, d.before a0 Z = true) : (Jvm.Cond.classLink "java/lang/StringBuilder" (18 : Nat) "java/lang/String").before a0 Z = true := hw _ (List.mem_of_getElem? (i := 183) rfl)
theorem tw_184 {a0 : Array Value} {Z : State} (hw : ∀ d ∈ tables_1, d.before a0 Z = true) : (Jvm.Cond.methodLink "java/lang/StringBuilder" (137 : Nat) ({ cls := "java/lang/String", name := "<init>", desc := "(Ljava/lang/StringBuilder;)V" } : Jvm.MethodName)).before a0 Z = true := hw _ (List.mem_of_getElem? (i := 184) rfl)
theorem tw_185 {a0 : Array Value} {Z : State} (hw : ∀ d ∈ tables_1, d.before a0 Z = true) : (Jvm.Cond.instanceMethod ({ cls := "java/lang/String", name := "<init>", desc := "(Ljava/lang/StringBuilder;)V" } : Jvm.MethodName)).before a0 Z = true := hw _ (List.mem_of_getElem? (i := 185) rfl)
theorem tw_186 {a0 : Array Value} {Z : State} (hw : ∀ d ∈ tables_1, d.before a0 Z = true) : (Jvm.Cond.code ({ cls := "java/lang/String", name := "<init>", desc := "(Ljava/lang/StringBuilder;)V" } : Jvm.MethodName) jdk_42_method_53_code (2 : Nat) (Option.none : Option Jvm.ClassFile.FieldType)).before a0 Z = true := hw _ (List.mem_of_getElem? (i := 186) rfl)
theorem tw_187 {a0 : Array Value} {Z : State} (hw : ∀ d ∈ tables_1, d.before a0 Z = true) : (Jvm.Cond.methodLink "java/lang/String" (489 : Nat) ({ cls := "java/lang/String", name := "<init>", desc := "(Ljava/lang/AbstractStringBuilder;Ljava/lang/Void;)V" } : Jvm.MethodName)).before a0 Z = true := hw _ (List.mem_of_getElem? (i := 187) rfl)
theorem tw_188 {a0 : Array Value} {Z : State} (hw : ∀ d ∈ tables_1, d.before a0 Z = true) : (Jvm.Cond.instanceMethod ({ cls := "java/lang/String", name := "<init>", desc := "(Ljava/lang/AbstractStringBuilder;Ljava/lang/Void;)V" } : Jvm.MethodName)).before a0 Z = true := hw _ (List.mem_of_getElem? (i := 188) rfl)
theorem tw_189 {a0 : Array Value} {Z : State} (hw : ∀ d ∈ tables_1, d.before a0 Z = true) : (Jvm.Cond.code ({ cls := "java/lang/String", name := "<init>", desc := "(Ljava/lang/AbstractStringBuilder;Ljava/lang/Void;)V" } : Jvm.MethodName) jdk_42_method_150_code (5 : Nat) (Option.none : Option Jvm.ClassFile.FieldType)).before a0 Z = true := hw _ (List.mem_of_getElem? (i := 189) rfl)
theorem tw_190 {a0 : Array Value} {Z : State} (hw : ∀ d ∈ tables_1, d.before a0 Z = true) : (Jvm.Cond.methodLink "java/lang/String" (552 : Nat) ({ cls := "java/lang/AbstractStringBuilder", name := "getValue", desc := "()[B" } : Jvm.MethodName)).before a0 Z = true := hw _ (List.mem_of_getElem? (i := 190) rfl)
theorem tw_191 {a0 : Array Value} {Z : State} (hw : ∀ d ∈ tables_1, d.before a0 Z = true) : (Jvm.Cond.declares ({ cls := "java/lang/AbstractStringBuilder", name := "getValue", desc := "()[B" } : Jvm.MethodName)).before a0 Z = true := hw _ (List.mem_of_getElem? (i := 191) rfl)
theorem tw_192 {a0 : Array Value} {Z : State} (hw : ∀ d ∈ tables_1, d.before a0 Z = true) : (Jvm.Cond.instanceMethod ({ cls := "java/lang/AbstractStringBuilder", name := "getValue", desc := "()[B" } : Jvm.MethodName)).before a0 Z = true := hw _ (List.mem_of_getElem? (i := 192) rfl)
theorem tw_193 {a0 : Array Value} {Z : State} (hw : ∀ d ∈ tables_1, d.before a0 Z = true) : (Jvm.Cond.selects "java/lang/StringBuilder" ({ cls := "java/lang/AbstractStringBuilder", name := "getValue", desc := "()[B" } : Jvm.MethodName) ({ cls := "java/lang/AbstractStringBuilder", name := "getValue", desc := "()[B" } : Jvm.MethodName)).before a0 Z = true := hw _ (List.mem_of_getElem? (i := 193) rfl)
theorem tw_194 {a0 : Array Value} {Z : State} (hw : ∀ d ∈ tables_1, d.before a0 Z = true) : (Jvm.Cond.code ({ cls := "java/lang/AbstractStringBuilder", name := "getValue", desc := "()[B" } : Jvm.MethodName) jdk_68_method_64_code (1 : Nat) (Option.some (Jvm.ClassFile.FieldType.array Jvm.ClassFile.FieldType.byte))).before a0 Z = true := hw _ (List.mem_of_getElem? (i := 194) rfl)
theorem tw_195 {a0 : Array Value} {Z : State} (hw : ∀ d ∈ tables_1, d.before a0 Z = true) : (Jvm.Cond.methodLink "java/lang/String" (549 : Nat) ({ cls := "java/lang/AbstractStringBuilder", name := "length", desc := "()I" } : Jvm.MethodName)).before a0 Z = true := hw _ (List.mem_of_getElem? (i := 195) rfl)
theorem tw_196 {a0 : Array Value} {Z : State} (hw : ∀ d ∈ tables_1, d.before a0 Z = true) : (Jvm.Cond.declares ({ cls := "java/lang/AbstractStringBuilder", name := "length", desc := "()I" } : Jvm.MethodName)).before a0 Z = true := hw _ (List.mem_of_getElem? (i := 196) rfl)
theorem tw_197 {a0 : Array Value} {Z : State} (hw : ∀ d ∈ tables_1, d.before a0 Z = true) : (Jvm.Cond.instanceMethod ({ cls := "java/lang/AbstractStringBuilder", name := "length", desc := "()I" } : Jvm.MethodName)).before a0 Z = true := hw _ (List.mem_of_getElem? (i := 197) rfl)
theorem tw_198 {a0 : Array Value} {Z : State} (hw : ∀ d ∈ tables_1, d.before a0 Z = true) : (Jvm.Cond.selects "java/lang/StringBuilder" ({ cls := "java/lang/AbstractStringBuilder", name := "length", desc := "()I" } : Jvm.MethodName) ({ cls := "java/lang/StringBuilder", name := "length", desc := "()I" } : Jvm.MethodName)).before a0 Z = true := hw _ (List.mem_of_getElem? (i := 198) rfl)
theorem tw_199 {a0 : Array Value} {Z : State} (hw : ∀ d ∈ tables_1, d.before a0 Z = true) : (Jvm.Cond.instanceMethod ({ cls := "java/lang/StringBuilder", name := "length", desc := "()I" } : Jvm.MethodName)).before a0 Z = true := hw _ (List.mem_of_getElem? (i := 199) rfl)
theorem tw_200 {a0 : Array Value} {Z : State} (hw : ∀ d ∈ tables_1, d.before a0 Z = true) : (Jvm.Cond.code ({ cls := "java/lang/StringBuilder", name := "length", desc := "()I" } : Jvm.MethodName) jdk_67_method_93_code (1 : Nat) (Option.some Jvm.ClassFile.FieldType.int)).before a0 Z = true := hw _ (List.mem_of_getElem? (i := 200) rfl)
theorem tw_201 {a0 : Array Value} {Z : State} (hw : ∀ d ∈ tables_1, d.before a0 Z = true) : (Jvm.Cond.methodLink "java/lang/StringBuilder" (343 : Nat) ({ cls := "java/lang/AbstractStringBuilder", name := "length", desc := "()I" } : Jvm.MethodName)).before a0 Z = true := hw _ (List.mem_of_getElem? (i := 201) rfl)
theorem tw_202 {a0 : Array Value} {Z : State} (hw : ∀ d ∈ tables_1, d.before a0 Z = true) : (Jvm.Cond.code ({ cls := "java/lang/AbstractStringBuilder", name := "length", desc := "()I" } : Jvm.MethodName) jdk_68_method_6_code (1 : Nat) (Option.some Jvm.ClassFile.FieldType.int)).before a0 Z = true := hw _ (List.mem_of_getElem? (i := 202) rfl)
theorem tw_203 {a0 : Array Value} {Z : State} (hw : ∀ d ∈ tables_1, d.before a0 Z = true) : (Jvm.Cond.methodLink "java/lang/String" (1047 : Nat) ({ cls := "java/lang/AbstractStringBuilder", name := "isLatin1", desc := "()Z" } : Jvm.MethodName)).before a0 Z = true := hw _ (List.mem_of_getElem? (i := 203) rfl)
theorem tw_204 {a0 : Array Value} {Z : State} (hw : ∀ d ∈ tables_1, d.before a0 Z = true) : (Jvm.Cond.methodLink "java/lang/String" (54 : Nat) ({ cls := "java/util/Arrays", name := "copyOfRange", desc := "([BII)[B" } : Jvm.MethodName)).before a0 Z = true := hw _ (List.mem_of_getElem? (i := 204) rfl)
theorem tw_205 {a0 : Array Value} {Z : State} (hw : ∀ d ∈ tables_1, d.before a0 Z = true) : (Jvm.Cond.static ({ cls := "java/util/Arrays", name := "copyOfRange", desc := "([BII)[B" } : Jvm.MethodName)).before a0 Z = true := hw _ (List.mem_of_getElem? (i := 205) rfl)
theorem tw_206 {a0 : Array Value} {Z : State} (hw : ∀ d ∈ tables_1, d.before a0 Z = true) : (Jvm.Cond.initialized "java/util/Arrays").before a0 Z = true := hw _ (List.mem_of_getElem? (i := 206) rfl)
theorem tw_207 {a0 : Array Value} {Z : State} (hw : ∀ d ∈ tables_1, d.before a0 Z = true) : (Jvm.Cond.code ({ cls := "java/util/Arrays", name := "copyOfRange", desc := "([BII)[B" } : Jvm.MethodName) jdk_65_method_132_code (3 : Nat) (Option.some (Jvm.ClassFile.FieldType.array Jvm.ClassFile.FieldType.byte))).before a0 Z = true := hw _ (List.mem_of_getElem? (i := 207) rfl)
theorem tw_208 {a0 : Array Value} {Z : State} (hw : ∀ d ∈ tables_1, d.before a0 Z = true) : (Jvm.Cond.methodLink "java/util/Arrays" (339 : Nat) ({ cls := "java/util/Arrays", name := "copyOfRangeByte", desc := "([BII)[B" } : Jvm.MethodName)).before a0 Z = true := hw _ (List.mem_of_getElem? (i := 208) rfl)
theorem tw_209 {a0 : Array Value} {Z : State} (hw : ∀ d ∈ tables_1, d.before a0 Z = true) : (Jvm.Cond.static ({ cls := "java/util/Arrays", name := "copyOfRangeByte", desc := "([BII)[B" } : Jvm.MethodName)).before a0 Z = true := hw _ (List.mem_of_getElem? (i := 209) rfl)
theorem tw_210 {a0 : Array Value} {Z : State} (hw : ∀ d ∈ tables_1, d.before a0 Z = true) : (Jvm.Cond.code ({ cls := "java/util/Arrays", name := "copyOfRangeByte", desc := "([BII)[B" } : Jvm.MethodName) jdk_65_method_133_code (5 : Nat) (Option.some (Jvm.ClassFile.FieldType.array Jvm.ClassFile.FieldType.byte))).before a0 Z = true := hw _ (List.mem_of_getElem? (i := 210) rfl)
theorem tw_211 {a0 : Array Value} {Z : State} (hw : ∀ d ∈ tables_1, d.before a0 Z = true) : (Jvm.Cond.methodLink "java/util/Arrays" (343 : Nat) ({ cls := "java/util/Arrays", name := "checkLength", desc := "(II)V" } : Jvm.MethodName)).before a0 Z = true := hw _ (List.mem_of_getElem? (i := 211) rfl)
theorem tw_212 {a0 : Array Value} {Z : State} (hw : ∀ d ∈ tables_1, d.before a0 Z = true) : (Jvm.Cond.static ({ cls := "java/util/Arrays", name := "checkLength", desc := "(II)V" } : Jvm.MethodName)).before a0 Z = true := hw _ (List.mem_of_getElem? (i := 212) rfl)
theorem tw_213 {a0 : Array Value} {Z : State} (hw : ∀ d ∈ tables_1, d.before a0 Z = true) : (Jvm.Cond.code ({ cls := "java/util/Arrays", name := "checkLength", desc := "(II)V" } : Jvm.MethodName) jdk_65_method_131_code (2 : Nat) (Option.none : Option Jvm.ClassFile.FieldType)).before a0 Z = true := hw _ (List.mem_of_getElem? (i := 213) rfl)
theorem tw_214 {a0 : Array Value} {Z : State} (hw : ∀ d ∈ tables_1, d.before a0 Z = true) : (Jvm.Cond.methodLink "java/util/Arrays" (304 : Nat) ({ cls := "java/lang/Math", name := "min", desc := "(II)I" } : Jvm.MethodName)).before a0 Z = true := hw _ (List.mem_of_getElem? (i := 214) rfl)
theorem tw_215 {a0 : Array Value} {Z : State} (hw : ∀ d ∈ tables_1, d.before a0 Z = true) : (Jvm.Cond.methodLink "java/util/Arrays" (150 : Nat) ({ cls := "java/lang/System", name := "arraycopy", desc := "(Ljava/lang/Object;ILjava/lang/Object;II)V" } : Jvm.MethodName)).before a0 Z = true := hw _ (List.mem_of_getElem? (i := 215) rfl)
theorem tw_216 {a0 : Array Value} {Z : State} (hw : ∀ d ∈ tables_1, d.before a0 Z = true) : (Jvm.Cond.methodLink "java/lang/StringUTF16" (119 : Nat) ({ cls := "java/lang/StringUTF16", name := "toBytes", desc := "([CII)[B" } : Jvm.MethodName)).before a0 Z = true := hw _ (List.mem_of_getElem? (i := 216) rfl)
theorem tw_217 {a0 : Array Value} {Z : State} (hw : ∀ d ∈ tables_1, d.before a0 Z = true) : (Jvm.Cond.static ({ cls := "java/lang/StringUTF16", name := "toBytes", desc := "([CII)[B" } : Jvm.MethodName)).before a0 Z = true := hw _ (List.mem_of_getElem? (i := 217) rfl)
theorem tw_218 {a0 : Array Value} {Z : State} (hw : ∀ d ∈ tables_1, d.before a0 Z = true) : (Jvm.Cond.code ({ cls := "java/lang/StringUTF16", name := "toBytes", desc := "([CII)[B" } : Jvm.MethodName) jdk_52_method_14_code (5 : Nat) (Option.some (Jvm.ClassFile.FieldType.array Jvm.ClassFile.FieldType.byte))).before a0 Z = true := hw _ (List.mem_of_getElem? (i := 218) rfl)
theorem tw_219 {a0 : Array Value} {Z : State} (hw : ∀ d ∈ tables_1, d.before a0 Z = true) : (Jvm.Cond.methodLink "java/lang/StringUTF16" (107 : Nat) ({ cls := "java/lang/StringUTF16", name := "newBytesFor", desc := "(I)[B" } : Jvm.MethodName)).before a0 Z = true := hw _ (List.mem_of_getElem? (i := 219) rfl)
theorem tw_220 {a0 : Array Value} {Z : State} (hw : ∀ d ∈ tables_1, d.before a0 Z = true) : (Jvm.Cond.static ({ cls := "java/lang/StringUTF16", name := "newBytesFor", desc := "(I)[B" } : Jvm.MethodName)).before a0 Z = true := hw _ (List.mem_of_getElem? (i := 220) rfl)
theorem tw_221 {a0 : Array Value} {Z : State} (hw : ∀ d ∈ tables_1, d.before a0 Z = true) : (Jvm.Cond.code ({ cls := "java/lang/StringUTF16", name := "newBytesFor", desc := "(I)[B" } : Jvm.MethodName) jdk_52_method_2_code (1 : Nat) (Option.some (Jvm.ClassFile.FieldType.array Jvm.ClassFile.FieldType.byte))).before a0 Z = true := hw _ (List.mem_of_getElem? (i := 221) rfl)
theorem tw_222 {a0 : Array Value} {Z : State} (hw : ∀ d ∈ tables_1, d.before a0 Z = true) : (Jvm.Cond.methodLink "java/lang/StringUTF16" (11 : Nat) ({ cls := "java/lang/StringUTF16", name := "newBytesLength", desc := "(I)I" } : Jvm.MethodName)).before a0 Z = true := hw _ (List.mem_of_getElem? (i := 222) rfl)
theorem tw_223 {a0 : Array Value} {Z : State} (hw : ∀ d ∈ tables_1, d.before a0 Z = true) : (Jvm.Cond.static ({ cls := "java/lang/StringUTF16", name := "newBytesLength", desc := "(I)I" } : Jvm.MethodName)).before a0 Z = true := hw _ (List.mem_of_getElem? (i := 223) rfl)
theorem tw_224 {a0 : Array Value} {Z : State} (hw : ∀ d ∈ tables_1, d.before a0 Z = true) : (Jvm.Cond.code ({ cls := "java/lang/StringUTF16", name := "newBytesLength", desc := "(I)I" } : Jvm.MethodName) jdk_52_method_3_code (1 : Nat) (Option.some Jvm.ClassFile.FieldType.int)).before a0 Z = true := hw _ (List.mem_of_getElem? (i := 224) rfl)
theorem tw_225 {a0 : Array Value} {Z : State} (hw : ∀ d ∈ tables_1, d.before a0 Z = true) : (Jvm.Cond.constant "java/lang/StringUTF16" (20 : Nat) (1073741823 : Int32)).before a0 Z = true := hw _ (List.mem_of_getElem? (i := 225) rfl)
theorem tw_226 {a0 : Array Value} {Z : State} (hw : ∀ d ∈ tables_1, d.before a0 Z = true) : (Jvm.Cond.methodLink "java/lang/StringUTF16" (111 : Nat) ({ cls := "java/lang/StringUTF16", name := "putChar", desc := "([BII)V" } : Jvm.MethodName)).before a0 Z = true := hw _ (List.mem_of_getElem? (i := 226) rfl)
theorem tw_227 {a0 : Array Value} {Z : State} (hw : ∀ d ∈ tables_1, d.before a0 Z = true) : (Jvm.Cond.static ({ cls := "java/lang/StringUTF16", name := "putChar", desc := "([BII)V" } : Jvm.MethodName)).before a0 Z = true := hw _ (List.mem_of_getElem? (i := 227) rfl)
theorem tw_228 {a0 : Array Value} {Z : State} (hw : ∀ d ∈ tables_1, d.before a0 Z = true) : (Jvm.Cond.code ({ cls := "java/lang/StringUTF16", name := "putChar", desc := "([BII)V" } : Jvm.MethodName) jdk_52_method_4_code (3 : Nat) (Option.none : Option Jvm.ClassFile.FieldType)).before a0 Z = true := hw _ (List.mem_of_getElem? (i := 228) rfl)
theorem tw_229 {a0 : Array Value} {Z : State} (hw : ∀ d ∈ tables_1, d.before a0 Z = true) : (Jvm.Cond.fieldLink "java/lang/StringUTF16" (44 : Nat) "java/lang/StringUTF16" "$assertionsDisabled" "Z").before a0 Z = true := hw _ (List.mem_of_getElem? (i := 229) rfl)
theorem tw_230 {a0 : Array Value} {Z : State} (hw : ∀ d ∈ tables_1, d.before a0 Z = true) : (Jvm.Cond.fieldLink "java/lang/StringUTF16" (59 : Nat) "java/lang/StringUTF16" "HI_BYTE_SHIFT" "I").before a0 Z = true := hw _ (List.mem_of_getElem? (i := 230) rfl)
theorem tw_231 {a0 : Array Value} {Z : State} (hw : ∀ d ∈ tables_1, d.before a0 Z = true) : (Jvm.Cond.fieldLink "java/lang/StringUTF16" (63 : Nat) "java/lang/StringUTF16" "LO_BYTE_SHIFT" "I").before a0 Z = true := hw _ (List.mem_of_getElem? (i := 231) rfl)
theorem tw_232 {a0 : Array Value} {Z : State} (hw : ∀ d ∈ tables_1, d.before a0 Z = true) : (Jvm.Cond.methodLink "java/lang/StringUTF16" (71 : Nat) ({ cls := "java/lang/StringUTF16", name := "getChar", desc := "([BI)C" } : Jvm.MethodName)).before a0 Z = true := hw _ (List.mem_of_getElem? (i := 232) rfl)
theorem tw_233 {a0 : Array Value} {Z : State} (hw : ∀ d ∈ tables_1, d.before a0 Z = true) : (Jvm.Cond.static ({ cls := "java/lang/StringUTF16", name := "getChar", desc := "([BI)C" } : Jvm.MethodName)).before a0 Z = true := hw _ (List.mem_of_getElem? (i := 233) rfl)
theorem tw_234 {a0 : Array Value} {Z : State} (hw : ∀ d ∈ tables_1, d.before a0 Z = true) : (Jvm.Cond.code ({ cls := "java/lang/StringUTF16", name := "getChar", desc := "([BI)C" } : Jvm.MethodName) jdk_52_method_5_code (2 : Nat) (Option.some Jvm.ClassFile.FieldType.char)).before a0 Z = true := hw _ (List.mem_of_getElem? (i := 234) rfl)
theorem tw_235 {a0 : Array Value} {Z : State} (hw : ∀ d ∈ tables_1, d.before a0 Z = true) : (Jvm.Cond.methodLink "java/lang/String" (498 : Nat) ({ cls := "java/lang/StringUTF16", name := "charAt", desc := "([BI)C" } : Jvm.MethodName)).before a0 Z = true := hw _ (List.mem_of_getElem? (i := 235) rfl)
theorem tw_236 {a0 : Array Value} {Z : State} (hw : ∀ d ∈ tables_1, d.before a0 Z = true) : (Jvm.Cond.static ({ cls := "java/lang/StringUTF16", name := "charAt", desc := "([BI)C" } : Jvm.MethodName)).before a0 Z = true := hw _ (List.mem_of_getElem? (i := 236) rfl)
theorem tw_237 {a0 : Array Value} {Z : State} (hw : ∀ d ∈ tables_1, d.before a0 Z = true) : (Jvm.Cond.code ({ cls := "java/lang/StringUTF16", name := "charAt", desc := "([BI)C" } : Jvm.MethodName) jdk_52_method_83_code (2 : Nat) (Option.some Jvm.ClassFile.FieldType.char)).before a0 Z = true := hw _ (List.mem_of_getElem? (i := 237) rfl)
theorem tw_238 {a0 : Array Value} {Z : State} (hw : ∀ d ∈ tables_1, d.before a0 Z = true) : (Jvm.Cond.methodLink "java/lang/StringUTF16" (67 : Nat) ({ cls := "java/lang/StringUTF16", name := "checkIndex", desc := "(I[B)V" } : Jvm.MethodName)).before a0 Z = true := hw _ (List.mem_of_getElem? (i := 238) rfl)
theorem tw_239 {a0 : Array Value} {Z : State} (hw : ∀ d ∈ tables_1, d.before a0 Z = true) : (Jvm.Cond.static ({ cls := "java/lang/StringUTF16", name := "checkIndex", desc := "(I[B)V" } : Jvm.MethodName)).before a0 Z = true := hw _ (List.mem_of_getElem? (i := 239) rfl)
theorem tw_240 {a0 : Array Value} {Z : State} (hw : ∀ d ∈ tables_1, d.before a0 Z = true) : (Jvm.Cond.code ({ cls := "java/lang/StringUTF16", name := "checkIndex", desc := "(I[B)V" } : Jvm.MethodName) jdk_52_method_91_code (2 : Nat) (Option.none : Option Jvm.ClassFile.FieldType)).before a0 Z = true := hw _ (List.mem_of_getElem? (i := 240) rfl)
theorem tw_241 {a0 : Array Value} {Z : State} (hw : ∀ d ∈ tables_1, d.before a0 Z = true) : (Jvm.Cond.methodLink "java/lang/StringUTF16" (48 : Nat) ({ cls := "java/lang/StringUTF16", name := "length", desc := "([B)I" } : Jvm.MethodName)).before a0 Z = true := hw _ (List.mem_of_getElem? (i := 241) rfl)
theorem tw_242 {a0 : Array Value} {Z : State} (hw : ∀ d ∈ tables_1, d.before a0 Z = true) : (Jvm.Cond.static ({ cls := "java/lang/StringUTF16", name := "length", desc := "([B)I" } : Jvm.MethodName)).before a0 Z = true := hw _ (List.mem_of_getElem? (i := 242) rfl)
theorem tw_243 {a0 : Array Value} {Z : State} (hw : ∀ d ∈ tables_1, d.before a0 Z = true) : (Jvm.Cond.code ({ cls := "java/lang/StringUTF16", name := "length", desc := "([B)I" } : Jvm.MethodName) jdk_52_method_6_code (1 : Nat) (Option.some Jvm.ClassFile.FieldType.int)).before a0 Z = true := hw _ (List.mem_of_getElem? (i := 243) rfl)
theorem tw_244 {a0 : Array Value} {Z : State} (hw : ∀ d ∈ tables_1, d.before a0 Z = true) : (Jvm.Cond.methodLink "java/lang/StringUTF16" (414 : Nat) ({ cls := "java/lang/String", name := "checkIndex", desc := "(II)V" } : Jvm.MethodName)).before a0 Z = true := hw _ (List.mem_of_getElem? (i := 244) rfl)
theorem tw_245 {a0 : Array Value} {Z : State} (hw : ∀ d ∈ tables_1, d.before a0 Z = true) : (Jvm.Cond.methodLink "java/lang/String" (640 : Nat) ({ cls := "java/lang/StringUTF16", name := "indexOf", desc := "([BIII)I" } : Jvm.MethodName)).before a0 Z = true := hw _ (List.mem_of_getElem? (i := 245) rfl)
theorem tw_246 {a0 : Array Value} {Z : State} (hw : ∀ d ∈ tables_1, d.before a0 Z = true) : (Jvm.Cond.static ({ cls := "java/lang/StringUTF16", name := "indexOf", desc := "([BIII)I" } : Jvm.MethodName)).before a0 Z = true := hw _ (List.mem_of_getElem? (i := 246) rfl)
theorem tw_247 {a0 : Array Value} {Z : State} (hw : ∀ d ∈ tables_1, d.before a0 Z = true) : (Jvm.Cond.code ({ cls := "java/lang/StringUTF16", name := "indexOf", desc := "([BIII)I" } : Jvm.MethodName) jdk_52_method_40_code (4 : Nat) (Option.some Jvm.ClassFile.FieldType.int)).before a0 Z = true := hw _ (List.mem_of_getElem? (i := 247) rfl)
theorem tw_248 {a0 : Array Value} {Z : State} (hw : ∀ d ∈ tables_1, d.before a0 Z = true) : (Jvm.Cond.methodLink "java/lang/StringUTF16" (224 : Nat) ({ cls := "java/lang/Math", name := "max", desc := "(II)I" } : Jvm.MethodName)).before a0 Z = true := hw _ (List.mem_of_getElem? (i := 248) rfl)
theorem tw_249 {a0 : Array Value} {Z : State} (hw : ∀ d ∈ tables_1, d.before a0 Z = true) : (Jvm.Cond.methodLink "java/lang/StringUTF16" (183 : Nat) ({ cls := "java/lang/Math", name := "min", desc := "(II)I" } : Jvm.MethodName)).before a0 Z = true := hw _ (List.mem_of_getElem? (i := 249) rfl)
theorem tw_250 {a0 : Array Value} {Z : State} (hw : ∀ d ∈ tables_1, d.before a0 Z = true) : (Jvm.Cond.constant "java/lang/StringUTF16" (227 : Nat) (65536 : Int32)).before a0 Z = true := hw _ (List.mem_of_getElem? (i := 250) rfl)
theorem tw_251 {a0 : Array Value} {Z : State} (hw : ∀ d ∈ tables_1, d.before a0 Z = true) : (Jvm.Cond.methodLink "java/lang/StringUTF16" (228 : Nat) ({ cls := "java/lang/StringUTF16", name := "indexOfChar", desc := "([BIII)I" } : Jvm.MethodName)).before a0 Z = true := hw _ (List.mem_of_getElem? (i := 251) rfl)
theorem tw_252 {a0 : Array Value} {Z : State} (hw : ∀ d ∈ tables_1, d.before a0 Z = true) : (Jvm.Cond.static ({ cls := "java/lang/StringUTF16", name := "indexOfChar", desc := "([BIII)I" } : Jvm.MethodName)).before a0 Z = true := hw _ (List.mem_of_getElem? (i := 252) rfl)
theorem tw_253 {a0 : Array Value} {Z : State} (hw : ∀ d ∈ tables_1, d.before a0 Z = true) : (Jvm.Cond.code ({ cls := "java/lang/StringUTF16", name := "indexOfChar", desc := "([BIII)I" } : Jvm.MethodName) jdk_52_method_47_code (4 : Nat) (Option.some Jvm.ClassFile.FieldType.int)).before a0 Z = true := hw _ (List.mem_of_getElem? (i := 253) rfl)
theorem tw_254 {a0 : Array Value} {Z : State} (hw : ∀ d ∈ tables_1, d.before a0 Z = true) : (Jvm.Cond.methodLink "java/lang/StringUTF16" (96 : Nat) ({ cls := "java/lang/StringUTF16", name := "checkBoundsBeginEnd", desc := "(II[B)V" } : Jvm.MethodName)).before a0 Z = true := hw _ (List.mem_of_getElem? (i := 254) rfl)
theorem tw_255 {a0 : Array Value} {Z : State} (hw : ∀ d ∈ tables_1, d.before a0 Z = true) : (Jvm.Cond.static ({ cls := "java/lang/StringUTF16", name := "checkBoundsBeginEnd", desc := "(II[B)V" } : Jvm.MethodName)).before a0 Z = true := hw _ (List.mem_of_getElem? (i := 255) rfl)
theorem tw_256 {a0 : Array Value} {Z : State} (hw : ∀ d ∈ tables_1, d.before a0 Z = true) : (Jvm.Cond.code ({ cls := "java/lang/StringUTF16", name := "checkBoundsBeginEnd", desc := "(II[B)V" } : Jvm.MethodName) jdk_52_method_93_code (3 : Nat) (Option.none : Option Jvm.ClassFile.FieldType)).before a0 Z = true := hw _ (List.mem_of_getElem? (i := 256) rfl)
theorem tw_257 {a0 : Array Value} {Z : State} (hw : ∀ d ∈ tables_1, d.before a0 Z = true) : (Jvm.Cond.methodLink "java/lang/StringUTF16" (241 : Nat) ({ cls := "java/lang/String", name := "checkBoundsBeginEnd", desc := "(III)V" } : Jvm.MethodName)).before a0 Z = true := hw _ (List.mem_of_getElem? (i := 257) rfl)
theorem tw_258 {a0 : Array Value} {Z : State} (hw : ∀ d ∈ tables_1, d.before a0 Z = true) : (Jvm.Cond.static ({ cls := "java/lang/String", name := "checkBoundsBeginEnd", desc := "(III)V" } : Jvm.MethodName)).before a0 Z = true := hw _ (List.mem_of_getElem? (i := 258) rfl)
theorem tw_259 {a0 : Array Value} {Z : State} (hw : ∀ d ∈ tables_1, d.before a0 Z = true) : (Jvm.Cond.code ({ cls := "java/lang/String", name := "checkBoundsBeginEnd", desc := "(III)V" } : Jvm.MethodName) jdk_42_method_158_code (3 : Nat) (Option.none : Option Jvm.ClassFile.FieldType)).before a0 Z = true := hw _ (List.mem_of_getElem? (i := 259) rfl)
theorem tw_260 {a0 : Array Value} {Z : State} (hw : ∀ d ∈ tables_1, d.before a0 Z = true) : (Jvm.Cond.methodLink "java/lang/String" (1062 : Nat) ({ cls := "jdk/internal/util/Preconditions", name := "checkFromToIndex", desc := "(IIILjava/util/function/BiFunction;)I" } : Jvm.MethodName)).before a0 Z = true := hw _ (List.mem_of_getElem? (i := 260) rfl)
theorem tw_261 {a0 : Array Value} {Z : State} (hw : ∀ d ∈ tables_1, d.before a0 Z = true) : (Jvm.Cond.methodLink "java/lang/StringUTF16" (244 : Nat) ({ cls := "java/lang/StringUTF16", name := "indexOfCharUnsafe", desc := "([BIII)I" } : Jvm.MethodName)).before a0 Z = true := hw _ (List.mem_of_getElem? (i := 261) rfl)
theorem tw_262 {a0 : Array Value} {Z : State} (hw : ∀ d ∈ tables_1, d.before a0 Z = true) : (Jvm.Cond.static ({ cls := "java/lang/StringUTF16", name := "indexOfCharUnsafe", desc := "([BIII)I" } : Jvm.MethodName)).before a0 Z = true := hw _ (List.mem_of_getElem? (i := 262) rfl)
theorem tw_263 {a0 : Array Value} {Z : State} (hw : ∀ d ∈ tables_1, d.before a0 Z = true) : (Jvm.Cond.code ({ cls := "java/lang/StringUTF16", name := "indexOfCharUnsafe", desc := "([BIII)I" } : Jvm.MethodName) jdk_52_method_48_code (5 : Nat) (Option.some Jvm.ClassFile.FieldType.int)).before a0 Z = true := hw _ (List.mem_of_getElem? (i := 263) rfl)
theorem tw_264 {a0 : Array Value} {Z : State} (hw : ∀ d ∈ tables_1, d.before a0 Z = true) : (Jvm.Cond.methodLink "java/lang/AbstractStringBuilder" (404 : Nat) ({ cls := "java/lang/String", name := "charAt", desc := "(I)C" } : Jvm.MethodName)).before a0 Z = true := hw _ (List.mem_of_getElem? (i := 264) rfl)
theorem tw_265 {a0 : Array Value} {Z : State} (hw : ∀ d ∈ tables_1, d.before a0 Z = true) : (Jvm.Cond.methodLink "java/lang/AbstractStringBuilder" (191 : Nat) ({ cls := "java/lang/StringLatin1", name := "canEncode", desc := "(C)Z" } : Jvm.MethodName)).before a0 Z = true := hw _ (List.mem_of_getElem? (i := 265) rfl)
theorem tw_266 {a0 : Array Value} {Z : State} (hw : ∀ d ∈ tables_1, d.before a0 Z = true) : (Jvm.Cond.static ({ cls := "java/lang/StringLatin1", name := "canEncode", desc := "(C)Z" } : Jvm.MethodName)).before a0 Z = true := hw _ (List.mem_of_getElem? (i := 266) rfl)
theorem tw_267 {a0 : Array Value} {Z : State} (hw : ∀ d ∈ tables_1, d.before a0 Z = true) : (Jvm.Cond.code ({ cls := "java/lang/StringLatin1", name := "canEncode", desc := "(C)Z" } : Jvm.MethodName) jdk_43_method_3_code (1 : Nat) (Option.some Jvm.ClassFile.FieldType.boolean)).before a0 Z = true := hw _ (List.mem_of_getElem? (i := 267) rfl)
theorem tw_268 {a0 : Array Value} {Z : State} (hw : ∀ d ∈ tables_1, d.before a0 Z = true) : (Jvm.Cond.methodLink "java/lang/AbstractStringBuilder" (195 : Nat) ({ cls := "java/lang/AbstractStringBuilder", name := "inflate", desc := "()V" } : Jvm.MethodName)).before a0 Z = true := hw _ (List.mem_of_getElem? (i := 268) rfl)
theorem tw_269 {a0 : Array Value} {Z : State} (hw : ∀ d ∈ tables_1, d.before a0 Z = true) : (Jvm.Cond.instanceMethod ({ cls := "java/lang/AbstractStringBuilder", name := "inflate", desc := "()V" } : Jvm.MethodName)).before a0 Z = true := hw _ (List.mem_of_getElem? (i := 269) rfl)
theorem tw_271 {a0 : Array Value} {Z : State} (hw : ∀ d ∈ tables_1, d.before a0 Z = true) : (Jvm.Cond.selects "java/lang/StringBuilder" ({ cls := "java/lang/AbstractStringBuilder", name := "inflate", desc := "()V" } : Jvm.MethodName) ({ cls := "java/lang/AbstractStringBuilder", name := "inflate", desc := "()V" } : Jvm.MethodName)).before a0 Z = true := hw _ (List.mem_of_getElem? (i := 271) rfl)
theorem tw_272 {a0 : Array Value} {Z : State} (hw : ∀ d ∈ tables_1, d.before a0 Z = true) : (Jvm.Cond.code ({ cls := "java/lang/AbstractStringBuilder", name := "inflate", desc := "()V" } : Jvm.MethodName) jdk_68_method_11_code (2 : Nat) (Option.none : Option Jvm.ClassFile.FieldType)).before a0 Z = true := hw _ (List.mem_of_getElem? (i := 272) rfl)
theorem tw_273 {a0 : Array Value} {Z : State} (hw : ∀ d ∈ tables_1, d.before a0 Z = true) : (Jvm.Cond.methodLink "java/lang/AbstractStringBuilder" (26 : Nat) ({ cls := "java/lang/StringUTF16", name := "newBytesFor", desc := "(I)[B" } : Jvm.MethodName)).before a0 Z = true := hw _ (List.mem_of_getElem? (i := 273) rfl)
theorem tw_274 {a0 : Array Value} {Z : State} (hw : ∀ d ∈ tables_1, d.before a0 Z = true) : (Jvm.Cond.methodLink "java/lang/AbstractStringBuilder" (125 : Nat) ({ cls := "java/lang/StringLatin1", name := "inflate", desc := "([BI[BII)V" } : Jvm.MethodName)).before a0 Z = true := hw _ (List.mem_of_getElem? (i := 274) rfl)
theorem tw_275 {a0 : Array Value} {Z : State} (hw : ∀ d ∈ tables_1, d.before a0 Z = true) : (Jvm.Cond.static ({ cls := "java/lang/StringLatin1", name := "inflate", desc := "([BI[BII)V" } : Jvm.MethodName)).before a0 Z = true := hw _ (List.mem_of_getElem? (i := 275) rfl)
theorem tw_276 {a0 : Array Value} {Z : State} (hw : ∀ d ∈ tables_1, d.before a0 Z = true) : (Jvm.Cond.code ({ cls := "java/lang/StringLatin1", name := "inflate", desc := "([BI[BII)V" } : Jvm.MethodName) jdk_43_method_50_code (5 : Nat) (Option.none : Option Jvm.ClassFile.FieldType)).before a0 Z = true := hw _ (List.mem_of_getElem? (i := 276) rfl)
theorem tw_277 {a0 : Array Value} {Z : State} (hw : ∀ d ∈ tables_1, d.before a0 Z = true) : (Jvm.Cond.methodLink "java/lang/StringLatin1" (240 : Nat) ({ cls := "java/lang/StringUTF16", name := "inflate", desc := "([BI[BII)V" } : Jvm.MethodName)).before a0 Z = true := hw _ (List.mem_of_getElem? (i := 277) rfl)
theorem tw_278 {a0 : Array Value} {Z : State} (hw : ∀ d ∈ tables_1, d.before a0 Z = true) : (Jvm.Cond.static ({ cls := "java/lang/StringUTF16", name := "inflate", desc := "([BI[BII)V" } : Jvm.MethodName)).before a0 Z = true := hw _ (List.mem_of_getElem? (i := 278) rfl)
theorem tw_279 {a0 : Array Value} {Z : State} (hw : ∀ d ∈ tables_1, d.before a0 Z = true) : (Jvm.Cond.code ({ cls := "java/lang/StringUTF16", name := "inflate", desc := "([BI[BII)V" } : Jvm.MethodName) jdk_52_method_86_code (6 : Nat) (Option.none : Option Jvm.ClassFile.FieldType)).before a0 Z = true := hw _ (List.mem_of_getElem? (i := 279) rfl)
theorem tw_280 {a0 : Array Value} {Z : State} (hw : ∀ d ∈ tables_1, d.before a0 Z = true) : (Jvm.Cond.methodLink "java/lang/StringUTF16" (173 : Nat) ({ cls := "java/lang/StringUTF16", name := "checkBoundsOffCount", desc := "(II[B)V" } : Jvm.MethodName)).before a0 Z = true := hw _ (List.mem_of_getElem? (i := 280) rfl)
theorem tw_281 {a0 : Array Value} {Z : State} (hw : ∀ d ∈ tables_1, d.before a0 Z = true) : (Jvm.Cond.static ({ cls := "java/lang/StringUTF16", name := "checkBoundsOffCount", desc := "(II[B)V" } : Jvm.MethodName)).before a0 Z = true := hw _ (List.mem_of_getElem? (i := 281) rfl)
theorem tw_282 {a0 : Array Value} {Z : State} (hw : ∀ d ∈ tables_1, d.before a0 Z = true) : (Jvm.Cond.code ({ cls := "java/lang/StringUTF16", name := "checkBoundsOffCount", desc := "(II[B)V" } : Jvm.MethodName) jdk_52_method_94_code (3 : Nat) (Option.none : Option Jvm.ClassFile.FieldType)).before a0 Z = true := hw _ (List.mem_of_getElem? (i := 282) rfl)
theorem tw_283 {a0 : Array Value} {Z : State} (hw : ∀ d ∈ tables_1, d.before a0 Z = true) : (Jvm.Cond.methodLink "java/lang/StringUTF16" (419 : Nat) ({ cls := "java/lang/String", name := "checkBoundsOffCount", desc := "(III)I" } : Jvm.MethodName)).before a0 Z = true := hw _ (List.mem_of_getElem? (i := 283) rfl)
theorem tw_284 {a0 : Array Value} {Z : State} (hw : ∀ d ∈ tables_1, d.before a0 Z = true) : (Jvm.Cond.static ({ cls := "java/lang/String", name := "checkBoundsOffCount", desc := "(III)I" } : Jvm.MethodName)).before a0 Z = true := hw _ (List.mem_of_getElem? (i := 284) rfl)
theorem tw_285 {a0 : Array Value} {Z : State} (hw : ∀ d ∈ tables_1, d.before a0 Z = true) : (Jvm.Cond.code ({ cls := "java/lang/String", name := "checkBoundsOffCount", desc := "(III)I" } : Jvm.MethodName) jdk_42_method_157_code (3 : Nat) (Option.some Jvm.ClassFile.FieldType.int)).before a0 Z = true := hw _ (List.mem_of_getElem? (i := 285) rfl)
theorem tw_286 {a0 : Array Value} {Z : State} (hw : ∀ d ∈ tables_1, d.before a0 Z = true) : (Jvm.Cond.methodLink "java/lang/String" (1065 : Nat) ({ cls := "jdk/internal/util/Preconditions", name := "checkFromIndexSize", desc := "(IIILjava/util/function/BiFunction;)I" } : Jvm.MethodName)).before a0 Z = true := hw _ (List.mem_of_getElem? (i := 286) rfl)
theorem tw_287 {a0 : Array Value} {Z : State} (hw : ∀ d ∈ tables_1, d.before a0 Z = true) : (Jvm.Cond.static ({ cls := "jdk/internal/util/Preconditions", name := "checkFromIndexSize", desc := "(IIILjava/util/function/BiFunction;)I" } : Jvm.MethodName)).before a0 Z = true := hw _ (List.mem_of_getElem? (i := 287) rfl)
theorem tw_288 {a0 : Array Value} {Z : State} (hw : ∀ d ∈ tables_1, d.before a0 Z = true) : (Jvm.Cond.code ({ cls := "jdk/internal/util/Preconditions", name := "checkFromIndexSize", desc := "(IIILjava/util/function/BiFunction;)I" } : Jvm.MethodName) jdk_41_method_13_code (4 : Nat) (Option.some Jvm.ClassFile.FieldType.int)).before a0 Z = true := hw _ (List.mem_of_getElem? (i := 288) rfl)
theorem tw_289 {a0 : Array Value} {Z : State} (hw : ∀ d ∈ tables_1, d.before a0 Z = true) : (Jvm.Cond.fieldLink "java/lang/String" (1048 : Nat) "java/lang/AbstractStringBuilder" "maybeLatin1" "Z").before a0 Z = true := hw _ (List.mem_of_getElem? (i := 289) rfl)
theorem tw_290 {a0 : Array Value} {Z : State} (hw : ∀ d ∈ tables_1, d.before a0 Z = true) : (Jvm.Cond.lays "java/lang/StringBuilder" "java/lang/AbstractStringBuilder" "maybeLatin1" "Z").before a0 Z = true := hw _ (List.mem_of_getElem? (i := 290) rfl)
theorem pd_0 : parseMethodDescriptor "(I)I" = some ⟨[.int], some .int⟩ := by decide +kernel
theorem pd_1 : parseMethodDescriptor "(I)[B" = some ⟨[.int], some (.array .byte)⟩ := by decide +kernel
theorem pd_2 : parseMethodDescriptor "([BII)V" = some ⟨[(.array .byte), .int, .int], none⟩ := by decide +kernel
theorem pd_3 : parseMethodDescriptor "([CI[BII)I" = some ⟨[(.array .char), .int, (.array .byte), .int, .int], some .int⟩ := by decide +kernel
theorem pd_4 : parseMethodDescriptor "([CII)[B" = some ⟨[(.array .char), .int, .int], some (.array .byte)⟩ := by decide +kernel
theorem pd_5 : parseMethodDescriptor "([BI)C" = some ⟨[(.array .byte), .int], some .char⟩ := by decide +kernel
theorem pd_6 : parseMethodDescriptor "([BI)B" = some ⟨[(.array .byte), .int], some .byte⟩ := by decide +kernel
theorem pd_7 : parseMethodDescriptor "([CIILjava/lang/Void;)V" = some ⟨[(.array .char), .int, .int, (.object "java/lang/Void")], none⟩ := by decide +kernel
theorem pd_8 : parseMethodDescriptor "()B" = some ⟨[], some .byte⟩ := by decide +kernel
theorem pd_9 : parseMethodDescriptor "(IILjava/util/function/BiFunction;)I" = some ⟨[.int, .int, (.object "java/util/function/BiFunction")], some .int⟩ := by decide +kernel
theorem pd_10 : parseMethodDescriptor "(II)V" = some ⟨[.int, .int], none⟩ := by decide +kernel
theorem pd_11 : parseMethodDescriptor "([B)I" = some ⟨[(.array .byte)], some .int⟩ := by decide +kernel
theorem pd_12 : parseMethodDescriptor "(I[B)V" = some ⟨[.int, (.array .byte)], none⟩ := by decide +kernel
theorem pd_13 : parseMethodDescriptor "()Z" = some ⟨[], some .boolean⟩ := by decide +kernel
theorem pd_14 : parseMethodDescriptor "(II)I" = some ⟨[.int, .int], some .int⟩ := by decide +kernel
theorem pd_15 : parseMethodDescriptor "([BII)[B" = some ⟨[(.array .byte), .int, .int], some (.array .byte)⟩ := by decide +kernel
theorem pd_16 : parseMethodDescriptor "(I)Z" = some ⟨[.int], some .boolean⟩ := by decide +kernel
theorem pd_17 : parseMethodDescriptor "([BIII)I" = some ⟨[(.array .byte), .int, .int, .int], some .int⟩ := by decide +kernel
theorem pd_18 : parseMethodDescriptor "(IIILjava/util/function/BiFunction;)I" = some ⟨[.int, .int, .int, (.object "java/util/function/BiFunction")], some .int⟩ := by decide +kernel
theorem pd_19 : parseMethodDescriptor "(III)V" = some ⟨[.int, .int, .int], none⟩ := by decide +kernel
theorem pd_20 : parseMethodDescriptor "(II[B)V" = some ⟨[.int, .int, (.array .byte)], none⟩ := by decide +kernel
theorem pd_21 : parseMethodDescriptor "()I" = some ⟨[], some .int⟩ := by decide +kernel
theorem pd_22 : parseMethodDescriptor "(I)V" = some ⟨[.int], none⟩ := by decide +kernel
theorem pd_23 : parseMethodDescriptor "(III)I" = some ⟨[.int, .int, .int], some .int⟩ := by decide +kernel
theorem pd_24 : parseMethodDescriptor "([BI[BII)V" = some ⟨[(.array .byte), .int, (.array .byte), .int, .int], none⟩ := by decide +kernel
theorem pd_25 : parseMethodDescriptor "()[B" = some ⟨[], some (.array .byte)⟩ := by decide +kernel
theorem pd_26 : parseMethodDescriptor "(Ljava/lang/AbstractStringBuilder;Ljava/lang/Void;)V" = some ⟨[(.object "java/lang/AbstractStringBuilder"), (.object "java/lang/Void")], none⟩ := by decide +kernel
theorem pd_27 : parseMethodDescriptor "(Ljava/lang/StringBuilder;)V" = some ⟨[(.object "java/lang/StringBuilder")], none⟩ := by decide +kernel
theorem pd_28 : parseMethodDescriptor "(I)C" = some ⟨[.int], some .char⟩ := by decide +kernel
theorem pd_29 : parseMethodDescriptor "(C)Z" = some ⟨[.char], some .boolean⟩ := by decide +kernel
theorem pd_30 : parseMethodDescriptor "()V" = some ⟨[], none⟩ := by decide +kernel
theorem pd_31 : parseMethodDescriptor "(Ljava/lang/String;II)V" = some ⟨[(.object "java/lang/String"), .int, .int], none⟩ := by decide +kernel
theorem pd_32 : parseMethodDescriptor "(Ljava/lang/CharSequence;II)Ljava/lang/AbstractStringBuilder;" = some ⟨[(.object "java/lang/CharSequence"), .int, .int], some (.object "java/lang/AbstractStringBuilder")⟩ := by decide +kernel
theorem pd_33 : parseMethodDescriptor "(Ljava/lang/String;CI)I" = some ⟨[(.object "java/lang/String"), .char, .int], some .int⟩ := by decide +kernel
theorem pd_34 : parseMethodDescriptor "(Ljava/lang/CharSequence;II)Ljava/lang/StringBuilder;" = some ⟨[(.object "java/lang/CharSequence"), .int, .int], some (.object "java/lang/StringBuilder")⟩ := by decide +kernel
theorem pd_35 : parseMethodDescriptor "()Ljava/lang/String;" = some ⟨[], some (.object "java/lang/String")⟩ := by decide +kernel
theorem pd_36 : parseMethodDescriptor "([C)V" = some ⟨[(.array .char)], none⟩ := by decide +kernel
theorem pd_37 : parseMethodDescriptor "(Ljava/lang/String;)Ljava/lang/String;" = some ⟨[(.object "java/lang/String")], some (.object "java/lang/String")⟩ := by decide +kernel
theorem pd_38 : parseMethodDescriptor "(Ljava/lang/String;II[C)Z" = some ⟨[(.object "java/lang/String"), .int, .int, (.array .char)], some .boolean⟩ := by decide +kernel
theorem pd_39 : parseMethodDescriptor "(IC)I" = some ⟨[.int, .char], some .int⟩ := by decide +kernel
theorem pd_40 : parseMethodDescriptor "(IC)Z" = some ⟨[.int, .char], some .boolean⟩ := by decide +kernel
theorem own_met_1_0 {K : own_Cx} {M : own_Mi} {Q : own_Q} {sf : List Addr} {h : Heap} {v0 : Value} (hpn : plainFor M.y = true) (hm : M.mx = 1) (c0 : v0.category = 1) (k : own_WP K M Q 0 [.val v0] [] sf h 0 0) : own_Met K M #[v0] sf h Q := own_met hpn (fun m => by rw [hm]; simp [entryFrame, mkF, argsToLocals, c0, List.replicate, Array.replicate]) k
theorem own_met_1_1 {K : own_Cx} {M : own_Mi} {Q : own_Q} {sf : List Addr} {h : Heap} {v0 : Value} (hpn : plainFor M.y = true) (hm : M.mx = 2) (c0 : v0.category = 1) (k : own_WP K M Q 0 [.val v0, .unset] [] sf h 0 0) : own_Met K M #[v0] sf h Q := own_met hpn (fun m => by rw [hm]; simp [entryFrame, mkF, argsToLocals, c0, List.replicate, Array.replicate]) k
theorem own_met_1_7 {K : own_Cx} {M : own_Mi} {Q : own_Q} {sf : List Addr} {h : Heap} {v0 : Value} (hpn : plainFor M.y = true) (hm : M.mx = 8) (c0 : v0.category = 1) (k : own_WP K M Q 0 [.val v0, .unset, .unset, .unset, .unset, .unset, .unset, .unset] [] sf h 0 0) : own_Met K M #[v0] sf h Q := own_met hpn (fun m => by rw [hm]; simp [entryFrame, mkF, argsToLocals, c0, List.replicate, Array.replicate]) k
theorem own_met_2_0 {K : own_Cx} {M : own_Mi} {Q : own_Q} {sf : List Addr} {h : Heap} {v0 v1 : Value} (hpn : plainFor M.y = true) (hm : M.mx = 2) (c0 : v0.category = 1) (c1 : v1.category = 1) (k : own_WP K M Q 0 [.val v0, .val v1] [] sf h 0 0) : own_Met K M #[v0, v1] sf h Q := own_met hpn (fun m => by rw [hm]; simp [entryFrame, mkF, argsToLocals, c0, c1, List.replicate, Array.replicate]) k
theorem own_met_2_1 {K : own_Cx} {M : own_Mi} {Q : own_Q} {sf : List Addr} {h : Heap} {v0 v1 : Value} (hpn : plainFor M.y = true) (hm : M.mx = 3) (c0 : v0.category = 1) (c1 : v1.category = 1) (k : own_WP K M Q 0 [.val v0, .val v1, .unset] [] sf h 0 0) : own_Met K M #[v0, v1] sf h Q := own_met hpn (fun m => by rw [hm]; simp [entryFrame, mkF, argsToLocals, c0, c1, List.replicate, Array.replicate]) k
theorem own_met_3_0 {K : own_Cx} {M : own_Mi} {Q : own_Q} {sf : List Addr} {h : Heap} {v0 v1 v2 : Value} (hpn : plainFor M.y = true) (hm : M.mx = 3) (c0 : v0.category = 1) (c1 : v1.category = 1) (c2 : v2.category = 1) (k : own_WP K M Q 0 [.val v0, .val v1, .val v2] [] sf h 0 0) : own_Met K M #[v0, v1, v2] sf h Q := own_met hpn (fun m => by rw [hm]; simp [entryFrame, mkF, argsToLocals, c0, c1, c2, List.replicate, Array.replicate]) k
theorem own_met_3_1 {K : own_Cx} {M : own_Mi} {Q : own_Q} {sf : List Addr} {h : Heap} {v0 v1 v2 : Value} (hpn : plainFor M.y = true) (hm : M.mx = 4) (c0 : v0.category = 1) (c1 : v1.category = 1) (c2 : v2.category = 1) (k : own_WP K M Q 0 [.val v0, .val v1, .val v2, .unset] [] sf h 0 0) : own_Met K M #[v0, v1, v2] sf h Q := own_met hpn (fun m => by rw [hm]; simp [entryFrame, mkF, argsToLocals, c0, c1, c2, List.replicate, Array.replicate]) k
theorem own_met_3_2 {K : own_Cx} {M : own_Mi} {Q : own_Q} {sf : List Addr} {h : Heap} {v0 v1 v2 : Value} (hpn : plainFor M.y = true) (hm : M.mx = 5) (c0 : v0.category = 1) (c1 : v1.category = 1) (c2 : v2.category = 1) (k : own_WP K M Q 0 [.val v0, .val v1, .val v2, .unset, .unset] [] sf h 0 0) : own_Met K M #[v0, v1, v2] sf h Q := own_met hpn (fun m => by rw [hm]; simp [entryFrame, mkF, argsToLocals, c0, c1, c2, List.replicate, Array.replicate]) k
theorem own_met_3_3 {K : own_Cx} {M : own_Mi} {Q : own_Q} {sf : List Addr} {h : Heap} {v0 v1 v2 : Value} (hpn : plainFor M.y = true) (hm : M.mx = 6) (c0 : v0.category = 1) (c1 : v1.category = 1) (c2 : v2.category = 1) (k : own_WP K M Q 0 [.val v0, .val v1, .val v2, .unset, .unset, .unset] [] sf h 0 0) : own_Met K M #[v0, v1, v2] sf h Q := own_met hpn (fun m => by rw [hm]; simp [entryFrame, mkF, argsToLocals, c0, c1, c2, List.replicate, Array.replicate]) k
theorem own_met_4_0 {K : own_Cx} {M : own_Mi} {Q : own_Q} {sf : List Addr} {h : Heap} {v0 v1 v2 v3 : Value} (hpn : plainFor M.y = true) (hm : M.mx = 4) (c0 : v0.category = 1) (c1 : v1.category = 1) (c2 : v2.category = 1) (c3 : v3.category = 1) (k : own_WP K M Q 0 [.val v0, .val v1, .val v2, .val v3] [] sf h 0 0) : own_Met K M #[v0, v1, v2, v3] sf h Q := own_met hpn (fun m => by rw [hm]; simp [entryFrame, mkF, argsToLocals, c0, c1, c2, c3, List.replicate, Array.replicate]) k
theorem own_met_4_1 {K : own_Cx} {M : own_Mi} {Q : own_Q} {sf : List Addr} {h : Heap} {v0 v1 v2 v3 : Value} (hpn : plainFor M.y = true) (hm : M.mx = 5) (c0 : v0.category = 1) (c1 : v1.category = 1) (c2 : v2.category = 1) (c3 : v3.category = 1) (k : own_WP K M Q 0 [.val v0, .val v1, .val v2, .val v3, .unset] [] sf h 0 0) : own_Met K M #[v0, v1, v2, v3] sf h Q := own_met hpn (fun m => by rw [hm]; simp [entryFrame, mkF, argsToLocals, c0, c1, c2, c3, List.replicate, Array.replicate]) k
theorem own_met_4_2 {K : own_Cx} {M : own_Mi} {Q : own_Q} {sf : List Addr} {h : Heap} {v0 v1 v2 v3 : Value} (hpn : plainFor M.y = true) (hm : M.mx = 6) (c0 : v0.category = 1) (c1 : v1.category = 1) (c2 : v2.category = 1) (c3 : v3.category = 1) (k : own_WP K M Q 0 [.val v0, .val v1, .val v2, .val v3, .unset, .unset] [] sf h 0 0) : own_Met K M #[v0, v1, v2, v3] sf h Q := own_met hpn (fun m => by rw [hm]; simp [entryFrame, mkF, argsToLocals, c0, c1, c2, c3, List.replicate, Array.replicate]) k
theorem own_met_4_4 {K : own_Cx} {M : own_Mi} {Q : own_Q} {sf : List Addr} {h : Heap} {v0 v1 v2 v3 : Value} (hpn : plainFor M.y = true) (hm : M.mx = 8) (c0 : v0.category = 1) (c1 : v1.category = 1) (c2 : v2.category = 1) (c3 : v3.category = 1) (k : own_WP K M Q 0 [.val v0, .val v1, .val v2, .val v3, .unset, .unset, .unset, .unset] [] sf h 0 0) : own_Met K M #[v0, v1, v2, v3] sf h Q := own_met hpn (fun m => by rw [hm]; simp [entryFrame, mkF, argsToLocals, c0, c1, c2, c3, List.replicate, Array.replicate]) k
theorem own_met_5_0 {K : own_Cx} {M : own_Mi} {Q : own_Q} {sf : List Addr} {h : Heap} {v0 v1 v2 v3 v4 : Value} (hpn : plainFor M.y = true) (hm : M.mx = 5) (c0 : v0.category = 1) (c1 : v1.category = 1) (c2 : v2.category = 1) (c3 : v3.category = 1) (c4 : v4.category = 1) (k : own_WP K M Q 0 [.val v0, .val v1, .val v2, .val v3, .val v4] [] sf h 0 0) : own_Met K M #[v0, v1, v2, v3, v4] sf h Q := own_met hpn (fun m => by rw [hm]; simp [entryFrame, mkF, argsToLocals, c0, c1, c2, c3, c4, List.replicate, Array.replicate]) k
theorem own_met_5_1 {K : own_Cx} {M : own_Mi} {Q : own_Q} {sf : List Addr} {h : Heap} {v0 v1 v2 v3 v4 : Value} (hpn : plainFor M.y = true) (hm : M.mx = 6) (c0 : v0.category = 1) (c1 : v1.category = 1) (c2 : v2.category = 1) (c3 : v3.category = 1) (c4 : v4.category = 1) (k : own_WP K M Q 0 [.val v0, .val v1, .val v2, .val v3, .val v4, .unset] [] sf h 0 0) : own_Met K M #[v0, v1, v2, v3, v4] sf h Q := own_met hpn (fun m => by rw [hm]; simp [entryFrame, mkF, argsToLocals, c0, c1, c2, c3, c4, List.replicate, Array.replicate]) k
theorem own_met_5_2 {K : own_Cx} {M : own_Mi} {Q : own_Q} {sf : List Addr} {h : Heap} {v0 v1 v2 v3 v4 : Value} (hpn : plainFor M.y = true) (hm : M.mx = 7) (c0 : v0.category = 1) (c1 : v1.category = 1) (c2 : v2.category = 1) (c3 : v3.category = 1) (c4 : v4.category = 1) (k : own_WP K M Q 0 [.val v0, .val v1, .val v2, .val v3, .val v4, .unset, .unset] [] sf h 0 0) : own_Met K M #[v0, v1, v2, v3, v4] sf h Q := own_met hpn (fun m => by rw [hm]; simp [entryFrame, mkF, argsToLocals, c0, c1, c2, c3, c4, List.replicate, Array.replicate]) k
theorem own_met_6_7 {K : own_Cx} {M : own_Mi} {Q : own_Q} {sf : List Addr} {h : Heap} {v0 v1 v2 v3 v4 v5 : Value} (hpn : plainFor M.y = true) (hm : M.mx = 13) (c0 : v0.category = 1) (c1 : v1.category = 1) (c2 : v2.category = 1) (c3 : v3.category = 1) (c4 : v4.category = 1) (c5 : v5.category = 1) (k : own_WP K M Q 0 [.val v0, .val v1, .val v2, .val v3, .val v4, .val v5, .unset, .unset, .unset, .unset, .unset, .unset, .unset] [] sf h 0 0) : own_Met K M #[v0, v1, v2, v3, v4, v5] sf h Q := own_met hpn (fun m => by rw [hm]; simp [entryFrame, mkF, argsToLocals, c0, c1, c2, c3, c4, c5, List.replicate, Array.replicate]) k
/-! STRINGS: chars as ints of 0 to 65535; what a String's bytes spell -/
abbrev own_Chs (cs : List Int32) : Prop := ∀ c ∈ cs, 0 ≤ c.toInt ∧ c.toInt < 65536
def own_lat (cs : List Int32) : Bool := cs.all fun c => decide (c.toInt < 256)
def own_bt (c : Int32) : Int32 := c.toInt8.toInt32
def own_hb (c : Int32) : Int32 := (c >>> ((8 : Int32) &&& 31)).toInt8.toInt32
def own_two (cs : List Int32) : List Int32 := cs.flatMap fun c => [own_bt c, own_hb c]
def own_enc (cs : List Int32) : List Int32 := if own_lat cs then cs.map own_bt else own_two cs
def own_cod (cs : List Int32) : Int32 := if own_lat cs then 0 else 1
abbrev own_ints (xs : List Int32) : List Value := xs.map Value.int
def own_Str (Z : State) (h : Heap) (a : Addr) (cs : List Int32) : Prop := Exa Z h a "java/lang/String" ∧ own_Chs cs ∧ cs.length < 2 ^ 30 ∧ ∃ b : Addr, Fld Z h a "java/lang/String" "value" "[B" (.ref b) ∧ Fld Z h a "java/lang/String" "coder" "B" (.int (own_cod cs)) ∧ own_Ary Z h b .byte (own_ints (own_enc cs))
theorem own_Str.ext {Z : State} {h h' : Heap} {a : Addr} {cs : List Int32} (F : own_Str Z h a cs) (E : Ext h h') : own_Str Z h' a cs := by
  obtain ⟨h1, h2, h3, b, h4, h5, h6⟩ := F
  exact ⟨h1.ext E, h2, h3, b, h4.ext E, h5.ext E, h6.ext E⟩
theorem own_Str.keepO {Z : State} {h h' : Heap} {a t : Addr} {cs : List Int32} {C : String} {kk : Nat} {a0 : Array Value} (F : own_Str Z h a cs) (k : Keep h h' [t]) (E : Exa Z h t C) (hC : C ≠ "java/lang/String") (wi : (Jvm.Cond.instantiable C kk).before a0 Z = true) : own_Str Z h' a cs := by
  obtain ⟨h1, h2, h3, b, h4, h5, h6⟩ := F
  have n1 : a ∉ [t] := ninS (ne_exa h1 E (Ne.symm hC)) nin0
  have n2 : b ∉ [t] := ninS (fun q => by obtain ⟨c, A, -⟩ := h6; exact ne_arr E wi A q.symm) nin0
  exact ⟨h1.keep k, h2, h3, b, h4.keep k n1, h5.keep k n1, h6.keep k n2⟩
theorem own_Str.lt {Z : State} {h : Heap} {a : Addr} {cs : List Int32} (F : own_Str Z h a cs) : a < h.size := F.1.lt
theorem own_ext_keep {h0 h h' : Heap} {ws : List Addr} (E : Ext h0 h) (k : Keep h h' ws) (q : ∀ x ∈ ws, h0.size ≤ x) : Ext h0 h' :=
  ⟨Nat.le_trans E.1 k.1, fun x c z => k.2.1 x c (E.2 x c z) fun m => by
    have := q x m
    have := (Array.getElem?_eq_some_iff.mp z).1
    omega⟩
theorem own_lit (n : Nat) (q : n < 2 ^ 31) : (n.toInt32).toInt = n := Int32.toInt_ofNat_small q
theorem own_add {x y : Int32} {a b : Int} (hx : x.toInt = a) (hy : y.toInt = b) (h1 : -2147483648 ≤ a + b) (h2 : a + b < 2147483648) : (x + y).toInt = a + b := by
  have := c_iadd x y
  have := rng32 (x + y)
  omega
theorem own_sub {x y : Int32} {a b : Int} (hx : x.toInt = a) (hy : y.toInt = b) (h1 : -2147483648 ≤ a - b) (h2 : a - b < 2147483648) : (x - y).toInt = a - b := by
  have := c_isub x y
  have := rng32 (x - y)
  omega
theorem own_setmid {α : Type} (L : List α) (z v : α) (k : Nat) : (L ++ List.replicate (k + 1) z).set L.length v = (L ++ [v]) ++ List.replicate k z := by
  simp [List.replicate_succ]
theorem own_bt_nar (c : Int32) : nar .byte (c.toInt8.toInt32) = own_bt c := by
  show (c.toInt8.toInt32).toInt8.toInt32 = c.toInt8.toInt32
  simp
theorem own_lat_get {cs : List Int32} (q : own_lat cs = true) {i : Nat} {c : Int32} (hc : cs[i]? = some c) : c.toInt < 256 := by
  have := List.all_eq_true.mp q c (List.mem_of_getElem? hc)
  simpa using this
theorem own_lat_snoc {cs : List Int32} {i : Nat} {c : Int32} (hc : cs[i]? = some c) (q : own_lat (cs.take i) = true) (hl : c.toInt < 256) : own_lat (cs.take (i + 1)) = true := by
  have e : cs.take (i + 1) = cs.take i ++ [c] := by rw [List.take_add_one, hc]; rfl
  rw [e]
  simp only [own_lat, List.all_append, Bool.and_eq_true] at q ⊢
  exact ⟨q, by simp [hl]⟩
theorem own_lat_no {cs : List Int32} {i : Nat} {c : Int32} (hc : cs[i]? = some c) (hl : ¬ c.toInt < 256) : own_lat cs = false := by
  cases q : own_lat cs
  · rfl
  · exact absurd (own_lat_get q hc) hl
theorem own_cod_byte (cs : List Int32) : narrow .byte (.int (own_cod cs)) = .int (own_cod cs) ∧ fits .byte (.int (own_cod cs)) = true := by
  unfold own_cod; split <;> exact ⟨rfl, rfl⟩
theorem own_enc_lat {cs : List Int32} (q : own_lat cs = true) : own_enc cs = cs.map own_bt ∧ own_cod cs = 0 := by simp [own_enc, own_cod, q]
theorem own_enc_utf {cs : List Int32} (q : own_lat cs = false) : own_enc cs = own_two cs ∧ own_cod cs = 1 := by simp [own_enc, own_cod, q]
theorem own_two_len (cs : List Int32) : (own_two cs).length = 2 * cs.length := by
  induction cs with
  | nil => rfl
  | cons c r ih => simp [own_two] at ih ⊢; omega
theorem own_ushr31 {x : Int32} (q : x.toInt < 0) : XT.ushr x 31 = 1 := by
  apply Int32.toInt_inj.mp
  have := c_iushr x 31 31 (by decide) (by decide)
  have r := rng32 x
  have e : (XT.ushr x 31).toInt = (x.toInt % 4294967296) / (2 ^ 31 : Nat) := this
  rw [e]
  have : (1 : Int32).toInt = 1 := rfl
  omega
theorem own_shl1 {x : Int32} {N : Nat} (hx : x.toInt = N) (hN : N < 2 ^ 29) : (x <<< ((1 : Int32) &&& 31)).toInt = ((2 * N : Nat) : Int) := by
  have := c_ishl x 1 1 (by decide)
  have := rng32 (x <<< ((1 : Int32) &&& 31))
  omega
theorem own_shr0 (x : Int32) : x >>> ((0 : Int32) &&& 31) = x := by
  apply Int32.toInt_inj.mp
  have := c_ishr x 0 0 (by decide)
  rw [this]; simp
theorem own_shl0 (x : Int32) : x <<< ((0 : Int32) &&& 31) = x := by
  apply Int32.toInt_inj.mp
  have := c_ishl x 0 0 (by decide)
  have := rng32 (x <<< ((0 : Int32) &&& 31))
  have := rng32 x
  omega
theorem own_i2c_id {x : Int32} (h0 : 0 ≤ x.toInt) (h1 : x.toInt < 65536) : x.toUInt32.toUInt16.toUInt32.toInt32 = x := by
  apply Int32.toInt_inj.mp
  have := c_i2c x
  omega
theorem own_join {c : Int32} (h0 : 0 ≤ c.toInt) (h1 : c.toInt < 65536) : ((own_bt c &&& 255) <<< ((0 : Int32) &&& 31)) ||| ((own_hb c &&& 255) <<< ((8 : Int32) &&& 31)) = c := by
  rw [own_shl0]
  have b1 := c_mask (own_bt c) 255 8 (by decide) (by decide)
  have b2 := (c_i2b c).1
  have s1 := c_ishr c 8 8 (by decide)
  have b3 := c_mask (own_hb c) 255 8 (by decide) (by decide)
  have b4 := (c_i2b (c >>> ((8 : Int32) &&& 31))).1
  have s2 := c_ishl (own_hb c &&& 255) 8 8 (by decide)
  have r2 := rng32 ((own_hb c &&& 255) <<< ((8 : Int32) &&& 31))
  have e1 : (own_bt c &&& 255).toInt = c.toInt % 256 := by
    have : (own_bt c).toInt = c.toInt8.toInt32.toInt := rfl
    omega
  have e2 : (own_hb c &&& 255).toInt = c.toInt / 256 := by
    have : (own_hb c).toInt = (c >>> ((8 : Int32) &&& 31)).toInt8.toInt32.toInt := rfl
    omega
  have e3 : ((own_hb c &&& 255) <<< ((8 : Int32) &&& 31)).toInt = c.toInt / 256 * 256 := by omega
  have o := c_or ((own_hb c &&& 255) <<< ((8 : Int32) &&& 31)) (own_bt c &&& 255) 8 (by decide) 256 (by decide) (by omega) (by omega) (by omega)
  rw [Int32.or_comm] at o
  apply Int32.toInt_inj.mp
  have r := rng32 ((own_bt c &&& 255) ||| (own_hb c &&& 255) <<< ((8 : Int32) &&& 31))
  omega
theorem own_two_get {cs : List Int32} : ∀ {i : Nat} {c : Int32}, cs[i]? = some c → (own_two cs)[2 * i]? = some (own_bt c) ∧ (own_two cs)[2 * i + 1]? = some (own_hb c) := by
  induction cs with
  | nil => intro i c hc; simp at hc
  | cons d r ih =>
    intro i c hc
    have e : own_two (d :: r) = own_bt d :: own_hb d :: own_two r := rfl
    cases i with
    | zero => simp at hc; subst hc; rw [e]; exact ⟨rfl, rfl⟩
    | succ i =>
      simp at hc
      have := ih hc
      rw [e, show 2 * (i + 1) = 2 * i + 2 by omega]
      exact ⟨by simpa using this.1, by simpa using this.2⟩
theorem own_settwo {α : Type} (L : List α) (z x y : α) (k : Nat) : ((L ++ List.replicate (2 * (k + 1)) z).set L.length x).set (L.length + 1) y = (L ++ [x, y]) ++ List.replicate (2 * k) z := by
  have e : List.replicate (2 * (k + 1)) z = z :: z :: List.replicate (2 * k) z := by
    rw [show 2 * (k + 1) = 2 * k + 1 + 1 by omega, List.replicate_succ, List.replicate_succ]
  rw [e]
  induction L with
  | nil => rfl
  | cons a r ih => simpa using ih
theorem own_two_snoc {cs : List Int32} {i : Nat} {c : Int32} (hc : cs[i]? = some c) : own_two (cs.take (i + 1)) = own_two (cs.take i) ++ [own_bt c, own_hb c] := by
  have e : cs.take (i + 1) = cs.take i ++ [c] := by rw [List.take_add_one, hc]; rfl
  rw [e]; simp [own_two]
theorem d_cp5_0 : decode jdk_52_method_21_code 0 = .ok (.iconst 0, 1) := by decide +kernel
theorem d_cp5_1 : decode jdk_52_method_21_code 1 = .ok (.istore 5, 2) := by decide +kernel
theorem d_cp5_3 : decode jdk_52_method_21_code 3 = .ok (.iload 5, 2) := by decide +kernel
theorem d_cp5_5 : decode jdk_52_method_21_code 5 = .ok (.iload 4, 2) := by decide +kernel
theorem d_cp5_7 : decode jdk_52_method_21_code 7 = .ok (.if_icmp .ge 37, 3) := by decide +kernel
theorem d_cp5_10 : decode jdk_52_method_21_code 10 = .ok (.aload_n 0, 1) := by decide +kernel
theorem d_cp5_11 : decode jdk_52_method_21_code 11 = .ok (.iload_n 1, 1) := by decide +kernel
theorem d_cp5_12 : decode jdk_52_method_21_code 12 = .ok (.caload, 1) := by decide +kernel
theorem d_cp5_13 : decode jdk_52_method_21_code 13 = .ok (.istore 6, 2) := by decide +kernel
theorem d_cp5_15 : decode jdk_52_method_21_code 15 = .ok (.iload 6, 2) := by decide +kernel
theorem d_cp5_17 : decode jdk_52_method_21_code 17 = .ok (.sipush 255, 3) := by decide +kernel
theorem d_cp5_20 : decode jdk_52_method_21_code 20 = .ok (.if_icmp .le 6, 3) := by decide +kernel
theorem d_cp5_23 : decode jdk_52_method_21_code 23 = .ok (.iload 5, 2) := by decide +kernel
theorem d_cp5_25 : decode jdk_52_method_21_code 25 = .ok (.ireturn, 1) := by decide +kernel
theorem d_cp5_26 : decode jdk_52_method_21_code 26 = .ok (.aload_n 2, 1) := by decide +kernel
theorem d_cp5_27 : decode jdk_52_method_21_code 27 = .ok (.iload_n 3, 1) := by decide +kernel
theorem d_cp5_28 : decode jdk_52_method_21_code 28 = .ok (.iload 6, 2) := by decide +kernel
theorem d_cp5_30 : decode jdk_52_method_21_code 30 = .ok (.i2b, 1) := by decide +kernel
theorem d_cp5_31 : decode jdk_52_method_21_code 31 = .ok (.bastore, 1) := by decide +kernel
theorem d_cp5_32 : decode jdk_52_method_21_code 32 = .ok (.iinc 1 1, 3) := by decide +kernel
theorem d_cp5_35 : decode jdk_52_method_21_code 35 = .ok (.iinc 3 1, 3) := by decide +kernel
theorem d_cp5_38 : decode jdk_52_method_21_code 38 = .ok (.iinc 5 1, 3) := by decide +kernel
theorem d_cp5_41 : decode jdk_52_method_21_code 41 = .ok (.goto (-38), 3) := by decide +kernel
theorem d_cp5_44 : decode jdk_52_method_21_code 44 = .ok (.iload 4, 2) := by decide +kernel
theorem d_cp5_46 : decode jdk_52_method_21_code 46 = .ok (.ireturn, 1) := by decide +kernel
abbrev M_cp5 : own_Mi := ((⟨"java/lang/StringUTF16", "compress", "([CI[BII)I"⟩ : MethodName), jdk_52_method_21_code, 7, (Option.some FieldType.int), ({ frames := 0, cells := 0, slots := 0, locals := 0 } : Room))
theorem pn_cp5 : plainFor (own_Mi.y M_cp5) = true := plainFor_of_name (by first | (simp [plainName, overriddenIn]; done) | decide +kernel)
def Q_cp5 (K : own_Cx) (b : Addr) (n : Int32) (cs : List Int32) (h : Heap) : own_Q := own_ret fun w h' _ => ∃ r : Int32, w = .int r ∧ Keep h h' [b] ∧ ((own_lat cs = true ∧ r = n ∧ own_Ary K.Z h' b .byte (own_ints (cs.map own_bt))) ∨ (own_lat cs = false ∧ ∃ (i : Nat) (c : Int32), r.toInt = i ∧ cs[i]? = some c ∧ 256 ≤ c.toInt))
set_option maxRecDepth 65536 in
set_option maxHeartbeats 40000000 in
theorem c_cp5 (K : own_Cx) (a0 : Array Value) (hw : ∀ d ∈ tables_1, d.before a0 K.Z = true) (a b : Addr) (n : Int32) (cs : List Int32) (h : Heap) (hn : n.toInt = cs.length) (hcs : own_Chs cs) (A : own_Ary K.Z h a .char (own_ints cs)) (Bq : own_Ary K.Z h b .byte (List.replicate cs.length (.int 0))) (hab : a ≠ b) :
    own_Met K M_cp5 #[.ref a, .int 0, .ref b, .int 0, .int n] [b] h (Q_cp5 K b n cs h) := by
  have hlen := rng32 n
  refine own_met_5_2 (M := M_cp5) pn_cp5 rfl (by first | rfl | exact own_cat (by assumption)) (by first | rfl | exact own_cat (by assumption)) (by first | rfl | exact own_cat (by assumption)) (by first | rfl | exact own_cat (by assumption)) (by first | rfl | exact own_cat (by assumption)) ?_
  refine own_iconst (v := (0 : Int32)) (pc' := 1) rfl d_cp5_0 rfl ?_
  refine own_istore_5 (pc' := 3) rfl d_cp5_1 (by first | exact One.u | exact One.val rfl | assumption | exact One.val (by assumption)) ?_
  suffices key : ∀ (k i : Nat) (j : Int32) (h1 : Heap) (o : Slot), i + k = cs.length → j.toInt = i → One o → Keep h h1 [b] → own_lat (cs.take i) = true → own_Ary K.Z h1 b .byte (own_ints ((cs.take i).map own_bt) ++ List.replicate k (.int 0)) → own_WP K M_cp5 (Q_cp5 K b n cs h) 3 [.val (.ref a), .val (.int j), .val (.ref b), .val (.int j), .val (.int n), .val (.int j), o] [] [b] h1 0 0 from
    key cs.length 0 0 h .unset (by simp) rfl One.u (Keep.refl _ _) (by simp [own_lat]) (by simpa using Bq)
  intro k
  induction k with
  | zero =>
    intro i j h1 o hik hj ho hk hl hA
    refine own_iload (pc' := 5) rfl d_cp5_3 rfl ?_
    refine own_iload (pc' := 7) rfl d_cp5_5 rfl ?_
    refine own_icmpge (pcT := 44) (pcF := 10) d_cp5_7 (by decide) (by decide) rfl (fun q => ?_) (fun q => ?_)
    · skip
      refine own_iload (pc' := 46) rfl d_cp5_44 rfl ?_
      refine own_ireturn rfl d_cp5_46 rfl rfl ?_
      have e : cs.take i = cs := List.take_of_length_le (by omega)
      rw [e] at hl hA
      exact ⟨n, rfl, hk, Or.inl ⟨hl, rfl, by simpa using hA⟩⟩
    · rw [Int32.lt_iff_toInt_lt] at q
      omega
  | succ k ih =>
    intro i j h1 o hik hj ho hk hl hA
    have hi : i < cs.length := by omega
    obtain ⟨c, hc⟩ : ∃ c, cs[i]? = some c := ⟨cs[i], by simp [hi]⟩
    have hcr := hcs c (List.mem_of_getElem? hc)
    refine own_iload (pc' := 5) rfl d_cp5_3 rfl ?_
    refine own_iload (pc' := 7) rfl d_cp5_5 rfl ?_
    refine own_icmpge (pcT := 44) (pcF := 10) d_cp5_7 (by decide) (by decide) rfl (fun q => ?_) (fun q => ?_)
    · exact absurd (by rw [Int32.lt_iff_toInt_lt]; omega) q
    · skip
      refine own_aload_n (pc' := 11) rfl d_cp5_10 rfl (by first | rfl | assumption) ?_
      refine own_iload_n (pc' := 12) rfl d_cp5_11 rfl ?_
      refine own_caload (pc' := 13) rfl d_cp5_12 (A.keep hk (ninS hab nin0)) (i := i) hj (by first | exact own_ints_get hc | exact own_ints_getM hc) ?_
      refine own_istore_6 (pc' := 15) rfl d_cp5_13 (by first | exact One.u | exact One.val rfl | assumption | exact One.val (by assumption)) ?_
      refine own_iload (pc' := 17) rfl d_cp5_15 rfl ?_
      refine own_sipush (v := (255 : Int32)) (pc' := 20) rfl d_cp5_17 rfl ?_
      refine own_icmple (pcT := 26) (pcF := 23) d_cp5_20 (by decide) (by decide) rfl (fun q2 => ?_) (fun q2 => ?_)
      · have hc2 : c.toInt < 256 := by
          rw [Int32.lt_iff_toInt_lt] at q2
          have : (255 : Int32).toInt = 255 := rfl
          omega
        refine own_aload_n (pc' := 27) rfl d_cp5_26 rfl (by first | rfl | assumption) ?_
        refine own_iload_n (pc' := 28) rfl d_cp5_27 rfl ?_
        refine own_iload (pc' := 30) rfl d_cp5_28 rfl ?_
        refine own_i2b (pc' := 31) rfl d_cp5_30 ?_
        refine own_bastore (pc' := 32) rfl d_cp5_31 hA (i := i) hj (by simp; omega) (own_bt_nar c) (by simp) ?_
        intro h2 k2 hA2
        refine own_iinc_1 (z := (1 : Int32)) (pc' := 35) rfl d_cp5_32 rfl ?_
        refine own_iinc_3 (z := (1 : Int32)) (pc' := 38) rfl d_cp5_35 rfl ?_
        refine own_iinc_5 (z := (1 : Int32)) (pc' := 41) rfl d_cp5_38 rfl ?_
        refine own_goto (pc' := 3) d_cp5_41 (by decide) (by decide) ?_
        have e1 : i = (own_ints ((cs.take i).map own_bt)).length := by simp; omega
        have e2 : own_ints ((cs.take (i + 1)).map own_bt) = own_ints ((cs.take i).map own_bt) ++ [.int (own_bt c)] := by
          have e : cs.take (i + 1) = cs.take i ++ [c] := by rw [List.take_add_one, hc]; rfl
          rw [e]; simp [own_ints]
        refine ih (i + 1) (j + 1) h2 _ (by omega) (by rw [own_add hj (by rfl : (1 : Int32).toInt = 1)] <;> omega) (One.val rfl) (hk.trans k2 (fun x hx => Or.inl hx)) (own_lat_snoc hc hl hc2) ?_
        rw [e2, ← own_setmid, ← e1]
        exact hA2
      · skip
        refine own_iload (pc' := 25) rfl d_cp5_23 rfl ?_
        refine own_ireturn rfl d_cp5_25 rfl rfl ?_
        have hc2 : 256 ≤ c.toInt := by
          rw [Int32.lt_iff_toInt_lt] at q2
          have : (255 : Int32).toInt = 255 := rfl
          omega
        exact ⟨j, rfl, hk, Or.inr ⟨own_lat_no hc (by omega), i, c, hj, hc, hc2⟩⟩
theorem d_cfa_0 : decode jdk_52_method_15_code 0 = .ok (.iload_n 1, 1) := by decide +kernel
theorem d_cfa_1 : decode jdk_52_method_15_code 1 = .ok (.aload_n 0, 1) := by decide +kernel
theorem d_cfa_2 : decode jdk_52_method_15_code 2 = .ok (.arraylength, 1) := by decide +kernel
theorem d_cfa_3 : decode jdk_52_method_15_code 3 = .ok (.isub, 1) := by decide +kernel
theorem d_cfa_4 : decode jdk_52_method_15_code 4 = .ok (.bipush 31, 2) := by decide +kernel
theorem d_cfa_6 : decode jdk_52_method_15_code 6 = .ok (.iushr, 1) := by decide +kernel
theorem d_cfa_7 : decode jdk_52_method_15_code 7 = .ok (.i2b, 1) := by decide +kernel
theorem d_cfa_8 : decode jdk_52_method_15_code 8 = .ok (.ireturn, 1) := by decide +kernel
abbrev M_cfa : own_Mi := ((⟨"java/lang/StringUTF16", "coderFromArrayLen", "([BI)B"⟩ : MethodName), jdk_52_method_15_code, 2, (Option.some FieldType.byte), ({ frames := 0, cells := 0, slots := 0, locals := 0 } : Room))
theorem pn_cfa : plainFor (own_Mi.y M_cfa) = true := plainFor_of_name (by first | (simp [plainName, overriddenIn]; done) | decide +kernel)
set_option maxRecDepth 65536 in
set_option maxHeartbeats 40000000 in
theorem c_cfa (K : own_Cx) (a0 : Array Value) (hw : ∀ d ∈ tables_1, d.before a0 K.Z = true) (b : Addr) (n : Int32) (cs : List Int32) (h : Heap) (hn : n.toInt = cs.length) (hl : cs.length < 2 ^ 30) (hp : 0 < cs.length) (Bq : own_Ary K.Z h b .byte (own_ints (own_enc cs))) :
    own_Met K M_cfa #[.ref b, .int n] [] h (own_ret fun w h' _ => w = .int (own_cod cs) ∧ h' = h) := by
  cases ql : own_lat cs
  · have hz : ((2 * cs.length).toInt32).toInt = ((2 * cs.length : Nat) : Int) := own_lit _ (by omega)
    refine own_met_2_0 (M := M_cfa) pn_cfa rfl (by first | rfl | exact own_cat (by assumption)) (by first | rfl | exact own_cat (by assumption)) ?_
    refine own_iload_n (pc' := 1) rfl d_cfa_0 rfl ?_
    refine own_aload_n (pc' := 2) rfl d_cfa_1 rfl (by first | rfl | assumption) ?_
    refine own_arrlen (z := (2 * cs.length).toInt32) (pc' := 3) rfl d_cfa_2 Bq (by rw [hz]; simp [(own_enc_utf ql).1, own_two_len]) ?_
    refine own_isub (pc' := 4) rfl d_cfa_3 ?_
    refine own_bipush (v := (31 : Int32)) (pc' := 6) rfl d_cfa_4 rfl ?_
    refine own_iushr (pc' := 7) rfl d_cfa_6 ?_
    refine own_i2b (pc' := 8) rfl d_cfa_7 ?_
    have e : XT.ushr (n - (2 * cs.length).toInt32) 31 = 1 := own_ushr31 (by rw [own_sub hn hz] <;> omega)
    rw [e]
    refine own_ireturnN (t := .byte) rfl (by simp) (z' := 1) rfl d_cfa_8 rfl rfl ?_
    exact ⟨by rw [(own_enc_utf ql).2], rfl⟩
  · skip
    refine own_met_2_0 (M := M_cfa) pn_cfa rfl (by first | rfl | exact own_cat (by assumption)) (by first | rfl | exact own_cat (by assumption)) ?_
    refine own_iload_n (pc' := 1) rfl d_cfa_0 rfl ?_
    refine own_aload_n (pc' := 2) rfl d_cfa_1 rfl (by first | rfl | assumption) ?_
    refine own_arrlen (z := n) (pc' := 3) rfl d_cfa_2 Bq (by rw [hn]; simp [(own_enc_lat ql).1]) ?_
    refine own_isub (pc' := 4) rfl d_cfa_3 ?_
    refine own_bipush (v := (31 : Int32)) (pc' := 6) rfl d_cfa_4 rfl ?_
    refine own_iushr (pc' := 7) rfl d_cfa_6 ?_
    refine own_i2b (pc' := 8) rfl d_cfa_7 ?_
    have e : XT.ushr (n - n) 31 = 0 := by rw [Int32.sub_self]; decide
    rw [e]
    refine own_ireturnN (t := .byte) rfl (by simp) (z' := 0) rfl d_cfa_8 rfl rfl ?_
    exact ⟨by rw [(own_enc_lat ql).2], rfl⟩
abbrev own_uC : String := "java/lang/StringUTF16"
def own_U16 (K : own_Cx) : Prop := Sta K.Z K.Z.heap own_uC "$assertionsDisabled" "Z" (.int 1) ∧ Sta K.Z K.Z.heap own_uC "HI_BYTE_SHIFT" "I" (.int 0) ∧ Sta K.Z K.Z.heap own_uC "LO_BYTE_SHIFT" "I" (.int 8)
theorem d_nbl_0 : decode jdk_52_method_3_code 0 = .ok (.iload_n 0, 1) := by decide +kernel
theorem d_nbl_1 : decode jdk_52_method_3_code 1 = .ok (.ifCond .ge 11, 3) := by decide +kernel
theorem d_nbl_12 : decode jdk_52_method_3_code 12 = .ok (.iload_n 0, 1) := by decide +kernel
theorem d_nbl_13 : decode jdk_52_method_3_code 13 = .ok (.ldc 20, 2) := by decide +kernel
theorem d_nbl_15 : decode jdk_52_method_3_code 15 = .ok (.if_icmp .lt 40, 3) := by decide +kernel
theorem d_nbl_55 : decode jdk_52_method_3_code 55 = .ok (.iload_n 0, 1) := by decide +kernel
theorem d_nbl_56 : decode jdk_52_method_3_code 56 = .ok (.iconst 1, 1) := by decide +kernel
theorem d_nbl_57 : decode jdk_52_method_3_code 57 = .ok (.ishl, 1) := by decide +kernel
theorem d_nbl_58 : decode jdk_52_method_3_code 58 = .ok (.ireturn, 1) := by decide +kernel
abbrev M_nbl : own_Mi := ((⟨"java/lang/StringUTF16", "newBytesLength", "(I)I"⟩ : MethodName), jdk_52_method_3_code, 1, (Option.some FieldType.int), ({ frames := 0, cells := 0, slots := 0, locals := 0 } : Room))
theorem pn_nbl : plainFor (own_Mi.y M_nbl) = true := plainFor_of_name (by first | (simp [plainName, overriddenIn]; done) | decide +kernel)
set_option maxRecDepth 65536 in
set_option maxHeartbeats 40000000 in
theorem c_nbl (K : own_Cx) (a0 : Array Value) (hw : ∀ d ∈ tables_1, d.before a0 K.Z = true) (n : Int32) (N : Nat) (h : Heap) (hn : n.toInt = N) (hN : N < 2 ^ 29) :
    own_Met K M_nbl #[.int n] [] h (own_ret fun w h' _ => ∃ r : Int32, w = .int r ∧ r.toInt = ((2 * N : Nat) : Int) ∧ h' = h) := by
  refine own_met_1_0 (M := M_nbl) pn_nbl rfl (by first | rfl | exact own_cat (by assumption)) ?_
  refine own_iload_n (pc' := 1) rfl d_nbl_0 rfl ?_
  refine own_ifge (pcT := 12) (pcF := 4) d_nbl_1 (by decide) (by decide) rfl (fun q => ?_) (fun q => ?_)
  · skip
    refine own_iload_n (pc' := 13) rfl d_nbl_12 rfl ?_
    refine own_ldcI (pc' := 15) rfl d_nbl_13 (tw_225 hw) ?_
    refine own_icmplt (pcT := 55) (pcF := 18) d_nbl_15 (by decide) (by decide) rfl (fun q2 => ?_) (fun q2 => ?_)
    · skip
      refine own_iload_n (pc' := 56) rfl d_nbl_55 rfl ?_
      refine own_iconst (v := (1 : Int32)) (pc' := 57) rfl d_nbl_56 rfl ?_
      refine own_ishl (pc' := 58) rfl d_nbl_57 ?_
      refine own_ireturn rfl d_nbl_58 rfl rfl ?_
      exact ⟨_, rfl, own_shl1 hn hN, rfl⟩
    · exfalso
      rw [Int32.lt_iff_toInt_lt] at q2
      have : (1073741823 : Int32).toInt = 1073741823 := rfl
      omega
  · exfalso
    rw [Int32.lt_iff_toInt_lt] at q
    have : (0 : Int32).toInt = 0 := rfl
    omega
theorem d_nbf_0 : decode jdk_52_method_2_code 0 = .ok (.iload_n 0, 1) := by decide +kernel
theorem d_nbf_1 : decode jdk_52_method_2_code 1 = .ok (.invokestatic 11, 3) := by decide +kernel
theorem d_nbf_4 : decode jdk_52_method_2_code 4 = .ok (.newarray .byte, 2) := by decide +kernel
theorem d_nbf_6 : decode jdk_52_method_2_code 6 = .ok (.areturn, 1) := by decide +kernel
abbrev M_nbf : own_Mi := ((⟨"java/lang/StringUTF16", "newBytesFor", "(I)[B"⟩ : MethodName), jdk_52_method_2_code, 1, (Option.some (FieldType.array FieldType.byte)), ({ frames := 1, cells := 1, slots := 12, locals := 12 } : Room))
theorem pn_nbf : plainFor (own_Mi.y M_nbf) = true := plainFor_of_name (by first | (simp [plainName, overriddenIn]; done) | decide +kernel)
set_option maxRecDepth 65536 in
set_option maxHeartbeats 40000000 in
theorem c_nbf (K : own_Cx) (a0 : Array Value) (hw : ∀ d ∈ tables_1, d.before a0 K.Z = true) (n : Int32) (N : Nat) (h : Heap) (hn : n.toInt = N) (hN : N ≤ 6) :
    own_Met K M_nbf #[.int n] [] h (own_ret fun w h' xs => ∃ b : Addr, w = .ref b ∧ Ext h h' ∧ h.size ≤ b ∧ b ∈ xs ∧ own_Ary K.Z h' b .byte (List.replicate (2 * N) (.int 0))) := by
  refine own_met_1_0 (M := M_nbf) pn_nbf rfl (by first | rfl | exact own_cat (by assumption)) ?_
  refine own_iload_n (pc' := 1) rfl d_nbf_0 rfl ?_
  refine own_static1v (M' := M_nbl) d_nbf_1 (pc' := 4) rfl (tw_222 hw) (tw_223 hw) (tw_21 hw) (tw_224 hw) (by decide) rfl (own_lenOf pd_0 rfl) rfl rfl rfl rfl (c_nbl K a0 hw n N h hn (by omega)) (by simp) ?_
  rintro w h1 xs ⟨r, rfl, hr, rfl⟩
  refine own_newarray (pc' := 6) rfl d_nbf_4 (tw_23 hw) (N := (2 * N)) (cap := 12) hr (by omega) rfl rfl rfl ?_
  intro b h2 eb E2 B2
  refine own_areturn rfl rfl (by first | rfl | assumption) d_nbf_6 rfl rfl ?_
  exact ⟨b, rfl, E2, by omega, by simp, B2⟩
theorem d_pch_0 : decode jdk_52_method_4_code 0 = .ok (.getstatic 44, 3) := by decide +kernel
theorem d_pch_3 : decode jdk_52_method_4_code 3 = .ok (.ifCond .ne 25, 3) := by decide +kernel
theorem d_pch_28 : decode jdk_52_method_4_code 28 = .ok (.iload_n 1, 1) := by decide +kernel
theorem d_pch_29 : decode jdk_52_method_4_code 29 = .ok (.iconst 1, 1) := by decide +kernel
theorem d_pch_30 : decode jdk_52_method_4_code 30 = .ok (.ishl, 1) := by decide +kernel
theorem d_pch_31 : decode jdk_52_method_4_code 31 = .ok (.istore_n 1, 1) := by decide +kernel
theorem d_pch_32 : decode jdk_52_method_4_code 32 = .ok (.aload_n 0, 1) := by decide +kernel
theorem d_pch_33 : decode jdk_52_method_4_code 33 = .ok (.iload_n 1, 1) := by decide +kernel
theorem d_pch_34 : decode jdk_52_method_4_code 34 = .ok (.iinc 1 1, 3) := by decide +kernel
theorem d_pch_37 : decode jdk_52_method_4_code 37 = .ok (.iload_n 2, 1) := by decide +kernel
theorem d_pch_38 : decode jdk_52_method_4_code 38 = .ok (.getstatic 59, 3) := by decide +kernel
theorem d_pch_41 : decode jdk_52_method_4_code 41 = .ok (.ishr, 1) := by decide +kernel
theorem d_pch_42 : decode jdk_52_method_4_code 42 = .ok (.i2b, 1) := by decide +kernel
theorem d_pch_43 : decode jdk_52_method_4_code 43 = .ok (.bastore, 1) := by decide +kernel
theorem d_pch_44 : decode jdk_52_method_4_code 44 = .ok (.aload_n 0, 1) := by decide +kernel
theorem d_pch_45 : decode jdk_52_method_4_code 45 = .ok (.iload_n 1, 1) := by decide +kernel
theorem d_pch_46 : decode jdk_52_method_4_code 46 = .ok (.iload_n 2, 1) := by decide +kernel
theorem d_pch_47 : decode jdk_52_method_4_code 47 = .ok (.getstatic 63, 3) := by decide +kernel
theorem d_pch_50 : decode jdk_52_method_4_code 50 = .ok (.ishr, 1) := by decide +kernel
theorem d_pch_51 : decode jdk_52_method_4_code 51 = .ok (.i2b, 1) := by decide +kernel
theorem d_pch_52 : decode jdk_52_method_4_code 52 = .ok (.bastore, 1) := by decide +kernel
theorem d_pch_53 : decode jdk_52_method_4_code 53 = .ok (.return_, 1) := by decide +kernel
abbrev M_pch : own_Mi := ((⟨"java/lang/StringUTF16", "putChar", "([BII)V"⟩ : MethodName), jdk_52_method_4_code, 3, (Option.none : Option FieldType), ({ frames := 0, cells := 0, slots := 0, locals := 0 } : Room))
theorem pn_pch : plainFor (own_Mi.y M_pch) = true := plainFor_of_name (by first | (simp [plainName, overriddenIn]; done) | decide +kernel)
set_option maxRecDepth 65536 in
set_option maxHeartbeats 40000000 in
theorem c_pch (K : own_Cx) (a0 : Array Value) (hw : ∀ d ∈ tables_1, d.before a0 K.Z = true) (hU : own_U16 K) (b : Addr) (i c : Int32) (I : Nat) (vs : List Value) (h : Heap) (hi : i.toInt = I) (hI : 2 * I + 1 < vs.length) (hI2 : I < 2 ^ 29) (B : own_Ary K.Z h b .byte vs) :
    own_Met K M_pch #[.ref b, .int i, .int c] [b] h (own_void fun h' _ => Keep h h' [b] ∧ own_Ary K.Z h' b .byte ((vs.set (2 * I) (.int (own_bt c))).set (2 * I + 1) (.int (own_hb c)))) := by
  obtain ⟨u1, u2, u3⟩ := hU
  have hj := own_shl1 hi hI2
  refine own_met_3_0 (M := M_pch) pn_pch rfl (by first | rfl | exact own_cat (by assumption)) (by first | rfl | exact own_cat (by assumption)) (by first | rfl | exact own_cat (by assumption)) ?_
  refine own_getS (pc' := 3) rfl d_pch_0 (tw_229 hw) Via.refl (by assumption) ?_
  refine own_ifne (pcT := 28) (pcF := 6) d_pch_3 (by decide) (by decide) rfl (fun q => ?_) (fun q => ?_)
  · skip
    refine own_iload_n (pc' := 29) rfl d_pch_28 rfl ?_
    refine own_iconst (v := (1 : Int32)) (pc' := 30) rfl d_pch_29 rfl ?_
    refine own_ishl (pc' := 31) rfl d_pch_30 ?_
    refine own_istore_n1 (pc' := 32) rfl d_pch_31 (by first | exact One.u | exact One.val rfl | assumption | exact One.val (by assumption)) ?_
    refine own_aload_n (pc' := 33) rfl d_pch_32 rfl (by first | rfl | assumption) ?_
    refine own_iload_n (pc' := 34) rfl d_pch_33 rfl ?_
    refine own_iinc_1 (z := (1 : Int32)) (pc' := 37) rfl d_pch_34 rfl ?_
    refine own_iload_n (pc' := 38) rfl d_pch_37 rfl ?_
    refine own_getS (pc' := 41) rfl d_pch_38 (tw_230 hw) Via.refl (by assumption) ?_
    refine own_ishr (pc' := 42) rfl d_pch_41 ?_
    refine own_i2b (pc' := 43) rfl d_pch_42 ?_
    refine own_bastore (pc' := 44) rfl d_pch_43 B (i := (2 * I)) hj (by omega) ((congrArg (fun z : Int32 => nar .byte (z.toInt8.toInt32)) (own_shr0 c)).trans (own_bt_nar c)) (by simp) ?_
    intro h1 k1 B1
    refine own_aload_n (pc' := 45) rfl d_pch_44 rfl (by first | rfl | assumption) ?_
    refine own_iload_n (pc' := 46) rfl d_pch_45 rfl ?_
    refine own_iload_n (pc' := 47) rfl d_pch_46 rfl ?_
    refine own_getS (pc' := 50) rfl d_pch_47 (tw_231 hw) Via.refl (by assumption) ?_
    refine own_ishr (pc' := 51) rfl d_pch_50 ?_
    refine own_i2b (pc' := 52) rfl d_pch_51 ?_
    refine own_bastore (pc' := 53) rfl d_pch_52 B1 (i := (2 * I + 1)) (by rw [own_add hj (by rfl : (1 : Int32).toInt = 1)] <;> omega) (by simpa using hI) (own_bt_nar (c >>> ((8 : Int32) &&& 31))) (by simp) ?_
    intro h2 k2 B2
    refine own_return rfl d_pch_53 rfl rfl ?_
    exact ⟨k1.trans k2 (fun x hx => Or.inl hx), B2⟩
  · exact absurd q (by decide)
theorem d_tb3_0 : decode jdk_52_method_14_code 0 = .ok (.iload_n 2, 1) := by decide +kernel
theorem d_tb3_1 : decode jdk_52_method_14_code 1 = .ok (.invokestatic 107, 3) := by decide +kernel
theorem d_tb3_4 : decode jdk_52_method_14_code 4 = .ok (.astore_n 3, 1) := by decide +kernel
theorem d_tb3_5 : decode jdk_52_method_14_code 5 = .ok (.iconst 0, 1) := by decide +kernel
theorem d_tb3_6 : decode jdk_52_method_14_code 6 = .ok (.istore 4, 2) := by decide +kernel
theorem d_tb3_8 : decode jdk_52_method_14_code 8 = .ok (.iload 4, 2) := by decide +kernel
theorem d_tb3_10 : decode jdk_52_method_14_code 10 = .ok (.iload_n 2, 1) := by decide +kernel
theorem d_tb3_11 : decode jdk_52_method_14_code 11 = .ok (.if_icmp .ge 21, 3) := by decide +kernel
theorem d_tb3_14 : decode jdk_52_method_14_code 14 = .ok (.aload_n 3, 1) := by decide +kernel
theorem d_tb3_15 : decode jdk_52_method_14_code 15 = .ok (.iload 4, 2) := by decide +kernel
theorem d_tb3_17 : decode jdk_52_method_14_code 17 = .ok (.aload_n 0, 1) := by decide +kernel
theorem d_tb3_18 : decode jdk_52_method_14_code 18 = .ok (.iload_n 1, 1) := by decide +kernel
theorem d_tb3_19 : decode jdk_52_method_14_code 19 = .ok (.caload, 1) := by decide +kernel
theorem d_tb3_20 : decode jdk_52_method_14_code 20 = .ok (.invokestatic 111, 3) := by decide +kernel
theorem d_tb3_23 : decode jdk_52_method_14_code 23 = .ok (.iinc 1 1, 3) := by decide +kernel
theorem d_tb3_26 : decode jdk_52_method_14_code 26 = .ok (.iinc 4 1, 3) := by decide +kernel
theorem d_tb3_29 : decode jdk_52_method_14_code 29 = .ok (.goto (-21), 3) := by decide +kernel
theorem d_tb3_32 : decode jdk_52_method_14_code 32 = .ok (.aload_n 3, 1) := by decide +kernel
theorem d_tb3_33 : decode jdk_52_method_14_code 33 = .ok (.areturn, 1) := by decide +kernel
abbrev M_tb3 : own_Mi := ((⟨"java/lang/StringUTF16", "toBytes", "([CII)[B"⟩ : MethodName), jdk_52_method_14_code, 5, (Option.some (FieldType.array FieldType.byte)), ({ frames := 2, cells := 1, slots := 12, locals := 24 } : Room))
theorem pn_tb3 : plainFor (own_Mi.y M_tb3) = true := plainFor_of_name (by first | (simp [plainName, overriddenIn]; done) | decide +kernel)
set_option maxRecDepth 65536 in
set_option maxHeartbeats 40000000 in
theorem c_tb3 (K : own_Cx) (a0 : Array Value) (hw : ∀ d ∈ tables_1, d.before a0 K.Z = true) (hU : own_U16 K) (a : Addr) (n : Int32) (cs : List Int32) (h : Heap) (hn : n.toInt = cs.length) (hcap : cs.length ≤ 6) (hcs : own_Chs cs) (A : own_Ary K.Z h a .char (own_ints cs)) :
    own_Met K M_tb3 #[.ref a, .int 0, .int n] [] h (own_ret fun w h' _ => ∃ b : Addr, w = .ref b ∧ Ext h h' ∧ h.size ≤ b ∧ own_Ary K.Z h' b .byte (own_ints (own_two cs))) := by
  refine own_met_3_2 (M := M_tb3) pn_tb3 rfl (by first | rfl | exact own_cat (by assumption)) (by first | rfl | exact own_cat (by assumption)) (by first | rfl | exact own_cat (by assumption)) ?_
  refine own_iload_n (pc' := 1) rfl d_tb3_0 rfl ?_
  refine own_static1v (M' := M_nbf) d_tb3_1 (pc' := 4) rfl (tw_219 hw) (tw_220 hw) (tw_21 hw) (tw_221 hw) (by decide) rfl (own_lenOf pd_1 rfl) rfl rfl rfl rfl (c_nbf K a0 hw n cs.length h hn hcap) (by simp) ?_
  rintro w h1 xs ⟨b, rfl, E1, hb1, hbx, B1⟩
  refine own_astore_n3 (pc' := 5) rfl d_tb3_4 (by first | exact One.u | exact One.val rfl | assumption | exact One.val (by assumption)) (by first | rfl | assumption) ?_
  refine own_iconst (v := (0 : Int32)) (pc' := 6) rfl d_tb3_5 rfl ?_
  refine own_istore_4 (pc' := 8) rfl d_tb3_6 (by first | exact One.u | exact One.val rfl | assumption | exact One.val (by assumption)) ?_
  suffices key : ∀ (k i : Nat) (j : Int32) (h2 : Heap) (sf : List Addr), i + k = cs.length → j.toInt = i → b ∈ sf → Ext h h2 → own_Ary K.Z h2 b .byte (own_ints (own_two (cs.take i)) ++ List.replicate (2 * k) (.int 0)) → own_WP K M_tb3 (own_ret fun w h' _ => ∃ b : Addr, w = .ref b ∧ Ext h h' ∧ h.size ≤ b ∧ own_Ary K.Z h' b .byte (own_ints (own_two cs))) 8 [.val (.ref a), .val (.int j), .val (.int n), .val (.ref b), .val (.int j)] [] sf h2 1 12 from
    own_weak (key cs.length 0 0 h1 _ (by simp) rfl (by simpa using hbx) E1 (by simpa [own_two] using B1)) (fun x hx => hx) (by exact Nat.le_of_ble_eq_true rfl) (by exact Nat.le_of_ble_eq_true rfl)
  intro k
  induction k with
  | zero =>
    intro i j h2 sf hik hj hbs E2 B2
    refine own_iload (pc' := 10) rfl d_tb3_8 rfl ?_
    refine own_iload_n (pc' := 11) rfl d_tb3_10 rfl ?_
    refine own_icmpge (pcT := 32) (pcF := 14) d_tb3_11 (by decide) (by decide) rfl (fun q => ?_) (fun q => ?_)
    · skip
      refine own_aload_n (pc' := 33) rfl d_tb3_32 rfl (by first | rfl | assumption) ?_
      refine own_areturn rfl rfl (by first | rfl | assumption) d_tb3_33 rfl rfl ?_
      have e : cs.take i = cs := List.take_of_length_le (by omega)
      rw [e] at B2
      exact ⟨b, rfl, E2, hb1, by simpa using B2⟩
    · rw [Int32.lt_iff_toInt_lt] at q
      omega
  | succ k ih =>
    intro i j h2 sf hik hj hbs E2 B2
    have hi : i < cs.length := by omega
    obtain ⟨c, hc⟩ : ∃ c, cs[i]? = some c := ⟨cs[i], by simp [hi]⟩
    have e1 : (own_ints (own_two (cs.take i))).length = 2 * i := by simp [own_two_len]; omega
    refine own_iload (pc' := 10) rfl d_tb3_8 rfl ?_
    refine own_iload_n (pc' := 11) rfl d_tb3_10 rfl ?_
    refine own_icmpge (pcT := 32) (pcF := 14) d_tb3_11 (by decide) (by decide) rfl (fun q => ?_) (fun q => ?_)
    · exact absurd (by rw [Int32.lt_iff_toInt_lt]; omega) q
    · skip
      refine own_aload_n (pc' := 15) rfl d_tb3_14 rfl (by first | rfl | assumption) ?_
      refine own_iload (pc' := 17) rfl d_tb3_15 rfl ?_
      refine own_aload_n (pc' := 18) rfl d_tb3_17 rfl (by first | rfl | assumption) ?_
      refine own_iload_n (pc' := 19) rfl d_tb3_18 rfl ?_
      refine own_caload (pc' := 20) rfl d_tb3_19 (A.ext E2) (i := i) hj (by first | exact own_ints_get hc | exact own_ints_getM hc) ?_
      refine own_static3n (M' := M_pch) d_tb3_20 (pc' := 23) rfl (tw_226 hw) (tw_227 hw) (tw_21 hw) (tw_228 hw) (by decide) rfl (own_lenOf pd_2 rfl) rfl rfl rfl rfl (c_pch K a0 hw hU b j c i _ h2 hj (by rw [List.length_append, e1, List.length_replicate]; omega) (by omega) B2) (by simpa using hbs) ?_
      rintro h3 xs3 ⟨k3, B3⟩
      refine own_iinc_1 (z := (1 : Int32)) (pc' := 26) rfl d_tb3_23 rfl ?_
      refine own_iinc_4 (z := (1 : Int32)) (pc' := 29) rfl d_tb3_26 rfl ?_
      refine own_goto (pc' := 8) d_tb3_29 (by decide) (by decide) ?_
      refine own_weak (ih (i + 1) (j + 1) h3 _ (by omega) (by rw [own_add hj (by rfl : (1 : Int32).toInt = 1)] <;> omega) (List.mem_append_right _ hbs) (own_ext_keep E2 k3 (by intro x hx; cases List.mem_singleton.mp hx; omega)) ?_) (fun x hx => hx) (by exact Nat.le_of_ble_eq_true rfl) (by exact Nat.le_of_ble_eq_true rfl)
      rw [own_two_snoc hc]
      have e2 : own_ints (own_two (cs.take i) ++ [own_bt c, own_hb c]) = own_ints (own_two (cs.take i)) ++ [.int (own_bt c), .int (own_hb c)] := by simp [own_ints]
      rw [e2, ← own_settwo, e1]
      exact B3
theorem d_gc_0 : decode jdk_52_method_5_code 0 = .ok (.getstatic 44, 3) := by decide +kernel
theorem d_gc_3 : decode jdk_52_method_5_code 3 = .ok (.ifCond .ne 25, 3) := by decide +kernel
theorem d_gc_28 : decode jdk_52_method_5_code 28 = .ok (.iload_n 1, 1) := by decide +kernel
theorem d_gc_29 : decode jdk_52_method_5_code 29 = .ok (.iconst 1, 1) := by decide +kernel
theorem d_gc_30 : decode jdk_52_method_5_code 30 = .ok (.ishl, 1) := by decide +kernel
theorem d_gc_31 : decode jdk_52_method_5_code 31 = .ok (.istore_n 1, 1) := by decide +kernel
theorem d_gc_32 : decode jdk_52_method_5_code 32 = .ok (.aload_n 0, 1) := by decide +kernel
theorem d_gc_33 : decode jdk_52_method_5_code 33 = .ok (.iload_n 1, 1) := by decide +kernel
theorem d_gc_34 : decode jdk_52_method_5_code 34 = .ok (.iinc 1 1, 3) := by decide +kernel
theorem d_gc_37 : decode jdk_52_method_5_code 37 = .ok (.baload, 1) := by decide +kernel
theorem d_gc_38 : decode jdk_52_method_5_code 38 = .ok (.sipush 255, 3) := by decide +kernel
theorem d_gc_41 : decode jdk_52_method_5_code 41 = .ok (.iand, 1) := by decide +kernel
theorem d_gc_42 : decode jdk_52_method_5_code 42 = .ok (.getstatic 59, 3) := by decide +kernel
theorem d_gc_45 : decode jdk_52_method_5_code 45 = .ok (.ishl, 1) := by decide +kernel
theorem d_gc_46 : decode jdk_52_method_5_code 46 = .ok (.aload_n 0, 1) := by decide +kernel
theorem d_gc_47 : decode jdk_52_method_5_code 47 = .ok (.iload_n 1, 1) := by decide +kernel
theorem d_gc_48 : decode jdk_52_method_5_code 48 = .ok (.baload, 1) := by decide +kernel
theorem d_gc_49 : decode jdk_52_method_5_code 49 = .ok (.sipush 255, 3) := by decide +kernel
theorem d_gc_52 : decode jdk_52_method_5_code 52 = .ok (.iand, 1) := by decide +kernel
theorem d_gc_53 : decode jdk_52_method_5_code 53 = .ok (.getstatic 63, 3) := by decide +kernel
theorem d_gc_56 : decode jdk_52_method_5_code 56 = .ok (.ishl, 1) := by decide +kernel
theorem d_gc_57 : decode jdk_52_method_5_code 57 = .ok (.ior, 1) := by decide +kernel
theorem d_gc_58 : decode jdk_52_method_5_code 58 = .ok (.i2c, 1) := by decide +kernel
theorem d_gc_59 : decode jdk_52_method_5_code 59 = .ok (.ireturn, 1) := by decide +kernel
abbrev M_gc : own_Mi := ((⟨"java/lang/StringUTF16", "getChar", "([BI)C"⟩ : MethodName), jdk_52_method_5_code, 2, (Option.some FieldType.char), ({ frames := 0, cells := 0, slots := 0, locals := 0 } : Room))
theorem pn_gc : plainFor (own_Mi.y M_gc) = true := plainFor_of_name (by first | (simp [plainName, overriddenIn]; done) | decide +kernel)
set_option maxRecDepth 65536 in
set_option maxHeartbeats 40000000 in
theorem c_gc (K : own_Cx) (a0 : Array Value) (hw : ∀ d ∈ tables_1, d.before a0 K.Z = true) (hU : own_U16 K) (b : Addr) (r : Int32) (i : Nat) (c : Int32) (cs : List Int32) (h : Heap) (hr : r.toInt = i) (hc : cs[i]? = some c) (hi : i < 2 ^ 29) (hcs : own_Chs cs) (B : own_Ary K.Z h b .byte (own_ints (own_two cs))) :
    own_Met K M_gc #[.ref b, .int r] [] h (own_ret fun w h' _ => w = .int c ∧ h' = h) := by
  obtain ⟨u1, u2, u3⟩ := hU
  have hj := own_shl1 hr hi
  have g := own_two_get hc
  have hcr := hcs c (List.mem_of_getElem? hc)
  refine own_met_2_0 (M := M_gc) pn_gc rfl (by first | rfl | exact own_cat (by assumption)) (by first | rfl | exact own_cat (by assumption)) ?_
  refine own_getS (pc' := 3) rfl d_gc_0 (tw_229 hw) Via.refl (by assumption) ?_
  refine own_ifne (pcT := 28) (pcF := 6) d_gc_3 (by decide) (by decide) rfl (fun q => ?_) (fun q => ?_)
  · skip
    refine own_iload_n (pc' := 29) rfl d_gc_28 rfl ?_
    refine own_iconst (v := (1 : Int32)) (pc' := 30) rfl d_gc_29 rfl ?_
    refine own_ishl (pc' := 31) rfl d_gc_30 ?_
    refine own_istore_n1 (pc' := 32) rfl d_gc_31 (by first | exact One.u | exact One.val rfl | assumption | exact One.val (by assumption)) ?_
    refine own_aload_n (pc' := 33) rfl d_gc_32 rfl (by first | rfl | assumption) ?_
    refine own_iload_n (pc' := 34) rfl d_gc_33 rfl ?_
    refine own_iinc_1 (z := (1 : Int32)) (pc' := 37) rfl d_gc_34 rfl ?_
    refine own_baload (pc' := 38) rfl d_gc_37 B (i := (2 * i)) hj (by first | exact own_ints_get g.1 | exact own_ints_getM g.1) ?_
    refine own_sipush (v := (255 : Int32)) (pc' := 41) rfl d_gc_38 rfl ?_
    refine own_iand (pc' := 42) rfl d_gc_41 ?_
    refine own_getS (pc' := 45) rfl d_gc_42 (tw_230 hw) Via.refl (by assumption) ?_
    refine own_ishl (pc' := 46) rfl d_gc_45 ?_
    refine own_aload_n (pc' := 47) rfl d_gc_46 rfl (by first | rfl | assumption) ?_
    refine own_iload_n (pc' := 48) rfl d_gc_47 rfl ?_
    refine own_baload (pc' := 49) rfl d_gc_48 B (i := (2 * i + 1)) (by rw [own_add hj (by rfl : (1 : Int32).toInt = 1)] <;> omega) (by first | exact own_ints_get g.2 | exact own_ints_getM g.2) ?_
    refine own_sipush (v := (255 : Int32)) (pc' := 52) rfl d_gc_49 rfl ?_
    refine own_iand (pc' := 53) rfl d_gc_52 ?_
    refine own_getS (pc' := 56) rfl d_gc_53 (tw_231 hw) Via.refl (by assumption) ?_
    refine own_ishl (pc' := 57) rfl d_gc_56 ?_
    refine own_ior (pc' := 58) rfl d_gc_57 ?_
    refine own_i2c (pc' := 59) rfl d_gc_58 ?_
    rw [own_join hcr.1 hcr.2, own_i2c_id hcr.1 hcr.2]
    refine own_ireturnN (t := .char) rfl (by simp) (own_i2c_id hcr.1 hcr.2) d_gc_59 rfl rfl ?_
    exact ⟨rfl, rfl⟩
  · exact absurd q (by decide)
theorem d_cp3_0 : decode jdk_52_method_16_code 0 = .ok (.iload_n 2, 1) := by decide +kernel
theorem d_cp3_1 : decode jdk_52_method_16_code 1 = .ok (.newarray .byte, 2) := by decide +kernel
theorem d_cp3_3 : decode jdk_52_method_16_code 3 = .ok (.astore_n 3, 1) := by decide +kernel
theorem d_cp3_4 : decode jdk_52_method_16_code 4 = .ok (.aload_n 0, 1) := by decide +kernel
theorem d_cp3_5 : decode jdk_52_method_16_code 5 = .ok (.iload_n 1, 1) := by decide +kernel
theorem d_cp3_6 : decode jdk_52_method_16_code 6 = .ok (.aload_n 3, 1) := by decide +kernel
theorem d_cp3_7 : decode jdk_52_method_16_code 7 = .ok (.iconst 0, 1) := by decide +kernel
theorem d_cp3_8 : decode jdk_52_method_16_code 8 = .ok (.iload_n 2, 1) := by decide +kernel
theorem d_cp3_9 : decode jdk_52_method_16_code 9 = .ok (.invokestatic 115, 3) := by decide +kernel
theorem d_cp3_12 : decode jdk_52_method_16_code 12 = .ok (.istore 4, 2) := by decide +kernel
theorem d_cp3_14 : decode jdk_52_method_16_code 14 = .ok (.iload 4, 2) := by decide +kernel
theorem d_cp3_16 : decode jdk_52_method_16_code 16 = .ok (.iload_n 2, 1) := by decide +kernel
theorem d_cp3_17 : decode jdk_52_method_16_code 17 = .ok (.if_icmp .eq 40, 3) := by decide +kernel
theorem d_cp3_20 : decode jdk_52_method_16_code 20 = .ok (.aload_n 0, 1) := by decide +kernel
theorem d_cp3_21 : decode jdk_52_method_16_code 21 = .ok (.iload_n 1, 1) := by decide +kernel
theorem d_cp3_22 : decode jdk_52_method_16_code 22 = .ok (.iload_n 2, 1) := by decide +kernel
theorem d_cp3_23 : decode jdk_52_method_16_code 23 = .ok (.invokestatic 119, 3) := by decide +kernel
theorem d_cp3_26 : decode jdk_52_method_16_code 26 = .ok (.astore 5, 2) := by decide +kernel
theorem d_cp3_28 : decode jdk_52_method_16_code 28 = .ok (.aload 5, 2) := by decide +kernel
theorem d_cp3_30 : decode jdk_52_method_16_code 30 = .ok (.iload 4, 2) := by decide +kernel
theorem d_cp3_32 : decode jdk_52_method_16_code 32 = .ok (.invokestatic 71, 3) := by decide +kernel
theorem d_cp3_35 : decode jdk_52_method_16_code 35 = .ok (.sipush 255, 3) := by decide +kernel
theorem d_cp3_38 : decode jdk_52_method_16_code 38 = .ok (.if_icmp .gt 16, 3) := by decide +kernel
theorem d_cp3_54 : decode jdk_52_method_16_code 54 = .ok (.aload 5, 2) := by decide +kernel
theorem d_cp3_56 : decode jdk_52_method_16_code 56 = .ok (.areturn, 1) := by decide +kernel
theorem d_cp3_57 : decode jdk_52_method_16_code 57 = .ok (.aload_n 3, 1) := by decide +kernel
theorem d_cp3_58 : decode jdk_52_method_16_code 58 = .ok (.areturn, 1) := by decide +kernel
abbrev M_cp3 : own_Mi := ((⟨"java/lang/StringUTF16", "compress", "([CII)[B"⟩ : MethodName), jdk_52_method_16_code, 6, (Option.some (FieldType.array FieldType.byte)), ({ frames := 3, cells := 2, slots := 18, locals := 40 } : Room))
theorem pn_cp3 : plainFor (own_Mi.y M_cp3) = true := plainFor_of_name (by first | (simp [plainName, overriddenIn]; done) | decide +kernel)
set_option maxRecDepth 65536 in
set_option maxHeartbeats 40000000 in
theorem c_cp3 (K : own_Cx) (a0 : Array Value) (hw : ∀ d ∈ tables_1, d.before a0 K.Z = true)
    (hU : own_U16 K)
    (a : Addr) (n : Int32) (cs : List Int32) (h : Heap) (hn : n.toInt = cs.length) (hcap : cs.length ≤ 6) (hcs : own_Chs cs) (A : own_Ary K.Z h a .char (own_ints cs))
    : own_Met K M_cp3 #[.ref a, .int 0, .int n] [] h (own_ret fun w h' _ => ∃ b : Addr, w = .ref b ∧ Ext h h' ∧ h.size ≤ b ∧ own_Ary K.Z h' b .byte (own_ints (own_enc cs))) := by
  refine own_met_3_3 (M := M_cp3) pn_cp3 rfl (by first | rfl | exact own_cat (by assumption)) (by first | rfl | exact own_cat (by assumption)) (by first | rfl | exact own_cat (by assumption)) ?_
  refine own_iload_n (pc' := 1) rfl d_cp3_0 rfl ?_
  refine own_newarray (pc' := 3) rfl d_cp3_1 (tw_23 hw) (N := cs.length) (cap := 6) hn hcap rfl rfl rfl ?_
  intro b h1 eb E1 B1
  have hab : a ≠ b := by show @Ne Nat a b; have : @LT.lt Nat _ _ _ := A.lt; omega
  refine own_astore_n3 (pc' := 4) rfl d_cp3_3 (by first | exact One.u | exact One.val rfl | assumption | exact One.val (by assumption)) (by first | rfl | assumption) ?_
  refine own_aload_n (pc' := 5) rfl d_cp3_4 rfl (by first | rfl | assumption) ?_
  refine own_iload_n (pc' := 6) rfl d_cp3_5 rfl ?_
  refine own_aload_n (pc' := 7) rfl d_cp3_6 rfl (by first | rfl | assumption) ?_
  refine own_iconst (v := (0 : Int32)) (pc' := 8) rfl d_cp3_7 rfl ?_
  refine own_iload_n (pc' := 9) rfl d_cp3_8 rfl ?_
  refine own_static5v (M' := M_cp5) d_cp3_9 (pc' := 12) rfl (tw_24 hw) (tw_25 hw) (tw_21 hw) (tw_26 hw) (by decide) rfl (own_lenOf pd_3 rfl) rfl rfl rfl rfl (c_cp5 K a0 hw a b n cs h1 hn hcs (A.ext E1) B1 hab) (by simp) ?_
  rintro w h2 xs ⟨r, rfl, k2, q⟩
  have E2 := own_ext_keep E1 k2 (by intro x hx; cases List.mem_singleton.mp hx; omega)
  refine own_istore_4 (pc' := 14) rfl d_cp3_12 (by first | exact One.u | exact One.val rfl | assumption | exact One.val (by assumption)) ?_
  refine own_iload (pc' := 16) rfl d_cp3_14 rfl ?_
  refine own_iload_n (pc' := 17) rfl d_cp3_16 rfl ?_
  refine own_icmpeq (pcT := 57) (pcF := 20) d_cp3_17 (by decide) (by decide) rfl (fun z => ?_) (fun z => ?_)
  · rcases q with ⟨q1, q2, q3⟩ | ⟨q1, i, c, q2, q3, q4⟩
    · skip
      refine own_aload_n (pc' := 58) rfl d_cp3_57 rfl (by first | rfl | assumption) ?_
      refine own_areturn rfl rfl (by first | rfl | assumption) d_cp3_58 rfl rfl ?_
      exact ⟨b, rfl, E2, by omega, by rw [(own_enc_lat q1).1]; exact q3⟩
    · have := (List.getElem?_eq_some_iff.mp q3).1
      rw [z] at q2
      omega
  · rcases q with ⟨q1, q2, q3⟩ | ⟨q1, i, c, q2, q3, q4⟩
    · exact absurd q2 z
    have hil := (List.getElem?_eq_some_iff.mp q3).1
    refine own_aload_n (pc' := 21) rfl d_cp3_20 rfl (by first | rfl | assumption) ?_
    refine own_iload_n (pc' := 22) rfl d_cp3_21 rfl ?_
    refine own_iload_n (pc' := 23) rfl d_cp3_22 rfl ?_
    refine own_static3v (M' := M_tb3) d_cp3_23 (pc' := 26) rfl (tw_216 hw) (tw_217 hw) (tw_21 hw) (tw_218 hw) (by decide) rfl (own_lenOf pd_4 rfl) rfl rfl rfl rfl (c_tb3 K a0 hw hU a n cs h2 hn hcap hcs (A.ext E2)) (by simp) ?_
    rintro w h3 xs3 ⟨b3, rfl, E3, hb3, B3⟩
    refine own_astore_5 (pc' := 28) rfl d_cp3_26 (by first | exact One.u | exact One.val rfl | assumption | exact One.val (by assumption)) (by first | rfl | assumption) ?_
    refine own_aload (pc' := 30) rfl d_cp3_28 rfl (by first | rfl | assumption) ?_
    refine own_iload (pc' := 32) rfl d_cp3_30 rfl ?_
    refine own_static2v (M' := M_gc) d_cp3_32 (pc' := 35) rfl (tw_232 hw) (tw_233 hw) (tw_21 hw) (tw_234 hw) (by decide) rfl (own_lenOf pd_5 rfl) rfl rfl rfl rfl (c_gc K a0 hw hU b3 r i c cs h3 q2 q3 (by omega) hcs B3) (by simp) ?_
    rintro w h4 xs4 ⟨rfl, rfl⟩
    refine own_sipush (v := (255 : Int32)) (pc' := 38) rfl d_cp3_35 rfl ?_
    refine own_icmpgt (pcT := 54) (pcF := 41) d_cp3_38 (by decide) (by decide) rfl (fun z2 => ?_) (fun z2 => ?_)
    · skip
      refine own_aload (pc' := 56) rfl d_cp3_54 rfl (by first | rfl | assumption) ?_
      refine own_areturn rfl rfl (by first | rfl | assumption) d_cp3_56 rfl rfl ?_
      exact ⟨b3, rfl, own_ext_trans E2 E3, by have := E2.1; omega, by rw [(own_enc_utf q1).1]; exact B3⟩
    · exfalso
      rw [Int32.lt_iff_toInt_lt] at z2
      have : (255 : Int32).toInt = 255 := rfl
      omega
theorem d_si4_0 : decode jdk_42_method_149_code 0 = .ok (.aload_n 0, 1) := by decide +kernel
theorem d_si4_1 : decode jdk_42_method_149_code 1 = .ok (.invokespecial 1, 3) := by decide +kernel
theorem d_si4_4 : decode jdk_42_method_149_code 4 = .ok (.iload_n 3, 1) := by decide +kernel
theorem d_si4_5 : decode jdk_42_method_149_code 5 = .ok (.ifCond .ne 22, 3) := by decide +kernel
theorem d_si4_27 : decode jdk_42_method_149_code 27 = .ok (.getstatic 38, 3) := by decide +kernel
theorem d_si4_30 : decode jdk_42_method_149_code 30 = .ok (.ifCond .eq 28, 3) := by decide +kernel
theorem d_si4_33 : decode jdk_42_method_149_code 33 = .ok (.aload_n 1, 1) := by decide +kernel
theorem d_si4_34 : decode jdk_42_method_149_code 34 = .ok (.iload_n 2, 1) := by decide +kernel
theorem d_si4_35 : decode jdk_42_method_149_code 35 = .ok (.iload_n 3, 1) := by decide +kernel
theorem d_si4_36 : decode jdk_42_method_149_code 36 = .ok (.invokestatic 177, 3) := by decide +kernel
theorem d_si4_39 : decode jdk_42_method_149_code 39 = .ok (.astore 5, 2) := by decide +kernel
theorem d_si4_41 : decode jdk_42_method_149_code 41 = .ok (.aload_n 0, 1) := by decide +kernel
theorem d_si4_42 : decode jdk_42_method_149_code 42 = .ok (.aload 5, 2) := by decide +kernel
theorem d_si4_44 : decode jdk_42_method_149_code 44 = .ok (.iload_n 3, 1) := by decide +kernel
theorem d_si4_45 : decode jdk_42_method_149_code 45 = .ok (.invokestatic 47, 3) := by decide +kernel
theorem d_si4_48 : decode jdk_42_method_149_code 48 = .ok (.putfield 15, 3) := by decide +kernel
theorem d_si4_51 : decode jdk_42_method_149_code 51 = .ok (.aload_n 0, 1) := by decide +kernel
theorem d_si4_52 : decode jdk_42_method_149_code 52 = .ok (.aload 5, 2) := by decide +kernel
theorem d_si4_54 : decode jdk_42_method_149_code 54 = .ok (.putfield 9, 3) := by decide +kernel
theorem d_si4_57 : decode jdk_42_method_149_code 57 = .ok (.return_, 1) := by decide +kernel
abbrev M_si4 : own_Mi := ((⟨"java/lang/String", "<init>", "([CIILjava/lang/Void;)V"⟩ : MethodName), jdk_42_method_149_code, 6, (Option.none : Option FieldType), ({ frames := 4, cells := 2, slots := 18, locals := 57 } : Room))
theorem pn_si4 : plainFor (own_Mi.y M_si4) = true := plainFor_of_name (by first | (simp [plainName, overriddenIn]; done) | decide +kernel)
set_option maxRecDepth 65536 in
set_option maxHeartbeats 40000000 in
theorem c_si4 (K : own_Cx) (a0 : Array Value) (hw : ∀ d ∈ tables_1, d.before a0 K.Z = true)
    (hU : own_U16 K)
    (x a : Addr) (n g : Int32) (cs : List Int32) (h : Heap) (hn : n.toInt = cs.length)
    (hp : 0 < cs.length)
    (hcap : cs.length ≤ 6) (hcs : own_Chs cs) (A : own_Ary K.Z h a .char (own_ints cs))
    (E : Exa K.Z h x "java/lang/String") (FV : Fld K.Z h x "java/lang/String" "value" "[B" .null) (FC : Fld K.Z h x "java/lang/String" "coder" "B" (.int 0)) (SC : Sta K.Z K.Z.heap "java/lang/String" "COMPACT_STRINGS" "Z" (.int g)) (hg : ¬ g = 0)
    : own_Met K M_si4 #[.ref x, .ref a, .int 0, .int n, .null] [x] h (own_void fun h' _ => Keep h h' [x] ∧ own_Str K.Z h' x cs) := by
  refine own_met_5_1 (M := M_si4) pn_si4 rfl (by first | rfl | exact own_cat (by assumption)) (by first | rfl | exact own_cat (by assumption)) (by first | rfl | exact own_cat (by assumption)) (by first | rfl | exact own_cat (by assumption)) (by first | rfl | exact own_cat (by assumption)) ?_
  refine own_aload_n (pc' := 1) rfl d_si4_0 rfl (by first | rfl | assumption) ?_
  refine own_initO (pc' := 4) rfl d_si4_1 (tw_15 hw) (tw_16 hw) (tw_17 hw) rfl rfl rfl ?_
  refine own_iload_n (pc' := 5) rfl d_si4_4 rfl ?_
  refine own_ifne (pcT := 27) (pcF := 8) d_si4_5 (by decide) (by decide) rfl (fun z => ?_) (fun z => ?_)
  · skip
    refine own_getS (pc' := 30) rfl d_si4_27 (tw_18 hw) Via.refl (by assumption) ?_
    refine own_ifeq (pcT := 58) (pcF := 33) d_si4_30 (by decide) (by decide) rfl (fun z2 => ?_) (fun z2 => ?_)
    · exact absurd z2 hg
    · skip
      refine own_aload_n (pc' := 34) rfl d_si4_33 rfl (by first | rfl | assumption) ?_
      refine own_iload_n (pc' := 35) rfl d_si4_34 rfl ?_
      refine own_iload_n (pc' := 36) rfl d_si4_35 rfl ?_
      refine own_static3v (M' := M_cp3) d_si4_36 (pc' := 39) rfl (tw_19 hw) (tw_20 hw) (tw_21 hw) (tw_22 hw) (by decide) rfl (own_lenOf pd_4 rfl) rfl rfl rfl rfl (c_cp3 K a0 hw hU a n cs h hn hcap hcs A) (by simp) ?_
      rintro w h1 xs ⟨b, rfl, E1, hb1, B1⟩
      have hxb : b ≠ x := by show @Ne Nat b x; have : @LT.lt Nat _ _ _ := E.lt; omega
      refine own_astore_5 (pc' := 41) rfl d_si4_39 (by first | exact One.u | exact One.val rfl | assumption | exact One.val (by assumption)) (by first | rfl | assumption) ?_
      refine own_aload_n (pc' := 42) rfl d_si4_41 rfl (by first | rfl | assumption) ?_
      refine own_aload (pc' := 44) rfl d_si4_42 rfl (by first | rfl | assumption) ?_
      refine own_iload_n (pc' := 45) rfl d_si4_44 rfl ?_
      have hp : 0 < cs.length := by
        rcases Nat.eq_zero_or_pos cs.length with e | e
        · exact absurd (Int32.toInt_inj.mp (by rw [hn, e]; rfl)) z
        · exact e
      refine own_static2v (M' := M_cfa) d_si4_45 (pc' := 48) rfl (tw_27 hw) (tw_28 hw) (tw_21 hw) (tw_29 hw) (by decide) rfl (own_lenOf pd_6 rfl) rfl rfl rfl rfl (c_cfa K a0 hw b n cs h1 hn (by omega) hp B1) (by simp) ?_
      rintro w h2 xs2 ⟨rfl, rfl⟩
      refine own_putF (pc' := 51) rfl d_si4_48 (tw_30 hw) Via.refl (Or.inr ⟨(tw_31 hw), rfl, rfl⟩) (tw_6 hw) (ty := .byte) (by decide) (own_cod_byte cs).1 (own_cod_byte cs).2 (FC.ext E1) (E.ext E1) (by simp) ?_
      intro h3 W3
      have sne : RoadKit.slotOf K.Z "java/lang/String" "value" "[B" ≠ RoadKit.slotOf K.Z "java/lang/String" "coder" "B" := slot_ne (Or.inr (tw_33 hw)) (Or.inr (tw_31 hw)) (by decide) (t := .array .byte) (t' := .byte) (by decide) (by decide)
      have FV3 := (FV.ext E1).other W3 (Or.inr sne)
      have FC3 := (FC.ext E1).same W3
      have E3 := (E.ext E1).wr W3
      have B3 := B1.other W3 hxb
      refine own_aload_n (pc' := 52) rfl d_si4_51 rfl (by first | rfl | assumption) ?_
      refine own_aload (pc' := 54) rfl d_si4_52 rfl (by first | rfl | assumption) ?_
      refine own_putF (pc' := 57) rfl d_si4_54 (tw_32 hw) Via.refl (Or.inr ⟨(tw_33 hw), rfl, rfl⟩) (tw_6 hw) (ty := (.array .byte)) (by decide) rfl rfl FV3 E3 (by simp) ?_
      intro h4 W4
      refine own_return rfl d_si4_57 rfl rfl ?_
      refine ⟨(((Keep.refl h [x]).ext E1).wr W3 (Or.inl (List.mem_singleton.mpr rfl))).wr W4 (Or.inl (List.mem_singleton.mpr rfl)), E3.wr W4, hcs, by omega, b, FV3.same W4, FC3.other W4 (Or.inr (Ne.symm sne)), B3.other W4 hxb⟩
  · exfalso
    rw [z] at hn
    have : (0 : Int32).toInt = 0 := rfl
    omega
theorem d_si1_0 : decode jdk_42_method_3_code 0 = .ok (.aload_n 0, 1) := by decide +kernel
theorem d_si1_1 : decode jdk_42_method_3_code 1 = .ok (.aload_n 1, 1) := by decide +kernel
theorem d_si1_2 : decode jdk_42_method_3_code 2 = .ok (.iconst 0, 1) := by decide +kernel
theorem d_si1_3 : decode jdk_42_method_3_code 3 = .ok (.aload_n 1, 1) := by decide +kernel
theorem d_si1_4 : decode jdk_42_method_3_code 4 = .ok (.arraylength, 1) := by decide +kernel
theorem d_si1_5 : decode jdk_42_method_3_code 5 = .ok (.aconst_null, 1) := by decide +kernel
theorem d_si1_6 : decode jdk_42_method_3_code 6 = .ok (.invokespecial 27, 3) := by decide +kernel
theorem d_si1_9 : decode jdk_42_method_3_code 9 = .ok (.return_, 1) := by decide +kernel
abbrev M_si1 : own_Mi := ((⟨"java/lang/String", "<init>", "([C)V"⟩ : MethodName), jdk_42_method_3_code, 2, (Option.none : Option FieldType), ({ frames := 5, cells := 2, slots := 18, locals := 74 } : Room))
theorem pn_si1 : plainFor (own_Mi.y M_si1) = true := plainFor_of_name (by first | (simp [plainName, overriddenIn]; done) | decide +kernel)
set_option maxRecDepth 65536 in
set_option maxHeartbeats 40000000 in
theorem c_si1 (K : own_Cx) (a0 : Array Value) (hw : ∀ d ∈ tables_1, d.before a0 K.Z = true)
    (hU : own_U16 K)
    (x a : Addr) (g : Int32) (cs : List Int32) (h : Heap)
    (hp : 0 < cs.length)
    (hcap : cs.length ≤ 6) (hcs : own_Chs cs) (A : own_Ary K.Z h a .char (own_ints cs))
    (E : Exa K.Z h x "java/lang/String") (FV : Fld K.Z h x "java/lang/String" "value" "[B" .null) (FC : Fld K.Z h x "java/lang/String" "coder" "B" (.int 0)) (SC : Sta K.Z K.Z.heap "java/lang/String" "COMPACT_STRINGS" "Z" (.int g)) (hg : ¬ g = 0)
    : own_Met K M_si1 #[.ref x, .ref a] [x] h (own_void fun h' _ => Keep h h' [x] ∧ own_Str K.Z h' x cs) := by
  have hz : (cs.length.toInt32).toInt = cs.length := own_lit _ (by omega)
  refine own_met_2_0 (M := M_si1) pn_si1 rfl (by first | rfl | exact own_cat (by assumption)) (by first | rfl | exact own_cat (by assumption)) ?_
  refine own_aload_n (pc' := 1) rfl d_si1_0 rfl (by first | rfl | assumption) ?_
  refine own_aload_n (pc' := 2) rfl d_si1_1 rfl (by first | rfl | assumption) ?_
  refine own_iconst (v := (0 : Int32)) (pc' := 3) rfl d_si1_2 rfl ?_
  refine own_aload_n (pc' := 4) rfl d_si1_3 rfl (by first | rfl | assumption) ?_
  refine own_arrlen (z := cs.length.toInt32) (pc' := 5) rfl d_si1_4 A (by rw [hz]; simp) ?_
  refine own_aconst_null (pc' := 6) rfl d_si1_5 ?_
  refine own_special4n (M' := M_si4) d_si1_6 (pc' := 9) rfl rfl rfl (tw_11 hw) (tw_12 hw) (tw_7 hw) (tw_14 hw) (by decide) rfl (own_lenOf pd_7 rfl) rfl rfl rfl rfl (c_si4 K a0 hw hU  x a _ g cs h hz hp hcap hcs A E FV FC SC hg ) (by simp) ?_
  intro h1 xs q
  refine own_return rfl d_si1_9 rfl rfl ?_
  exact q
def own_ch (c : Int32) : Int32 := c.toUInt32.toUInt16.toUInt32.toInt32
theorem own_ch_r (c : Int32) : 0 ≤ (own_ch c).toInt ∧ (own_ch c).toInt < 65536 := (c_i2c c).2
theorem own_ch_nar (c : Int32) : nar .char (c.toUInt32.toUInt16.toUInt32.toInt32) = own_ch c := own_i2c_id (own_ch_r c).1 (own_ch_r c).2
/-! STRINGS, their methods -/
abbrev own_sC : String := "java/lang/String"
theorem own_len_enc {cs : List Int32} : (own_lat cs = true → (own_ints (own_enc cs)).length = cs.length) ∧ (own_lat cs = false → (own_ints (own_enc cs)).length = 2 * cs.length) :=
  ⟨fun q => by simp [(own_enc_lat q).1], fun q => by simp [(own_enc_utf q).1, own_two_len]⟩
theorem own_lat_byte {c : Int32} (h0 : 0 ≤ c.toInt) (h1 : c.toInt < 256) : own_bt c &&& 255 = c := by
  apply Int32.toInt_inj.mp
  have b1 := c_mask (own_bt c) 255 8 (by decide) (by decide)
  have b2 := (c_i2b c).1
  have : (own_bt c).toInt = c.toInt8.toInt32.toInt := rfl
  omega
theorem d_cdr_0 : decode jdk_42_method_152_code 0 = .ok (.getstatic 38, 3) := by decide +kernel
theorem d_cdr_3 : decode jdk_42_method_152_code 3 = .ok (.ifCond .eq 10, 3) := by decide +kernel
theorem d_cdr_6 : decode jdk_42_method_152_code 6 = .ok (.aload_n 0, 1) := by decide +kernel
theorem d_cdr_7 : decode jdk_42_method_152_code 7 = .ok (.getfield 15, 3) := by decide +kernel
theorem d_cdr_10 : decode jdk_42_method_152_code 10 = .ok (.goto 4, 3) := by decide +kernel
theorem d_cdr_14 : decode jdk_42_method_152_code 14 = .ok (.ireturn, 1) := by decide +kernel
abbrev M_cdr : own_Mi := ((⟨"java/lang/String", "coder", "()B"⟩ : MethodName), jdk_42_method_152_code, 1, (Option.some FieldType.byte), ({ frames := 0, cells := 0, slots := 0, locals := 0 } : Room))
theorem pn_cdr : plainFor (own_Mi.y M_cdr) = true := plainFor_of_name (by first | (simp [plainName, overriddenIn]; done) | decide +kernel)
set_option maxRecDepth 65536 in
set_option maxHeartbeats 40000000 in
theorem c_cdr (K : own_Cx) (a0 : Array Value) (hw : ∀ d ∈ tables_1, d.before a0 K.Z = true) (g : Int32) (SC : Sta K.Z K.Z.heap own_sC "COMPACT_STRINGS" "Z" (.int g)) (hg : ¬ g = 0) (x : Addr) (cs : List Int32) (h : Heap) (S : own_Str K.Z h x cs) :
    own_Met K M_cdr #[.ref x] [] h (own_ret fun w h' _ => w = .int (own_cod cs) ∧ h' = h) := by
  obtain ⟨E, hcs, hl, b, FV, FC, B⟩ := S
  refine own_met_1_0 (M := M_cdr) pn_cdr rfl (by first | rfl | exact own_cat (by assumption)) ?_
  refine own_getS (pc' := 3) rfl d_cdr_0 (tw_18 hw) Via.refl (by assumption) ?_
  refine own_ifeq (pcT := 13) (pcF := 6) d_cdr_3 (by decide) (by decide) rfl (fun q => ?_) (fun q => ?_)
  · exact absurd q hg
  · skip
    refine own_aload_n (pc' := 7) rfl d_cdr_6 rfl (by first | rfl | assumption) ?_
    refine own_getF (pc' := 10) rfl d_cdr_7 (tw_30 hw) Via.refl (by assumption) ?_
    refine own_goto (pc' := 14) d_cdr_10 (by decide) (by decide) ?_
    refine own_ireturnN (t := .byte) rfl (by simp) (z' := own_cod cs) (by unfold own_cod; split <;> rfl) d_cdr_14 rfl rfl ?_
    exact ⟨rfl, rfl⟩
theorem d_sl_0 : decode jdk_42_method_54_code 0 = .ok (.aload_n 0, 1) := by decide +kernel
theorem d_sl_1 : decode jdk_42_method_54_code 1 = .ok (.getfield 9, 3) := by decide +kernel
theorem d_sl_4 : decode jdk_42_method_54_code 4 = .ok (.arraylength, 1) := by decide +kernel
theorem d_sl_5 : decode jdk_42_method_54_code 5 = .ok (.aload_n 0, 1) := by decide +kernel
theorem d_sl_6 : decode jdk_42_method_54_code 6 = .ok (.invokevirtual 335, 3) := by decide +kernel
theorem d_sl_9 : decode jdk_42_method_54_code 9 = .ok (.ishr, 1) := by decide +kernel
theorem d_sl_10 : decode jdk_42_method_54_code 10 = .ok (.ireturn, 1) := by decide +kernel
abbrev M_sl : own_Mi := ((⟨"java/lang/String", "length", "()I"⟩ : MethodName), jdk_42_method_54_code, 1, (Option.some FieldType.int), ({ frames := 1, cells := 0, slots := 0, locals := 14 } : Room))
theorem pn_sl : plainFor (own_Mi.y M_sl) = true := plainFor_of_name (by first | (simp [plainName, overriddenIn]; done) | decide +kernel)
set_option maxRecDepth 65536 in
set_option maxHeartbeats 40000000 in
theorem c_sl (K : own_Cx) (a0 : Array Value) (hw : ∀ d ∈ tables_1, d.before a0 K.Z = true) (g : Int32) (SC : Sta K.Z K.Z.heap own_sC "COMPACT_STRINGS" "Z" (.int g)) (hg : ¬ g = 0) (x : Addr) (cs : List Int32) (h : Heap) (S : own_Str K.Z h x cs) :
    own_Met K M_sl #[.ref x] [] h (own_ret fun w h' _ => w = .int cs.length.toInt32 ∧ h' = h) := by
  have S' := S
  obtain ⟨E, hcs, hl, b, FV, FC, B⟩ := S'
  have hn : (cs.length.toInt32).toInt = cs.length := own_lit _ (by omega)
  cases ql : own_lat cs
  · have hz : ((2 * cs.length).toInt32).toInt = ((2 * cs.length : Nat) : Int) := own_lit _ (by omega)
    refine own_met_1_0 (M := M_sl) pn_sl rfl (by first | rfl | exact own_cat (by assumption)) ?_
    refine own_aload_n (pc' := 1) rfl d_sl_0 rfl (by first | rfl | assumption) ?_
    refine own_getF (pc' := 4) rfl d_sl_1 (tw_32 hw) Via.refl (by assumption) ?_
    refine own_arrlen (z := (2 * cs.length).toInt32) (pc' := 5) rfl d_sl_4 B (by rw [hz, own_len_enc.2 ql]) ?_
    refine own_aload_n (pc' := 6) rfl d_sl_5 rfl (by first | rfl | assumption) ?_
    refine own_virtual0v (M' := M_cdr) d_sl_6 (pc' := 9) rfl (tw_52 hw) (tw_53 hw) (tw_55 hw) (tw_54 hw) (tw_7 hw) (tw_56 hw) (by decide) rfl (own_lenOf pd_8 rfl) rfl rfl rfl rfl E (c_cdr K a0 hw g SC hg x cs h S) (by simp) ?_
    rintro w h1 xs ⟨rfl, rfl⟩
    refine own_ishr (pc' := 10) rfl d_sl_9 ?_
    refine own_ireturn rfl d_sl_10 rfl rfl ?_
    refine ⟨?_, rfl⟩
    rw [(own_enc_utf ql).2]
    congr 1
    apply Int32.toInt_inj.mp
    have := c_ishr (2 * cs.length).toInt32 1 1 (by decide)
    rw [this, hn, hz]
    omega
  · skip
    refine own_met_1_0 (M := M_sl) pn_sl rfl (by first | rfl | exact own_cat (by assumption)) ?_
    refine own_aload_n (pc' := 1) rfl d_sl_0 rfl (by first | rfl | assumption) ?_
    refine own_getF (pc' := 4) rfl d_sl_1 (tw_32 hw) Via.refl (by assumption) ?_
    refine own_arrlen (z := cs.length.toInt32) (pc' := 5) rfl d_sl_4 B (by rw [hn, own_len_enc.1 ql]) ?_
    refine own_aload_n (pc' := 6) rfl d_sl_5 rfl (by first | rfl | assumption) ?_
    refine own_virtual0v (M' := M_cdr) d_sl_6 (pc' := 9) rfl (tw_52 hw) (tw_53 hw) (tw_55 hw) (tw_54 hw) (tw_7 hw) (tw_56 hw) (by decide) rfl (own_lenOf pd_8 rfl) rfl rfl rfl rfl E (c_cdr K a0 hw g SC hg x cs h S) (by simp) ?_
    rintro w h1 xs ⟨rfl, rfl⟩
    refine own_ishr (pc' := 10) rfl d_sl_9 ?_
    refine own_ireturn rfl d_sl_10 rfl rfl ?_
    exact ⟨by rw [(own_enc_lat ql).2, own_shr0], rfl⟩
theorem d_isl_0 : decode jdk_42_method_154_code 0 = .ok (.getstatic 38, 3) := by decide +kernel
theorem d_isl_3 : decode jdk_42_method_154_code 3 = .ok (.ifCond .eq 14, 3) := by decide +kernel
theorem d_isl_6 : decode jdk_42_method_154_code 6 = .ok (.aload_n 0, 1) := by decide +kernel
theorem d_isl_7 : decode jdk_42_method_154_code 7 = .ok (.getfield 15, 3) := by decide +kernel
theorem d_isl_10 : decode jdk_42_method_154_code 10 = .ok (.ifCond .ne 7, 3) := by decide +kernel
theorem d_isl_13 : decode jdk_42_method_154_code 13 = .ok (.iconst 1, 1) := by decide +kernel
theorem d_isl_14 : decode jdk_42_method_154_code 14 = .ok (.goto 4, 3) := by decide +kernel
theorem d_isl_17 : decode jdk_42_method_154_code 17 = .ok (.iconst 0, 1) := by decide +kernel
theorem d_isl_18 : decode jdk_42_method_154_code 18 = .ok (.ireturn, 1) := by decide +kernel
abbrev M_isl : own_Mi := ((⟨"java/lang/String", "isLatin1", "()Z"⟩ : MethodName), jdk_42_method_154_code, 1, (Option.some FieldType.boolean), ({ frames := 0, cells := 0, slots := 0, locals := 0 } : Room))
theorem pn_isl : plainFor (own_Mi.y M_isl) = true := plainFor_of_name (by first | (simp [plainName, overriddenIn]; done) | decide +kernel)
set_option maxRecDepth 65536 in
set_option maxHeartbeats 40000000 in
theorem c_isl (K : own_Cx) (a0 : Array Value) (hw : ∀ d ∈ tables_1, d.before a0 K.Z = true) (g : Int32) (SC : Sta K.Z K.Z.heap own_sC "COMPACT_STRINGS" "Z" (.int g)) (hg : ¬ g = 0) (x : Addr) (cs : List Int32) (h : Heap) (S : own_Str K.Z h x cs) :
    own_Met K M_isl #[.ref x] [] h (own_ret fun w h' _ => w = .int (if own_lat cs then 1 else 0) ∧ h' = h) := by
  obtain ⟨E, hcs, hl, b, FV, FC, B⟩ := S
  refine own_met_1_0 (M := M_isl) pn_isl rfl (by first | rfl | exact own_cat (by assumption)) ?_
  refine own_getS (pc' := 3) rfl d_isl_0 (tw_18 hw) Via.refl (by assumption) ?_
  refine own_ifeq (pcT := 17) (pcF := 6) d_isl_3 (by decide) (by decide) rfl (fun q => ?_) (fun q => ?_)
  · exact absurd q hg
  · skip
    refine own_aload_n (pc' := 7) rfl d_isl_6 rfl (by first | rfl | assumption) ?_
    refine own_getF (pc' := 10) rfl d_isl_7 (tw_30 hw) Via.refl (by assumption) ?_
    refine own_ifne (pcT := 17) (pcF := 13) d_isl_10 (by decide) (by decide) rfl (fun q2 => ?_) (fun q2 => ?_)
    · skip
      refine own_iconst (v := (0 : Int32)) (pc' := 18) rfl d_isl_17 rfl ?_
      refine own_ireturnN (t := .boolean) rfl (by simp) (by first | exact own_nb0 | exact own_nb1 | rfl) d_isl_18 rfl rfl ?_
      refine ⟨?_, rfl⟩
      cases ql : own_lat cs
      · rfl
      · exact absurd (own_enc_lat ql).2 q2
    · skip
      refine own_iconst (v := (1 : Int32)) (pc' := 14) rfl d_isl_13 rfl ?_
      refine own_goto (pc' := 18) d_isl_14 (by decide) (by decide) ?_
      refine own_ireturnN (t := .boolean) rfl (by simp) (by first | exact own_nb0 | exact own_nb1 | rfl) d_isl_18 rfl rfl ?_
      refine ⟨?_, rfl⟩
      cases ql : own_lat cs
      · rw [(own_enc_utf ql).2] at q2; cases q2
      · rfl
theorem d_ul_0 : decode jdk_52_method_6_code 0 = .ok (.aload_n 0, 1) := by decide +kernel
theorem d_ul_1 : decode jdk_52_method_6_code 1 = .ok (.arraylength, 1) := by decide +kernel
theorem d_ul_2 : decode jdk_52_method_6_code 2 = .ok (.iconst 1, 1) := by decide +kernel
theorem d_ul_3 : decode jdk_52_method_6_code 3 = .ok (.ishr, 1) := by decide +kernel
theorem d_ul_4 : decode jdk_52_method_6_code 4 = .ok (.ireturn, 1) := by decide +kernel
abbrev M_ul : own_Mi := ((⟨"java/lang/StringUTF16", "length", "([B)I"⟩ : MethodName), jdk_52_method_6_code, 1, (Option.some FieldType.int), ({ frames := 0, cells := 0, slots := 0, locals := 0 } : Room))
theorem pn_ul : plainFor (own_Mi.y M_ul) = true := plainFor_of_name (by first | (simp [plainName, overriddenIn]; done) | decide +kernel)
set_option maxRecDepth 65536 in
set_option maxHeartbeats 40000000 in
theorem c_ul (K : own_Cx) (a0 : Array Value) (hw : ∀ d ∈ tables_1, d.before a0 K.Z = true) (b : Addr) (cs : List Int32) (h : Heap) (hl : cs.length < 2 ^ 30) (B : own_Ary K.Z h b .byte (own_ints (own_two cs))) :
    own_Met K M_ul #[.ref b] [] h (own_ret fun w h' _ => w = .int cs.length.toInt32 ∧ h' = h) := by
  have hn : (cs.length.toInt32).toInt = cs.length := own_lit _ (by omega)
  have hz : ((2 * cs.length).toInt32).toInt = ((2 * cs.length : Nat) : Int) := own_lit _ (by omega)
  refine own_met_1_0 (M := M_ul) pn_ul rfl (by first | rfl | exact own_cat (by assumption)) ?_
  refine own_aload_n (pc' := 1) rfl d_ul_0 rfl (by first | rfl | assumption) ?_
  refine own_arrlen (z := (2 * cs.length).toInt32) (pc' := 2) rfl d_ul_1 B (by rw [hz]; simp [own_two_len]) ?_
  refine own_iconst (v := (1 : Int32)) (pc' := 3) rfl d_ul_2 rfl ?_
  refine own_ishr (pc' := 4) rfl d_ul_3 ?_
  refine own_ireturn rfl d_ul_4 rfl rfl ?_
  refine ⟨?_, rfl⟩
  congr 1
  apply Int32.toInt_inj.mp
  have := c_ishr (2 * cs.length).toInt32 1 1 (by decide)
  rw [this, hn, hz]
  omega
theorem d_pci_0 : decode jdk_41_method_11_code 0 = .ok (.iload_n 0, 1) := by decide +kernel
theorem d_pci_1 : decode jdk_41_method_11_code 1 = .ok (.ifCond .lt 8, 3) := by decide +kernel
theorem d_pci_4 : decode jdk_41_method_11_code 4 = .ok (.iload_n 0, 1) := by decide +kernel
theorem d_pci_5 : decode jdk_41_method_11_code 5 = .ok (.iload_n 1, 1) := by decide +kernel
theorem d_pci_6 : decode jdk_41_method_11_code 6 = .ok (.if_icmp .lt 10, 3) := by decide +kernel
theorem d_pci_16 : decode jdk_41_method_11_code 16 = .ok (.iload_n 0, 1) := by decide +kernel
theorem d_pci_17 : decode jdk_41_method_11_code 17 = .ok (.ireturn, 1) := by decide +kernel
abbrev M_pci : own_Mi := ((⟨"jdk/internal/util/Preconditions", "checkIndex", "(IILjava/util/function/BiFunction;)I"⟩ : MethodName), jdk_41_method_11_code, 3, (Option.some FieldType.int), ({ frames := 0, cells := 0, slots := 0, locals := 0 } : Room))
theorem pn_pci : plainFor (own_Mi.y M_pci) = true := plainFor_of_name (by first | (simp [plainName, overriddenIn]; done) | decide +kernel)
set_option maxRecDepth 65536 in
set_option maxHeartbeats 40000000 in
theorem c_pci (K : own_Cx) (a0 : Array Value) (hw : ∀ d ∈ tables_1, d.before a0 K.Z = true) (rf : Value) (hrf : rf.isRef = true) (i n : Int32) (h : Heap) (h0 : 0 ≤ i.toInt) (h1 : i.toInt < n.toInt) :
    own_Met K M_pci #[.int i, .int n, rf] [] h (own_ret fun w h' _ => w = .int i ∧ h' = h) := by
  have z0 : (0 : Int32).toInt = 0 := rfl
  rcases ref_cases hrf with rfl | ⟨r, rfl⟩
  all_goals
    refine own_met_3_0 (M := M_pci) pn_pci rfl (by first | rfl | exact own_cat (by assumption)) (by first | rfl | exact own_cat (by assumption)) (by first | rfl | exact own_cat (by assumption)) ?_
    refine own_iload_n (pc' := 1) rfl d_pci_0 rfl ?_
    refine own_iflt (pcT := 9) (pcF := 4) d_pci_1 (by decide) (by decide) rfl (fun q => ?_) (fun q => ?_)
    · rw [Int32.lt_iff_toInt_lt] at q; omega
    · skip
      refine own_iload_n (pc' := 5) rfl d_pci_4 rfl ?_
      refine own_iload_n (pc' := 6) rfl d_pci_5 rfl ?_
      refine own_icmplt (pcT := 16) (pcF := 9) d_pci_6 (by decide) (by decide) rfl (fun q2 => ?_) (fun q2 => ?_)
      · skip
        refine own_iload_n (pc' := 17) rfl d_pci_16 rfl ?_
        refine own_ireturn rfl d_pci_17 rfl rfl ?_
        exact ⟨rfl, rfl⟩
      · rw [Int32.lt_iff_toInt_lt] at q2; omega
theorem d_ski_0 : decode jdk_42_method_155_code 0 = .ok (.iload_n 0, 1) := by decide +kernel
theorem d_ski_1 : decode jdk_42_method_155_code 1 = .ok (.iload_n 1, 1) := by decide +kernel
theorem d_ski_2 : decode jdk_42_method_155_code 2 = .ok (.getstatic 1053, 3) := by decide +kernel
theorem d_ski_5 : decode jdk_42_method_155_code 5 = .ok (.invokestatic 1059, 3) := by decide +kernel
theorem d_ski_8 : decode jdk_42_method_155_code 8 = .ok (.pop, 1) := by decide +kernel
theorem d_ski_9 : decode jdk_42_method_155_code 9 = .ok (.return_, 1) := by decide +kernel
abbrev M_ski : own_Mi := ((⟨"java/lang/String", "checkIndex", "(II)V"⟩ : MethodName), jdk_42_method_155_code, 2, (Option.none : Option FieldType), ({ frames := 1, cells := 0, slots := 0, locals := 14 } : Room))
theorem pn_ski : plainFor (own_Mi.y M_ski) = true := plainFor_of_name (by first | (simp [plainName, overriddenIn]; done) | decide +kernel)
set_option maxRecDepth 65536 in
set_option maxHeartbeats 40000000 in
theorem c_ski (K : own_Cx) (a0 : Array Value) (hw : ∀ d ∈ tables_1, d.before a0 K.Z = true) (rf : Value) (hrf : rf.isRef = true) (SF : Sta K.Z K.Z.heap "jdk/internal/util/Preconditions" "SIOOBE_FORMATTER" "Ljava/util/function/BiFunction;" rf) (i n : Int32) (h : Heap) (h0 : 0 ≤ i.toInt) (h1 : i.toInt < n.toInt) :
    own_Met K M_ski #[.int i, .int n] [] h (own_void fun h' _ => h' = h) := by
  refine own_met_2_0 (M := M_ski) pn_ski rfl (by first | rfl | exact own_cat (by assumption)) (by first | rfl | exact own_cat (by assumption)) ?_
  refine own_iload_n (pc' := 1) rfl d_ski_0 rfl ?_
  refine own_iload_n (pc' := 2) rfl d_ski_1 rfl ?_
  refine own_getS (pc' := 5) rfl d_ski_2 (tw_74 hw) Via.refl (by assumption) ?_
  refine own_static3v (M' := M_pci) d_ski_5 (pc' := 8) rfl (tw_76 hw) (tw_77 hw) (tw_75 hw) (tw_78 hw) (by decide) rfl (own_lenOf pd_9 rfl) rfl rfl rfl rfl (c_pci K a0 hw rf hrf i n h h0 h1) (by simp) ?_
  rintro w h2 xs ⟨rfl, rfl⟩
  refine own_pop (pc' := 9) rfl d_ski_8 (by first | rfl | assumption) ?_
  refine own_return rfl d_ski_9 rfl rfl ?_
  rfl
theorem d_lca_0 : decode jdk_43_method_2_code 0 = .ok (.iload_n 1, 1) := by decide +kernel
theorem d_lca_1 : decode jdk_43_method_2_code 1 = .ok (.aload_n 0, 1) := by decide +kernel
theorem d_lca_2 : decode jdk_43_method_2_code 2 = .ok (.arraylength, 1) := by decide +kernel
theorem d_lca_3 : decode jdk_43_method_2_code 3 = .ok (.invokestatic 9, 3) := by decide +kernel
theorem d_lca_6 : decode jdk_43_method_2_code 6 = .ok (.aload_n 0, 1) := by decide +kernel
theorem d_lca_7 : decode jdk_43_method_2_code 7 = .ok (.iload_n 1, 1) := by decide +kernel
theorem d_lca_8 : decode jdk_43_method_2_code 8 = .ok (.baload, 1) := by decide +kernel
theorem d_lca_9 : decode jdk_43_method_2_code 9 = .ok (.sipush 255, 3) := by decide +kernel
theorem d_lca_12 : decode jdk_43_method_2_code 12 = .ok (.iand, 1) := by decide +kernel
theorem d_lca_13 : decode jdk_43_method_2_code 13 = .ok (.i2c, 1) := by decide +kernel
theorem d_lca_14 : decode jdk_43_method_2_code 14 = .ok (.ireturn, 1) := by decide +kernel
abbrev M_lca : own_Mi := ((⟨"java/lang/StringLatin1", "charAt", "([BI)C"⟩ : MethodName), jdk_43_method_2_code, 2, (Option.some FieldType.char), ({ frames := 2, cells := 0, slots := 0, locals := 27 } : Room))
theorem pn_lca : plainFor (own_Mi.y M_lca) = true := plainFor_of_name (by first | (simp [plainName, overriddenIn]; done) | decide +kernel)
set_option maxRecDepth 65536 in
set_option maxHeartbeats 40000000 in
theorem c_lca (K : own_Cx) (a0 : Array Value) (hw : ∀ d ∈ tables_1, d.before a0 K.Z = true) (rf : Value) (hrf : rf.isRef = true) (SF : Sta K.Z K.Z.heap "jdk/internal/util/Preconditions" "SIOOBE_FORMATTER" "Ljava/util/function/BiFunction;" rf) (b : Addr) (cs : List Int32) (j : Int32) (i : Nat) (c : Int32) (h : Heap) (hcs : own_Chs cs) (hl : cs.length < 2 ^ 30) (ql : own_lat cs = true) (B : own_Ary K.Z h b .byte (own_ints (cs.map own_bt))) (hj : j.toInt = i) (hc : cs[i]? = some c) :
    own_Met K M_lca #[.ref b, .int j] [] h (own_ret fun w h' _ => w = .int c ∧ h' = h) := by
  have hi := (List.getElem?_eq_some_iff.mp hc).1
  have hn : (cs.length.toInt32).toInt = cs.length := own_lit _ (by omega)
  have hcr := hcs c (List.mem_of_getElem? hc)
  have hc2 := own_lat_get ql hc
  refine own_met_2_0 (M := M_lca) pn_lca rfl (by first | rfl | exact own_cat (by assumption)) (by first | rfl | exact own_cat (by assumption)) ?_
  refine own_iload_n (pc' := 1) rfl d_lca_0 rfl ?_
  refine own_aload_n (pc' := 2) rfl d_lca_1 rfl (by first | rfl | assumption) ?_
  refine own_arrlen (z := cs.length.toInt32) (pc' := 3) rfl d_lca_2 B (by rw [hn]; simp) ?_
  refine own_static2n (M' := M_ski) d_lca_3 (pc' := 6) rfl (tw_71 hw) (tw_72 hw) (tw_7 hw) (tw_73 hw) (by decide) rfl (own_lenOf pd_10 rfl) rfl rfl rfl rfl (c_ski K a0 hw rf hrf SF j _ h (by omega) (by omega)) (by simp) ?_
  rintro h1 xs rfl
  refine own_aload_n (pc' := 7) rfl d_lca_6 rfl (by first | rfl | assumption) ?_
  refine own_iload_n (pc' := 8) rfl d_lca_7 rfl ?_
  refine own_baload (pc' := 9) rfl d_lca_8 B (i := i) hj (by first | exact own_ints_get hc | exact own_ints_getM hc) ?_
  refine own_sipush (v := (255 : Int32)) (pc' := 12) rfl d_lca_9 rfl ?_
  refine own_iand (pc' := 13) rfl d_lca_12 ?_
  refine own_i2c (pc' := 14) rfl d_lca_13 ?_
  rw [own_lat_byte hcr.1 hc2, own_i2c_id hcr.1 hcr.2]
  refine own_ireturnN (t := .char) rfl (by simp) (own_i2c_id hcr.1 hcr.2) d_lca_14 rfl rfl ?_
  exact ⟨rfl, rfl⟩
theorem d_uci_0 : decode jdk_52_method_91_code 0 = .ok (.iload_n 0, 1) := by decide +kernel
theorem d_uci_1 : decode jdk_52_method_91_code 1 = .ok (.aload_n 1, 1) := by decide +kernel
theorem d_uci_2 : decode jdk_52_method_91_code 2 = .ok (.invokestatic 48, 3) := by decide +kernel
theorem d_uci_5 : decode jdk_52_method_91_code 5 = .ok (.invokestatic 414, 3) := by decide +kernel
theorem d_uci_8 : decode jdk_52_method_91_code 8 = .ok (.return_, 1) := by decide +kernel
abbrev M_uci : own_Mi := ((⟨"java/lang/StringUTF16", "checkIndex", "(I[B)V"⟩ : MethodName), jdk_52_method_91_code, 2, (Option.none : Option FieldType), ({ frames := 2, cells := 0, slots := 0, locals := 27 } : Room))
theorem pn_uci : plainFor (own_Mi.y M_uci) = true := plainFor_of_name (by first | (simp [plainName, overriddenIn]; done) | decide +kernel)
set_option maxRecDepth 65536 in
set_option maxHeartbeats 40000000 in
theorem c_uci (K : own_Cx) (a0 : Array Value) (hw : ∀ d ∈ tables_1, d.before a0 K.Z = true) (rf : Value) (hrf : rf.isRef = true) (SF : Sta K.Z K.Z.heap "jdk/internal/util/Preconditions" "SIOOBE_FORMATTER" "Ljava/util/function/BiFunction;" rf) (b : Addr) (cs : List Int32) (j : Int32) (i : Nat) (h : Heap) (hl : cs.length < 2 ^ 30) (B : own_Ary K.Z h b .byte (own_ints (own_two cs))) (hj : j.toInt = i) (hi : i < cs.length) :
    own_Met K M_uci #[.int j, .ref b] [] h (own_void fun h' _ => h' = h) := by
  have hn : (cs.length.toInt32).toInt = cs.length := own_lit _ (by omega)
  refine own_met_2_0 (M := M_uci) pn_uci rfl (by first | rfl | exact own_cat (by assumption)) (by first | rfl | exact own_cat (by assumption)) ?_
  refine own_iload_n (pc' := 1) rfl d_uci_0 rfl ?_
  refine own_aload_n (pc' := 2) rfl d_uci_1 rfl (by first | rfl | assumption) ?_
  refine own_static1v (M' := M_ul) d_uci_2 (pc' := 5) rfl (tw_241 hw) (tw_242 hw) (tw_21 hw) (tw_243 hw) (by decide) rfl (own_lenOf pd_11 rfl) rfl rfl rfl rfl (c_ul K a0 hw b cs h hl B) (by simp) ?_
  rintro w h1 xs ⟨rfl, rfl⟩
  refine own_static2n (M' := M_ski) d_uci_5 (pc' := 8) rfl (tw_244 hw) (tw_72 hw) (tw_7 hw) (tw_73 hw) (by decide) rfl (own_lenOf pd_10 rfl) rfl rfl rfl rfl (c_ski K a0 hw rf hrf SF j _ h1 (by omega) (by omega)) (by simp) ?_
  rintro h2 xs2 rfl
  refine own_return rfl d_uci_8 rfl rfl ?_
  rfl
theorem d_uca_0 : decode jdk_52_method_83_code 0 = .ok (.iload_n 1, 1) := by decide +kernel
theorem d_uca_1 : decode jdk_52_method_83_code 1 = .ok (.aload_n 0, 1) := by decide +kernel
theorem d_uca_2 : decode jdk_52_method_83_code 2 = .ok (.invokestatic 67, 3) := by decide +kernel
theorem d_uca_5 : decode jdk_52_method_83_code 5 = .ok (.aload_n 0, 1) := by decide +kernel
theorem d_uca_6 : decode jdk_52_method_83_code 6 = .ok (.iload_n 1, 1) := by decide +kernel
theorem d_uca_7 : decode jdk_52_method_83_code 7 = .ok (.invokestatic 71, 3) := by decide +kernel
theorem d_uca_10 : decode jdk_52_method_83_code 10 = .ok (.ireturn, 1) := by decide +kernel
abbrev M_uca : own_Mi := ((⟨"java/lang/StringUTF16", "charAt", "([BI)C"⟩ : MethodName), jdk_52_method_83_code, 2, (Option.some FieldType.char), ({ frames := 3, cells := 0, slots := 0, locals := 40 } : Room))
theorem pn_uca : plainFor (own_Mi.y M_uca) = true := plainFor_of_name (by first | (simp [plainName, overriddenIn]; done) | decide +kernel)
set_option maxRecDepth 65536 in
set_option maxHeartbeats 40000000 in
theorem c_uca (K : own_Cx) (a0 : Array Value) (hw : ∀ d ∈ tables_1, d.before a0 K.Z = true) (hU : own_U16 K) (rf : Value) (hrf : rf.isRef = true) (SF : Sta K.Z K.Z.heap "jdk/internal/util/Preconditions" "SIOOBE_FORMATTER" "Ljava/util/function/BiFunction;" rf) (b : Addr) (cs : List Int32) (j : Int32) (i : Nat) (c : Int32) (h : Heap) (hcs : own_Chs cs) (hl : cs.length < 2 ^ 29) (B : own_Ary K.Z h b .byte (own_ints (own_two cs))) (hj : j.toInt = i) (hc : cs[i]? = some c) :
    own_Met K M_uca #[.ref b, .int j] [] h (own_ret fun w h' _ => w = .int c ∧ h' = h) := by
  have hi := (List.getElem?_eq_some_iff.mp hc).1
  have hcr := hcs c (List.mem_of_getElem? hc)
  refine own_met_2_0 (M := M_uca) pn_uca rfl (by first | rfl | exact own_cat (by assumption)) (by first | rfl | exact own_cat (by assumption)) ?_
  refine own_iload_n (pc' := 1) rfl d_uca_0 rfl ?_
  refine own_aload_n (pc' := 2) rfl d_uca_1 rfl (by first | rfl | assumption) ?_
  refine own_static2n (M' := M_uci) d_uca_2 (pc' := 5) rfl (tw_238 hw) (tw_239 hw) (tw_21 hw) (tw_240 hw) (by decide) rfl (own_lenOf pd_12 rfl) rfl rfl rfl rfl (c_uci K a0 hw rf hrf SF b cs j i h (by omega) B hj hi) (by simp) ?_
  rintro h1 xs rfl
  refine own_aload_n (pc' := 6) rfl d_uca_5 rfl (by first | rfl | assumption) ?_
  refine own_iload_n (pc' := 7) rfl d_uca_6 rfl ?_
  refine own_static2v (M' := M_gc) d_uca_7 (pc' := 10) rfl (tw_232 hw) (tw_233 hw) (tw_21 hw) (tw_234 hw) (by decide) rfl (own_lenOf pd_5 rfl) rfl rfl rfl rfl (c_gc K a0 hw hU b j i c cs h1 hj hc (by omega) hcs B) (by simp) ?_
  rintro w h2 xs2 ⟨rfl, rfl⟩
  refine own_ireturnN (t := .char) rfl (by simp) (own_i2c_id hcr.1 hcr.2) d_uca_10 rfl rfl ?_
  exact ⟨rfl, rfl⟩
theorem d_sca_0 : decode jdk_42_method_56_code 0 = .ok (.aload_n 0, 1) := by decide +kernel
theorem d_sca_1 : decode jdk_42_method_56_code 1 = .ok (.invokevirtual 492, 3) := by decide +kernel
theorem d_sca_4 : decode jdk_42_method_56_code 4 = .ok (.ifCond .eq 12, 3) := by decide +kernel
theorem d_sca_7 : decode jdk_42_method_56_code 7 = .ok (.aload_n 0, 1) := by decide +kernel
theorem d_sca_8 : decode jdk_42_method_56_code 8 = .ok (.getfield 9, 3) := by decide +kernel
theorem d_sca_11 : decode jdk_42_method_56_code 11 = .ok (.iload_n 1, 1) := by decide +kernel
theorem d_sca_12 : decode jdk_42_method_56_code 12 = .ok (.invokestatic 495, 3) := by decide +kernel
theorem d_sca_15 : decode jdk_42_method_56_code 15 = .ok (.ireturn, 1) := by decide +kernel
theorem d_sca_16 : decode jdk_42_method_56_code 16 = .ok (.aload_n 0, 1) := by decide +kernel
theorem d_sca_17 : decode jdk_42_method_56_code 17 = .ok (.getfield 9, 3) := by decide +kernel
theorem d_sca_20 : decode jdk_42_method_56_code 20 = .ok (.iload_n 1, 1) := by decide +kernel
theorem d_sca_21 : decode jdk_42_method_56_code 21 = .ok (.invokestatic 498, 3) := by decide +kernel
theorem d_sca_24 : decode jdk_42_method_56_code 24 = .ok (.ireturn, 1) := by decide +kernel
abbrev M_sca : own_Mi := ((⟨"java/lang/String", "charAt", "(I)C"⟩ : MethodName), jdk_42_method_56_code, 2, (Option.some FieldType.char), ({ frames := 4, cells := 0, slots := 0, locals := 53 } : Room))
theorem pn_sca : plainFor (own_Mi.y M_sca) = true := plainFor_of_name (by first | (simp [plainName, overriddenIn]; done) | decide +kernel)
set_option maxRecDepth 65536 in
set_option maxHeartbeats 40000000 in
theorem c_sca (K : own_Cx) (a0 : Array Value) (hw : ∀ d ∈ tables_1, d.before a0 K.Z = true)
    (hU : own_U16 K)
    (g : Int32) (SC : Sta K.Z K.Z.heap own_sC "COMPACT_STRINGS" "Z" (.int g)) (hg : ¬ g = 0) (rf : Value) (hrf : rf.isRef = true) (SF : Sta K.Z K.Z.heap "jdk/internal/util/Preconditions" "SIOOBE_FORMATTER" "Ljava/util/function/BiFunction;" rf) (x : Addr) (cs : List Int32) (j : Int32) (i : Nat) (c : Int32) (h : Heap) (S : own_Str K.Z h x cs) (hl2 : cs.length < 2 ^ 29) (hj : j.toInt = i) (hc : cs[i]? = some c)
    : own_Met K M_sca #[.ref x, .int j] [] h (own_ret fun w h' _ => w = .int c ∧ h' = h) := by
  have S' := S
  obtain ⟨E, hcs, hl, b, FV, FC, B⟩ := S'
  have hcr := hcs c (List.mem_of_getElem? hc)
  refine own_met_2_0 (M := M_sca) pn_sca rfl (by first | rfl | exact own_cat (by assumption)) (by first | rfl | exact own_cat (by assumption)) ?_
  refine own_aload_n (pc' := 1) rfl d_sca_0 rfl (by first | rfl | assumption) ?_
  refine own_virtual0v (M' := M_isl) d_sca_1 (pc' := 4) rfl (tw_62 hw) (tw_63 hw) (tw_65 hw) (tw_64 hw) (tw_7 hw) (tw_66 hw) (by decide) rfl (own_lenOf pd_13 rfl) rfl rfl rfl rfl E (c_isl K a0 hw g SC hg x cs h S) (by simp) ?_
  rintro w h1 xs ⟨rfl, rfl⟩
  cases ql : own_lat cs
  · skip
    refine own_ifeq (pcT := 16) (pcF := 7) d_sca_4 (by decide) (by decide) rfl (fun q => ?_) (fun q => ?_)
    · skip
      refine own_aload_n (pc' := 17) rfl d_sca_16 rfl (by first | rfl | assumption) ?_
      refine own_getF (pc' := 20) rfl d_sca_17 (tw_32 hw) Via.refl (by assumption) ?_
      refine own_iload_n (pc' := 21) rfl d_sca_20 rfl ?_
      refine own_static2v (M' := M_uca) d_sca_21 (pc' := 24) rfl (tw_235 hw) (tw_236 hw) (tw_21 hw) (tw_237 hw) (by decide) rfl (own_lenOf pd_5 rfl) rfl rfl rfl rfl (c_uca K a0 hw hU rf hrf SF b cs j i c h1 hcs hl2 (by rw [(own_enc_utf ql).1] at B; exact B) hj hc) (by simp) ?_
      rintro w h2 xs2 ⟨rfl, rfl⟩
      refine own_ireturnN (t := .char) rfl (by simp) (own_i2c_id hcr.1 hcr.2) d_sca_24 rfl rfl ?_
      exact ⟨rfl, rfl⟩
    · exact absurd rfl q
  · skip
    refine own_ifeq (pcT := 16) (pcF := 7) d_sca_4 (by decide) (by decide) rfl (fun q => ?_) (fun q => ?_)
    · exact absurd q (by decide)
    · skip
      refine own_aload_n (pc' := 8) rfl d_sca_7 rfl (by first | rfl | assumption) ?_
      refine own_getF (pc' := 11) rfl d_sca_8 (tw_32 hw) Via.refl (by assumption) ?_
      refine own_iload_n (pc' := 12) rfl d_sca_11 rfl ?_
      refine own_static2v (M' := M_lca) d_sca_12 (pc' := 15) rfl (tw_67 hw) (tw_68 hw) (tw_69 hw) (tw_70 hw) (by decide) rfl (own_lenOf pd_5 rfl) rfl rfl rfl rfl (c_lca K a0 hw rf hrf SF b cs j i c h1 hcs hl ql (by rw [(own_enc_lat ql).1] at B; exact B) hj hc) (by simp) ?_
      rintro w h2 xs2 ⟨rfl, rfl⟩
      refine own_ireturnN (t := .char) rfl (by simp) (own_i2c_id hcr.1 hcr.2) d_sca_15 rfl rfl ?_
      exact ⟨rfl, rfl⟩
theorem own_fld_inj {Z : State} {h : Heap} {a : Addr} {C n d : String} {v w : Value} (F : Fld Z h a C n d v) (G : Fld Z h a C n d w) : v = w := by
  refine Decidable.byContradiction fun q => ?_
  exact F.ne G q rfl
theorem d_cen_0 : decode jdk_43_method_3_code 0 = .ok (.iload_n 0, 1) := by decide +kernel
theorem d_cen_1 : decode jdk_43_method_3_code 1 = .ok (.sipush 255, 3) := by decide +kernel
theorem d_cen_4 : decode jdk_43_method_3_code 4 = .ok (.if_icmp .gt 7, 3) := by decide +kernel
theorem d_cen_7 : decode jdk_43_method_3_code 7 = .ok (.iconst 1, 1) := by decide +kernel
theorem d_cen_8 : decode jdk_43_method_3_code 8 = .ok (.goto 4, 3) := by decide +kernel
theorem d_cen_11 : decode jdk_43_method_3_code 11 = .ok (.iconst 0, 1) := by decide +kernel
theorem d_cen_12 : decode jdk_43_method_3_code 12 = .ok (.ireturn, 1) := by decide +kernel
abbrev M_cen : own_Mi := ((⟨"java/lang/StringLatin1", "canEncode", "(C)Z"⟩ : MethodName), jdk_43_method_3_code, 1, (Option.some FieldType.boolean), ({ frames := 0, cells := 0, slots := 0, locals := 0 } : Room))
theorem pn_cen : plainFor (own_Mi.y M_cen) = true := plainFor_of_name (by first | (simp [plainName, overriddenIn]; done) | decide +kernel)
set_option maxRecDepth 65536 in
set_option maxHeartbeats 40000000 in
theorem c_cen (K : own_Cx) (a0 : Array Value) (hw : ∀ d ∈ tables_1, d.before a0 K.Z = true) (c : Int32) (h : Heap) :
    own_Met K M_cen #[.int c] [] h (own_ret fun w h' _ => w = .int (if c.toInt < 256 then 1 else 0) ∧ h' = h) := by
  have z : (255 : Int32).toInt = 255 := rfl
  refine own_met_1_0 (M := M_cen) pn_cen rfl (by first | rfl | exact own_cat (by assumption)) ?_
  refine own_iload_n (pc' := 1) rfl d_cen_0 rfl ?_
  refine own_sipush (v := (255 : Int32)) (pc' := 4) rfl d_cen_1 rfl ?_
  refine own_icmpgt (pcT := 11) (pcF := 7) d_cen_4 (by decide) (by decide) rfl (fun q => ?_) (fun q => ?_)
  · skip
    refine own_iconst (v := (0 : Int32)) (pc' := 12) rfl d_cen_11 rfl ?_
    refine own_ireturnN (t := .boolean) rfl (by simp) (by first | exact own_nb0 | exact own_nb1 | rfl) d_cen_12 rfl rfl ?_
    rw [Int32.lt_iff_toInt_lt] at q
    exact ⟨by rw [if_neg]; omega, rfl⟩
  · skip
    refine own_iconst (v := (1 : Int32)) (pc' := 8) rfl d_cen_7 rfl ?_
    refine own_goto (pc' := 12) d_cen_8 (by decide) (by decide) ?_
    refine own_ireturnN (t := .boolean) rfl (by simp) (by first | exact own_nb0 | exact own_nb1 | rfl) d_cen_12 rfl rfl ?_
    rw [Int32.lt_iff_toInt_lt] at q
    exact ⟨by rw [if_pos]; omega, rfl⟩
/-! System.arraycopy between arrays of one primitive type -/
theorem own_toArv {Z : State} {h : Heap} {b : Addr} {ty : FieldType} {vs : List Value} {d : Value} (F : own_Ary Z h b ty vs) (hf : ∀ v ∈ vs, fits ty v = true) : ∃ k : ClassId, Arv Z h b k ty vs.length.toInt32 vs d := by
  obtain ⟨c, A, r1, r2⟩ := F
  have e1 : (vs.length.toInt32).toInt = vs.length := own_len r2
  have e2 : (vs.length.toInt32).toNatClampNeg = vs.length := by
    have : (vs.length.toInt32).toNatClampNeg = (vs.length.toInt32).toInt.toNat := rfl
    rw [this, e1]; rfl
  refine ⟨c.cls, c, A, rfl, by rw [r1, e2]; simp, fun z => ?_, fun i hi => ?_, fun i hi => ?_⟩
  · rw [Int32.lt_iff_toInt_lt, e1] at z
    have : (0 : Int32).toInt = 0 := rfl
    omega
  · have hi' : i < vs.length := by rw [r1] at hi; simpa using hi
    rw [r1]; simp [hi']
  · have hi' : i < vs.length := by rw [r1] at hi; simpa using hi
    have : vs.getD i d = vs[i] := by simp [hi']
    rw [this]
    exact hf _ (List.getElem_mem hi')
theorem own_cut {vs : List Value} {d : Value} {S N : Nat} (q : S + N ≤ vs.length) : (List.range N).map (fun i => vs.getD (S + i) d) = (vs.drop S).take N := by
  apply List.ext_getElem
  · simp; omega
  · intro i h1 h2
    have : i < N := by simpa using h1
    simp [show S + i < vs.length by omega]
theorem own_acopy {K : own_Cx} {M : own_Mi} {Q : own_Q} {pc pc' : Nat} {Ls : List Slot} {rest : List Value} {sf : List Addr} {h : Heap} {cs sl : Nat} {a0 : Array Value} {index : Nat} {a b : Addr} {ty : FieldType} {vs vd : List Value} {sp dp nn : Int32} {S D N : Nat}
    (hp : pc + 3 = pc') (hd : decode M.b pc = .ok (.invokestatic index, 3)) (w1 : (Jvm.Cond.methodLink M.y.cls index Jvm.Stand.acN).before a0 K.Z = true) (w2 : (Jvm.Cond.native Jvm.Stand.acN).before a0 K.Z = true) (w3 : (Jvm.Cond.static Jvm.Stand.acN).before a0 K.Z = true) (w4 : (Jvm.Cond.initialized "java/lang/System").before a0 K.Z = true)
    (hsz : Ls.length = M.mx) (hf : Nat.ble 1 M.R.frames = true) (hl : Nat.ble ((rest.map fun v => v.category).sum + (nativeFrameWords "java/lang/System" "arraycopy" 5 + 11)) M.R.locals = true) (hty : refKind ty = false)
    (A : own_Ary K.Z h a ty vs) (B : own_Ary K.Z h b ty vd) (fa : ∀ v ∈ vs, fits ty v = true) (fb : ∀ v ∈ vd, fits ty v = true) (hS : sp.toInt = S) (hD : dp.toInt = D) (hN : nn.toInt = N) (h4 : S + N ≤ vs.length) (h5 : D + N ≤ vd.length) (hbs : b ∈ sf)
    (k : ∀ h', Keep h h' [b] → own_Ary K.Z h' b ty (vd.take D ++ (vs.drop S).take N ++ vd.drop (D + N)) → own_WP K M Q pc' Ls rest sf h' cs sl) : own_WP K M Q pc Ls (.int nn :: .int dp :: .ref b :: .int sp :: .ref a :: rest) sf h cs sl := by
  subst hp
  intro p e s vm0 k0 m args below meth c T locs cs' sl' Bd X hc' hs' eT Fn I
  obtain ⟨i1, i2, i3, i4, i5, i6⟩ := I
  obtain ⟨ka, Aa⟩ := own_toArv (d := .int 0) A fa
  obtain ⟨kb, Ab⟩ := own_toArv (d := .int 0) B fb
  have lv : vs.length < 2 ^ 31 := by obtain ⟨_, _, _, r⟩ := A; exact r
  have ld : vd.length < 2 ^ 31 := by obtain ⟨_, _, _, r⟩ := B; exact r
  have nat : ∀ {x : Int32} {n : Nat}, x.toInt = n → x.toNatClampNeg = n ∧ ¬ x < 0 := fun {x n} q => by
    refine ⟨?_, fun z => ?_⟩
    · have : x.toNatClampNeg = x.toInt.toNat := rfl
      rw [this, q]; rfl
    · rw [Int32.lt_iff_toInt_lt, q] at z
      have : (0 : Int32).toInt = 0 := rfl
      omega
  have z1 := nat hS
  have z2 := nat hD
  have z3 := nat hN
  have z4 := nat (own_len lv)
  have z5 := nat (own_len ld)
  have hn := (i5 b hbs).1
  obtain ⟨T', h', L, X', e', N', kp, A', st⟩ := cpA X Bd.1 Bd.2.2.2.2.2.2.2.1 Bd.2.2.2.1 w1 w2 w3 w4 eT Aa Ab (Or.inl ⟨rfl, hty⟩) z1.2 z2.2 z3.2 (by omega) (by omega) rfl (by omega) Fn hn (g := mkF m pc Ls.toArray (.int nn :: .int dp :: .ref b :: .int sp :: .ref a :: rest)) rfl (by rw [Bd.2.2.1, ← hsz]; simp) rfl (hb Bd.2.1 hd) (Nat.le_of_ble_eq_true hf) (W := (rest.map fun v => v.category).sum) (by show 2 * 0 + _ ≤ _; omega) (Nat.le_of_ble_eq_true hl)
  rw [z1.1, z2.1, z3.1, own_cut h4] at A'
  have sk : ∀ x ∈ [b], Safe K.Z K.E vm0 h x := fun x hx => by cases List.mem_singleton.mp hx; exact (i5 b hbs).2.2
  have A2 : own_Ary K.Z h' b ty (vd.take D ++ (vs.drop S).take N ++ vd.drop (D + N)) := by
    have hl2 : (vd.take D ++ (vs.drop S).take N ++ vd.drop (D + N)).length = vd.length := by simp; omega
    obtain ⟨c, g1, -, g3, g4, g5, -⟩ := A'
    refine ⟨c, g1, ?_, by rw [hl2]; exact ld⟩
    apply Array.ext
    · rw [g3, z5.1]; simp; omega
    · intro i hi1 hi2
      have := g5 i hi1
      have hi3 : i < (vd.take D ++ (vs.drop S).take N ++ vd.drop (D + N)).length := by rw [hl2]; rw [g3, z5.1] at hi1; exact hi1
      simp only [Array.getElem?_eq_getElem hi1, List.getD_eq_getElem?_getD, List.getElem?_eq_getElem hi3, Option.getD_some, Option.some.injEq] at this
      simpa using this
  obtain ⟨s₂, o, h1, r⟩ := k h' kp A2 p e s vm0 k0 m args below meth c T' L cs' sl' Bd X' hc' hs' e' N'
    ⟨i1, Nat.le_trans i2 kp.1, i3, i4.trans (CHr.keep kp sk i4.1), fun x hx => ⟨(i5 x hx).1, Nat.lt_of_lt_of_le (i5 x hx).2.1 kp.1, Safe.keep kp sk i4.1 (i5 x hx).2.2⟩, ⟨Nat.le_trans i6.1 kp.1, fun x cc q => kp.2.1 x cc (i6.2 x cc q) fun hm => by
      have h1 := (Array.getElem?_eq_some_iff.mp q).1
      cases List.mem_singleton.mp hm
      exact Nat.lt_irrefl _ (Nat.lt_of_lt_of_le h1 hn)⟩⟩
  exact ⟨s₂, o, st _ h1, r⟩
/-! calls of private methods, of superclass methods, of a method that a subclass overrides -/
theorem own_decl {Z : State} {a0 : Array Value} {y : MethodName} {b : ByteArray} {mx : Nat} {ret : Option FieldType} (w : (Jvm.Cond.instanceMethod y).before a0 Z = true) (wc : (Jvm.Cond.code y b mx ret).before a0 Z = true) : (Jvm.Cond.declares y).before a0 Z = true := by
  obtain ⟨mk, methM, hnamed, hmethM, hstM, habM⟩ := Cond.instanceMethod_spec w
  obtain ⟨m2, cM, q1, -, -, -, -, -, -, hsig⟩ := Cond.code_spec hnamed wc
  cases hmethM.symm.trans q1
  simp [Cond.before, Cond.holds, Cond.value, hnamed, hmethM, hstM, hsig]
theorem own_nf {s : State} {a0 : Array Value} {C : String} {y y' : MethodName} (w : (Jvm.Cond.selects C y' y').before a0 s = true) (hy : y'.cls = y.cls) : NotFace s y := fun r0 h0 => by
  obtain ⟨c2, r2, m2, q1, q2, q3, q4, kP, hkP, hkPi⟩ := Cond.selects_spec w
  have e1 := findClass_of_methodNamed h0
  have e2 := findClass_of_methodNamed q3
  rw [hy, e1] at e2
  have e3 := Option.some.inj e2
  exact ⟨kP, by rw [e3]; exact hkP, hkPi⟩
theorem own_same {s : State} {a0 : Array Value} {C : String} {y y' : MethodName} (wi : (Jvm.Cond.instanceMethod y).before a0 s = true) (w : (Jvm.Cond.selects C y' y').before a0 s = true) (hy : y'.cls = y.cls) (hx : y.cls ≠ "java/lang/invoke/MethodHandle" ∧ y.cls ≠ "java/lang/invoke/VarHandle") : (Jvm.Cond.sameMethod y.cls y.cls y.name y.desc).before a0 s = true := by
  obtain ⟨mk, methM, hnamed, hmethM, hstM, habM⟩ := Cond.instanceMethod_spec wi
  obtain ⟨kr, h1, h2⟩ := own_nf w hy mk hnamed
  have e1 := findClass_of_methodNamed hnamed
  have e2 := State.methodFound?_of_named hnamed hx
  have e3 : s.methodNamed? ⟨y.cls, y.name, y.desc⟩ = some mk := hnamed
  simp [Cond.before, Cond.holds, Cond.value, e1, e2, e3, h1, h2]
section Calls2
variable {K : own_Cx} {M M' : own_Mi} {Q Q' : own_Q} {pc pc' : Nat} {Ls : List Slot} {St rest : List Value} {sf sf' : List Addr} {h : Heap} {cs sl : Nat} {a0 : Array Value}
theorem own_vz {index : Nat} {a : Addr} {C C' : String} {y y' : MethodName} {argsL : List Value} (hd : decode M.b pc = .ok (.invokevirtual index, 3)) (hp : pc + 3 = pc') (w1 : (Jvm.Cond.methodLink M.y.cls index y).before a0 K.Z = true) (w2 : (Jvm.Cond.declares y).before a0 K.Z = true) (wn : (Jvm.Cond.selects C' y' y').before a0 K.Z = true) (hyy : y'.cls = y.cls) (w5 : (Jvm.Cond.selects C y M'.y).before a0 K.Z = true) (w6 : (Jvm.Cond.instanceMethod M'.y).before a0 K.Z = true) (w3 : (Jvm.Cond.initialized M'.y.cls).before a0 K.Z = true) (w4 : (Jvm.Cond.code M'.y M'.b M'.mx M'.ret).before a0 K.Z = true)
    (hy : y.cls ≠ "java/lang/invoke/MethodHandle" ∧ y.cls ≠ "java/lang/invoke/VarHandle") (hsz : Ls.length = M.mx) (hlen : ∀ sig, parseMethodDescriptor y.desc = some sig → argsL.length = sig.parameters.length) (hst : St = argsL.reverse ++ .ref a :: rest)
    (hf : Nat.ble (M'.R.frames + 1) M.R.frames = true) (hl : Nat.ble ((rest.map fun v => v.category).sum + (M'.mx + 11) + M'.R.locals) M.R.locals = true) (hc : Nat.ble (cs + M'.R.cells) M.R.cells = true) (hs : Nat.ble (sl + M'.R.slots) M.R.slots = true)
    (E : Exa K.Z h a C) (hM : own_Met K M' (.ref a :: argsL).toArray sf' h Q') (hsf : ∀ x ∈ sf', x ∈ sf) (k : ∀ v h' xs, Q' v h' xs → own_WP K M Q pc' Ls (v.toList ++ rest) (xs ++ sf) h' (cs + M'.R.cells) (sl + M'.R.slots)) : own_WP K M Q pc Ls St sf h cs sl := by
  subst hst hp
  intro p e s vm0 k0 m args below meth c T locs cs' sl' B X hc' hs' eT N I
  have q1 := Nat.le_of_ble_eq_true hf
  have q2 := Nat.le_of_ble_eq_true hl
  have q3 := Nat.le_of_ble_eq_true hc
  have q4 := Nat.le_of_ble_eq_true hs
  obtain ⟨cB, kB, r1, r2, r3⟩ := isOf (T := T) B.2.2.2.2.2.2.2.1 eT E
  obtain ⟨v, vm₁, B', -, X', hS, hg, P, st⟩ := X.virtualBackS B.1 (y := y) (z := M'.y) B.2.2.2.1 (mv B.2.2.2.2.2.2.2.1 w1) (mv B.2.2.2.2.2.2.2.1 w2) (own_nf (a0 := #[]) (mv B.2.2.2.2.2.2.2.1 wn) hyy) (mv B.2.2.2.2.2.2.2.1 w5) (mv B.2.2.2.2.2.2.2.1 w6) hy
    (own_back (W := (rest.map fun v => v.category).sum) hM hsf B.2.2.2.2.2.2.2.1 B.2.2.2.2.2.2.2.2 I w4 w3 q1 q2) r1 r3 (g := mkF m pc Ls.toArray (argsL.reverse ++ .ref a :: rest)) rfl (by rw [B.2.2.1, ← hsz]; simp) (Steps.refl _) (argsL := argsL) (rest := rest) hlen rfl (by show 2 * 0 + _ ≤ _; omega) (hb B.2.1 hd)
    (fun vm₁ _ => ⟨rfl, eT, by show cs' + _ ≤ _; omega, by show sl' + _ ≤ _; omega⟩)
  exact own_called k B hc' hs' eT N I X' hS hg P st
theorem own_up {index : Nat} {a : Addr} {C C' : String} {y' : MethodName} {argsL : List Value} (hd : decode M.b pc = .ok (.invokespecial index, 3)) (hp : pc + 3 = pc') (hn : M'.y.name ≠ "<init>") (w1 : (Jvm.Cond.methodLink M.y.cls index M'.y).before a0 K.Z = true) (w2 : (Jvm.Cond.superclass M.y.cls M'.y.cls).before a0 K.Z = true) (wn : (Jvm.Cond.selects C' y' y').before a0 K.Z = true) (hyy : y'.cls = M'.y.cls) (w6 : (Jvm.Cond.instanceMethod M'.y).before a0 K.Z = true) (w3 : (Jvm.Cond.initialized M'.y.cls).before a0 K.Z = true) (w4 : (Jvm.Cond.code M'.y M'.b M'.mx M'.ret).before a0 K.Z = true)
    (hy : M'.y.cls ≠ "java/lang/invoke/MethodHandle" ∧ M'.y.cls ≠ "java/lang/invoke/VarHandle") (hsz : Ls.length = M.mx) (hlen : ∀ sig, parseMethodDescriptor M'.y.desc = some sig → argsL.length = sig.parameters.length) (hst : St = argsL.reverse ++ .ref a :: rest)
    (hf : Nat.ble (M'.R.frames + 1) M.R.frames = true) (hl : Nat.ble ((rest.map fun v => v.category).sum + (M'.mx + 11) + M'.R.locals) M.R.locals = true) (hc : Nat.ble (cs + M'.R.cells) M.R.cells = true) (hs : Nat.ble (sl + M'.R.slots) M.R.slots = true)
    (E : Ins K.Z h a C true) (hM : own_Met K M' (.ref a :: argsL).toArray sf' h Q') (hsf : ∀ x ∈ sf', x ∈ sf) (k : ∀ v h' xs, Q' v h' xs → own_WP K M Q pc' Ls (v.toList ++ rest) (xs ++ sf) h' (cs + M'.R.cells) (sl + M'.R.slots)) : own_WP K M Q pc Ls St sf h cs sl := by
  subst hst hp
  intro p e s vm0 k0 m args below meth c T locs cs' sl' B X hc' hs' eT N I
  have q1 := Nat.le_of_ble_eq_true hf
  have q2 := Nat.le_of_ble_eq_true hl
  have q3 := Nat.le_of_ble_eq_true hc
  have q4 := Nat.le_of_ble_eq_true hs
  obtain ⟨v, vm₁, B', -, X', hS, hg, P, st⟩ := superBackS X B.1 B.2.2.2.2.2.2.2.1 (y := M'.y) B.2.2.2.1 w1 (own_same w6 wn hyy hy) w6 w2 hn
    (own_back (W := (rest.map fun v => v.category).sum) hM hsf B.2.2.2.2.2.2.2.1 B.2.2.2.2.2.2.2.2 I w4 w3 q1 q2) eT E (g := mkF m pc Ls.toArray (argsL.reverse ++ .ref a :: rest)) rfl (by rw [B.2.2.1, ← hsz]; simp) w4 (argsL := argsL) (rest := rest) hlen rfl (by show 2 * 0 + _ ≤ _; omega) (hb B.2.1 hd)
    (fun vm₁ _ => ⟨rfl, eT, by show cs' + _ ≤ _; omega, by show sl' + _ ≤ _; omega⟩)
  exact own_called k B hc' hs' eT N I X' hS hg P st
theorem own_fc {index count : Nat} {a : Addr} {C : String} {y : MethodName} {argsL : List Value} (hd : decode M.b pc = .ok (.invokeinterface index count, 5)) (hp : pc + 5 = pc') (w1 : (Jvm.Cond.methodLink M.y.cls index y).before a0 K.Z = true) (w2 : (Jvm.Cond.declares y).before a0 K.Z = true) (wf : (Jvm.Cond.interfaceMethod y.cls y.cls y.name y.desc).before a0 K.Z = true) (hwf : ((Jvm.Cond.interfaceMethod y.cls y.cls y.name y.desc).onTables && (Jvm.Cond.interfaceMethod y.cls y.cls y.name y.desc).keepsFace) = true) (w5 : (Jvm.Cond.selects C y M'.y).before a0 K.Z = true) (w6 : (Jvm.Cond.instanceMethod M'.y).before a0 K.Z = true) (w7 : (Jvm.Cond.publicMethod M'.y).before a0 K.Z = true) (w8 : (Jvm.Cond.unhidden C y.name y.desc).before a0 K.Z = true) (w9 : (Jvm.Cond.castable C y.cls).before a0 K.Z = true) (w3 : (Jvm.Cond.initialized M'.y.cls).before a0 K.Z = true) (w4 : (Jvm.Cond.code M'.y M'.b M'.mx M'.ret).before a0 K.Z = true)
    (hy : y.cls ≠ "java/lang/invoke/MethodHandle" ∧ y.cls ≠ "java/lang/invoke/VarHandle") (hsz : Ls.length = M.mx) (hlen : ∀ sig, parseMethodDescriptor y.desc = some sig → argsL.length = sig.parameters.length) (hst : St = argsL.reverse ++ .ref a :: rest)
    (hf : Nat.ble (M'.R.frames + 1) M.R.frames = true) (hl : Nat.ble ((rest.map fun v => v.category).sum + (M'.mx + 11) + M'.R.locals) M.R.locals = true) (hc : Nat.ble (cs + M'.R.cells) M.R.cells = true) (hs : Nat.ble (sl + M'.R.slots) M.R.slots = true)
    (E : Exa K.Z h a C) (hM : own_Met K M' (.ref a :: argsL).toArray sf' h Q') (hsf : ∀ x ∈ sf', x ∈ sf) (k : ∀ v h' xs, Q' v h' xs → own_WP K M Q pc' Ls (v.toList ++ rest) (xs ++ sf) h' (cs + M'.R.cells) (sl + M'.R.slots)) : own_WP K M Q pc Ls St sf h cs sl := by
  subst hst hp
  intro p e s vm0 k0 m args below meth c T locs cs' sl' B X hc' hs' eT N I
  have q1 := Nat.le_of_ble_eq_true hf
  have q2 := Nat.le_of_ble_eq_true hl
  have q3 := Nat.le_of_ble_eq_true hc
  have q4 := Nat.le_of_ble_eq_true hs
  obtain ⟨cB, kB, r1, r2, r3⟩ := isOf (T := T) B.2.2.2.2.2.2.2.1 eT E
  have hZ := B.2.2.2.2.2.2.2.1
  obtain ⟨v, vm₁, B', -, X', hS, hg, P, st⟩ := X.interfaceBackS B.1 (xi := y) (y := M'.y) B.2.2.2.1 (mv hZ w1) (mv hZ w2) (mv hZ wf hwf) (mv hZ w5) (mv hZ w6) (mv hZ w7) (mv hZ w8) (mv hZ w9) hy
    (own_back (W := (rest.map fun v => v.category).sum) hM hsf hZ B.2.2.2.2.2.2.2.2 I w4 w3 q1 q2) r1 r2 r3 (g := mkF m pc Ls.toArray (argsL.reverse ++ .ref a :: rest)) rfl (by rw [B.2.2.1, ← hsz]; simp) (Steps.refl _) (argsL := argsL) (rest := rest) hlen rfl (by show 2 * 0 + _ ≤ _; omega) (hb B.2.1 hd)
    (fun vm₁ _ => ⟨rfl, eT, by show cs' + _ ≤ _; omega, by show sl' + _ ≤ _; omega⟩)
  exact own_called k B hc' hs' eT N I X' hS hg P st
end Calls2
theorem own_vz0v {K : own_Cx} {M M' : own_Mi} {Q : own_Q} {pc pc' : Nat} {Ls : List Slot} {rest : List Value} {sf sf' : List Addr} {h : Heap} {cs sl : Nat} {a0 : Array Value} {index : Nat} {a : Addr} {C C' : String} {y y' : MethodName} {q' : Value → Heap → List Addr → Prop} (hd : decode M.b pc = .ok (.invokevirtual index, 3)) (hp : pc + 3 = pc') (w1 : (Jvm.Cond.methodLink M.y.cls index y).before a0 K.Z = true) (w2 : (Jvm.Cond.declares y).before a0 K.Z = true) (wn : (Jvm.Cond.selects C' y' y').before a0 K.Z = true) (hyy : y'.cls = y.cls) (w5 : (Jvm.Cond.selects C y M'.y).before a0 K.Z = true) (w6 : (Jvm.Cond.instanceMethod M'.y).before a0 K.Z = true) (w3 : (Jvm.Cond.initialized M'.y.cls).before a0 K.Z = true) (w4 : (Jvm.Cond.code M'.y M'.b M'.mx M'.ret).before a0 K.Z = true) (hy : y.cls ≠ "java/lang/invoke/MethodHandle" ∧ y.cls ≠ "java/lang/invoke/VarHandle") (hsz : Ls.length = M.mx) (hlen : ∀ sig, parseMethodDescriptor y.desc = some sig → 0 = sig.parameters.length)
    (hf : Nat.ble (M'.R.frames + 1) M.R.frames = true) (hl : Nat.ble ((rest.map fun v => v.category).sum + (M'.mx + 11) + M'.R.locals) M.R.locals = true) (hc : Nat.ble (cs + M'.R.cells) M.R.cells = true) (hs : Nat.ble (sl + M'.R.slots) M.R.slots = true) (E : Exa K.Z h a C) (hM : own_Met K M' #[.ref a] sf' h (own_ret q')) (hsf : ∀ x ∈ sf', x ∈ sf) (k : ∀ w h' xs, q' w h' xs → own_WP K M Q pc' Ls (w :: rest) (xs ++ sf) h' (cs + M'.R.cells) (sl + M'.R.slots)) :
    own_WP K M Q pc Ls (.ref a :: rest) sf h cs sl := own_vz (argsL := []) hd hp w1 w2 wn hyy w5 w6 w3 w4 hy hsz hlen rfl hf hl hc hs E hM hsf (fun v h' xs ⟨w, e, q⟩ => by subst e; exact k w h' xs q)
theorem own_up0v {K : own_Cx} {M M' : own_Mi} {Q : own_Q} {pc pc' : Nat} {Ls : List Slot} {rest : List Value} {sf sf' : List Addr} {h : Heap} {cs sl : Nat} {a0 : Array Value} {index : Nat} {a : Addr} {C C' : String} {y' : MethodName} {q' : Value → Heap → List Addr → Prop} (hd : decode M.b pc = .ok (.invokespecial index, 3)) (hp : pc + 3 = pc') (hn : M'.y.name ≠ "<init>") (w1 : (Jvm.Cond.methodLink M.y.cls index M'.y).before a0 K.Z = true) (w2 : (Jvm.Cond.superclass M.y.cls M'.y.cls).before a0 K.Z = true) (wn : (Jvm.Cond.selects C' y' y').before a0 K.Z = true) (hyy : y'.cls = M'.y.cls) (w6 : (Jvm.Cond.instanceMethod M'.y).before a0 K.Z = true) (w3 : (Jvm.Cond.initialized M'.y.cls).before a0 K.Z = true) (w4 : (Jvm.Cond.code M'.y M'.b M'.mx M'.ret).before a0 K.Z = true) (hy : M'.y.cls ≠ "java/lang/invoke/MethodHandle" ∧ M'.y.cls ≠ "java/lang/invoke/VarHandle") (hsz : Ls.length = M.mx) (hlen : ∀ sig, parseMethodDescriptor M'.y.desc = some sig → 0 = sig.parameters.length)
    (hf : Nat.ble (M'.R.frames + 1) M.R.frames = true) (hl : Nat.ble ((rest.map fun v => v.category).sum + (M'.mx + 11) + M'.R.locals) M.R.locals = true) (hc : Nat.ble (cs + M'.R.cells) M.R.cells = true) (hs : Nat.ble (sl + M'.R.slots) M.R.slots = true) (E : Ins K.Z h a C true) (hM : own_Met K M' #[.ref a] sf' h (own_ret q')) (hsf : ∀ x ∈ sf', x ∈ sf) (k : ∀ w h' xs, q' w h' xs → own_WP K M Q pc' Ls (w :: rest) (xs ++ sf) h' (cs + M'.R.cells) (sl + M'.R.slots)) :
    own_WP K M Q pc Ls (.ref a :: rest) sf h cs sl := own_up (argsL := []) hd hp hn w1 w2 wn hyy w6 w3 w4 hy hsz hlen rfl hf hl hc hs E hM hsf (fun v h' xs ⟨w, e, q⟩ => by subst e; exact k w h' xs q)
theorem own_up3v {K : own_Cx} {M M' : own_Mi} {Q : own_Q} {pc pc' : Nat} {Ls : List Slot} {rest : List Value} {sf sf' : List Addr} {h : Heap} {cs sl : Nat} {a0 : Array Value} {index : Nat} {a : Addr} {C C' : String} {y' : MethodName} {v0 v1 v2 : Value} {q' : Value → Heap → List Addr → Prop} (hd : decode M.b pc = .ok (.invokespecial index, 3)) (hp : pc + 3 = pc') (hn : M'.y.name ≠ "<init>") (w1 : (Jvm.Cond.methodLink M.y.cls index M'.y).before a0 K.Z = true) (w2 : (Jvm.Cond.superclass M.y.cls M'.y.cls).before a0 K.Z = true) (wn : (Jvm.Cond.selects C' y' y').before a0 K.Z = true) (hyy : y'.cls = M'.y.cls) (w6 : (Jvm.Cond.instanceMethod M'.y).before a0 K.Z = true) (w3 : (Jvm.Cond.initialized M'.y.cls).before a0 K.Z = true) (w4 : (Jvm.Cond.code M'.y M'.b M'.mx M'.ret).before a0 K.Z = true) (hy : M'.y.cls ≠ "java/lang/invoke/MethodHandle" ∧ M'.y.cls ≠ "java/lang/invoke/VarHandle") (hsz : Ls.length = M.mx) (hlen : ∀ sig, parseMethodDescriptor M'.y.desc = some sig → 3 = sig.parameters.length)
    (hf : Nat.ble (M'.R.frames + 1) M.R.frames = true) (hl : Nat.ble ((rest.map fun v => v.category).sum + (M'.mx + 11) + M'.R.locals) M.R.locals = true) (hc : Nat.ble (cs + M'.R.cells) M.R.cells = true) (hs : Nat.ble (sl + M'.R.slots) M.R.slots = true) (E : Ins K.Z h a C true) (hM : own_Met K M' #[.ref a, v0, v1, v2] sf' h (own_ret q')) (hsf : ∀ x ∈ sf', x ∈ sf) (k : ∀ w h' xs, q' w h' xs → own_WP K M Q pc' Ls (w :: rest) (xs ++ sf) h' (cs + M'.R.cells) (sl + M'.R.slots)) :
    own_WP K M Q pc Ls (v2 :: v1 :: v0 :: .ref a :: rest) sf h cs sl := own_up (argsL := [v0, v1, v2]) hd hp hn w1 w2 wn hyy w6 w3 w4 hy hsz hlen rfl hf hl hc hs E hM hsf (fun v h' xs ⟨w, e, q⟩ => by subst e; exact k w h' xs q)
theorem own_fc0v {K : own_Cx} {M M' : own_Mi} {Q : own_Q} {pc pc' : Nat} {Ls : List Slot} {rest : List Value} {sf sf' : List Addr} {h : Heap} {cs sl : Nat} {a0 : Array Value} {index : Nat} {a : Addr} {C : String} {count : Nat} {y : MethodName} {q' : Value → Heap → List Addr → Prop} (hd : decode M.b pc = .ok (.invokeinterface index count, 5)) (hp : pc + 5 = pc') (w1 : (Jvm.Cond.methodLink M.y.cls index y).before a0 K.Z = true) (w2 : (Jvm.Cond.declares y).before a0 K.Z = true) (wf : (Jvm.Cond.interfaceMethod y.cls y.cls y.name y.desc).before a0 K.Z = true) (hwf : ((Jvm.Cond.interfaceMethod y.cls y.cls y.name y.desc).onTables && (Jvm.Cond.interfaceMethod y.cls y.cls y.name y.desc).keepsFace) = true) (w5 : (Jvm.Cond.selects C y M'.y).before a0 K.Z = true) (w6 : (Jvm.Cond.instanceMethod M'.y).before a0 K.Z = true) (w7 : (Jvm.Cond.publicMethod M'.y).before a0 K.Z = true) (w8 : (Jvm.Cond.unhidden C y.name y.desc).before a0 K.Z = true) (w9 : (Jvm.Cond.castable C y.cls).before a0 K.Z = true) (w3 : (Jvm.Cond.initialized M'.y.cls).before a0 K.Z = true) (w4 : (Jvm.Cond.code M'.y M'.b M'.mx M'.ret).before a0 K.Z = true) (hy : y.cls ≠ "java/lang/invoke/MethodHandle" ∧ y.cls ≠ "java/lang/invoke/VarHandle") (hsz : Ls.length = M.mx) (hlen : ∀ sig, parseMethodDescriptor y.desc = some sig → 0 = sig.parameters.length)
    (hf : Nat.ble (M'.R.frames + 1) M.R.frames = true) (hl : Nat.ble ((rest.map fun v => v.category).sum + (M'.mx + 11) + M'.R.locals) M.R.locals = true) (hc : Nat.ble (cs + M'.R.cells) M.R.cells = true) (hs : Nat.ble (sl + M'.R.slots) M.R.slots = true) (E : Exa K.Z h a C) (hM : own_Met K M' #[.ref a] sf' h (own_ret q')) (hsf : ∀ x ∈ sf', x ∈ sf) (k : ∀ w h' xs, q' w h' xs → own_WP K M Q pc' Ls (w :: rest) (xs ++ sf) h' (cs + M'.R.cells) (sl + M'.R.slots)) :
    own_WP K M Q pc Ls (.ref a :: rest) sf h cs sl := own_fc (argsL := []) hd hp w1 w2 wf hwf w5 w6 w7 w8 w9 w3 w4 hy hsz hlen rfl hf hl hc hs E hM hsf (fun v h' xs ⟨w, e, q⟩ => by subst e; exact k w h' xs q)
theorem d_mmx_0 : decode jdk_29_method_65_code 0 = .ok (.iload_n 0, 1) := by decide +kernel
theorem d_mmx_1 : decode jdk_29_method_65_code 1 = .ok (.iload_n 1, 1) := by decide +kernel
theorem d_mmx_2 : decode jdk_29_method_65_code 2 = .ok (.if_icmp .lt 7, 3) := by decide +kernel
theorem d_mmx_5 : decode jdk_29_method_65_code 5 = .ok (.iload_n 0, 1) := by decide +kernel
theorem d_mmx_6 : decode jdk_29_method_65_code 6 = .ok (.goto 4, 3) := by decide +kernel
theorem d_mmx_9 : decode jdk_29_method_65_code 9 = .ok (.iload_n 1, 1) := by decide +kernel
theorem d_mmx_10 : decode jdk_29_method_65_code 10 = .ok (.ireturn, 1) := by decide +kernel
abbrev M_mmx : own_Mi := ((⟨"java/lang/Math", "max", "(II)I"⟩ : MethodName), jdk_29_method_65_code, 2, (Option.some FieldType.int), ({ frames := 0, cells := 0, slots := 0, locals := 0 } : Room))
theorem pn_mmx : plainFor (own_Mi.y M_mmx) = true := Jvm.Free.JP.mathPlain rfl (by decide +kernel)
set_option maxRecDepth 65536 in
set_option maxHeartbeats 40000000 in
theorem c_mmx (K : own_Cx) (a0 : Array Value) (hw : ∀ d ∈ tables_1, d.before a0 K.Z = true) (x y : Int32) (h : Heap) :
    own_Met K M_mmx #[.int x, .int y] [] h (own_ret fun w h' _ => ∃ r : Int32, w = .int r ∧ ((x.toInt < y.toInt ∧ r = y) ∨ (y.toInt ≤ x.toInt ∧ r = x)) ∧ h' = h) := by
  refine own_met_2_0 (M := M_mmx) pn_mmx rfl (by first | rfl | exact own_cat (by assumption)) (by first | rfl | exact own_cat (by assumption)) ?_
  refine own_iload_n (pc' := 1) rfl d_mmx_0 rfl ?_
  refine own_iload_n (pc' := 2) rfl d_mmx_1 rfl ?_
  refine own_icmplt (pcT := 9) (pcF := 5) d_mmx_2 (by decide) (by decide) rfl (fun q => ?_) (fun q => ?_)
  · rw [Int32.lt_iff_toInt_lt] at q
    refine own_iload_n (pc' := 10) rfl d_mmx_9 rfl ?_
    refine own_ireturn rfl d_mmx_10 rfl rfl ?_
    exact ⟨y, rfl, Or.inl ⟨q, rfl⟩, rfl⟩
  · rw [Int32.lt_iff_toInt_lt] at q
    refine own_iload_n (pc' := 6) rfl d_mmx_5 rfl ?_
    refine own_goto (pc' := 10) d_mmx_6 (by decide) (by decide) ?_
    refine own_ireturn rfl d_mmx_10 rfl rfl ?_
    exact ⟨x, rfl, Or.inr ⟨by omega, rfl⟩, rfl⟩
theorem d_mmn_0 : decode jdk_29_method_69_code 0 = .ok (.iload_n 0, 1) := by decide +kernel
theorem d_mmn_1 : decode jdk_29_method_69_code 1 = .ok (.iload_n 1, 1) := by decide +kernel
theorem d_mmn_2 : decode jdk_29_method_69_code 2 = .ok (.if_icmp .gt 7, 3) := by decide +kernel
theorem d_mmn_5 : decode jdk_29_method_69_code 5 = .ok (.iload_n 0, 1) := by decide +kernel
theorem d_mmn_6 : decode jdk_29_method_69_code 6 = .ok (.goto 4, 3) := by decide +kernel
theorem d_mmn_9 : decode jdk_29_method_69_code 9 = .ok (.iload_n 1, 1) := by decide +kernel
theorem d_mmn_10 : decode jdk_29_method_69_code 10 = .ok (.ireturn, 1) := by decide +kernel
abbrev M_mmn : own_Mi := ((⟨"java/lang/Math", "min", "(II)I"⟩ : MethodName), jdk_29_method_69_code, 2, (Option.some FieldType.int), ({ frames := 0, cells := 0, slots := 0, locals := 0 } : Room))
theorem pn_mmn : plainFor (own_Mi.y M_mmn) = true := Jvm.Free.JP.mathPlain rfl (by decide +kernel)
set_option maxRecDepth 65536 in
set_option maxHeartbeats 40000000 in
theorem c_mmn (K : own_Cx) (a0 : Array Value) (hw : ∀ d ∈ tables_1, d.before a0 K.Z = true) (x y : Int32) (h : Heap) :
    own_Met K M_mmn #[.int x, .int y] [] h (own_ret fun w h' _ => ∃ r : Int32, w = .int r ∧ ((y.toInt < x.toInt ∧ r = y) ∨ (x.toInt ≤ y.toInt ∧ r = x)) ∧ h' = h) := by
  refine own_met_2_0 (M := M_mmn) pn_mmn rfl (by first | rfl | exact own_cat (by assumption)) (by first | rfl | exact own_cat (by assumption)) ?_
  refine own_iload_n (pc' := 1) rfl d_mmn_0 rfl ?_
  refine own_iload_n (pc' := 2) rfl d_mmn_1 rfl ?_
  refine own_icmpgt (pcT := 9) (pcF := 5) d_mmn_2 (by decide) (by decide) rfl (fun q => ?_) (fun q => ?_)
  · rw [Int32.lt_iff_toInt_lt] at q
    refine own_iload_n (pc' := 10) rfl d_mmn_9 rfl ?_
    refine own_ireturn rfl d_mmn_10 rfl rfl ?_
    exact ⟨y, rfl, Or.inl ⟨q, rfl⟩, rfl⟩
  · rw [Int32.lt_iff_toInt_lt] at q
    refine own_iload_n (pc' := 6) rfl d_mmn_5 rfl ?_
    refine own_goto (pc' := 10) d_mmn_6 (by decide) (by decide) ?_
    refine own_ireturn rfl d_mmn_10 rfl rfl ?_
    exact ⟨x, rfl, Or.inr ⟨by omega, rfl⟩, rfl⟩
/-! Arrays.copyOfRange of bytes, where it does not take the whole array -/
theorem own_fits_bt (xs : List Int32) (q : ∀ x ∈ xs, ∃ c : Int32, x = c.toInt8.toInt32) : ∀ v ∈ own_ints xs, fits .byte v = true := by
  intro v hv
  obtain ⟨x, hx, rfl⟩ := List.mem_map.mp hv
  obtain ⟨c, rfl⟩ := q x hx
  exact fits_nar_byte c
def own_Bys (vs : List Value) : Prop := ∀ v ∈ vs, fits .byte v = true
theorem own_Bys.app {vs ws : List Value} (h1 : own_Bys vs) (h2 : own_Bys ws) : own_Bys (vs ++ ws) := fun v hv => (List.mem_append.mp hv).elim (h1 v) (h2 v)
theorem own_Bys.zero (n : Nat) : own_Bys (List.replicate n (.int 0)) := fun v hv => by
  cases (List.mem_replicate.mp hv).2
  rfl
theorem own_Bys.lat (cs : List Int32) : own_Bys (own_ints (cs.map own_bt)) := own_fits_bt _ (fun x hx => by obtain ⟨c, -, rfl⟩ := List.mem_map.mp hx; exact ⟨c, rfl⟩)
theorem own_Bys.two (cs : List Int32) : own_Bys (own_ints (own_two cs)) := own_fits_bt _ (fun x hx => by
  obtain ⟨c, -, hc⟩ := List.mem_flatMap.mp hx
  simp only [List.mem_cons, List.not_mem_nil, or_false] at hc
  rcases hc with rfl | rfl
  · exact ⟨c, rfl⟩
  · exact ⟨_, rfl⟩)
theorem own_Bys.enc (cs : List Int32) : own_Bys (own_ints (own_enc cs)) := by
  unfold own_enc
  split
  · exact own_Bys.lat cs
  · exact own_Bys.two cs
theorem d_ckl_0 : decode jdk_65_method_131_code 0 = .ok (.iload_n 1, 1) := by decide +kernel
theorem d_ckl_1 : decode jdk_65_method_131_code 1 = .ok (.iload_n 0, 1) := by decide +kernel
theorem d_ckl_2 : decode jdk_65_method_131_code 2 = .ok (.if_icmp .ge 35, 3) := by decide +kernel
theorem d_ckl_37 : decode jdk_65_method_131_code 37 = .ok (.return_, 1) := by decide +kernel
abbrev M_ckl : own_Mi := ((⟨"java/util/Arrays", "checkLength", "(II)V"⟩ : MethodName), jdk_65_method_131_code, 2, (Option.none : Option FieldType), ({ frames := 0, cells := 0, slots := 0, locals := 0 } : Room))
theorem pn_ckl : plainFor (own_Mi.y M_ckl) = true := plainFor_of_name (by first | (simp [plainName, overriddenIn]; done) | decide +kernel)
set_option maxRecDepth 65536 in
set_option maxHeartbeats 40000000 in
theorem c_ckl (K : own_Cx) (a0 : Array Value) (hw : ∀ d ∈ tables_1, d.before a0 K.Z = true) (f t : Int32) (h : Heap) (q : f.toInt ≤ t.toInt) :
    own_Met K M_ckl #[.int f, .int t] [] h (own_void fun h' _ => h' = h) := by
  refine own_met_2_0 (M := M_ckl) pn_ckl rfl (by first | rfl | exact own_cat (by assumption)) (by first | rfl | exact own_cat (by assumption)) ?_
  refine own_iload_n (pc' := 1) rfl d_ckl_0 rfl ?_
  refine own_iload_n (pc' := 2) rfl d_ckl_1 rfl ?_
  refine own_icmpge (pcT := 37) (pcF := 5) d_ckl_2 (by decide) (by decide) rfl (fun z => ?_) (fun z => ?_)
  · skip
    refine own_return rfl d_ckl_37 rfl rfl ?_
    rfl
  · rw [Int32.lt_iff_toInt_lt] at z
    omega
theorem d_cob_0 : decode jdk_65_method_133_code 0 = .ok (.iload_n 1, 1) := by decide +kernel
theorem d_cob_1 : decode jdk_65_method_133_code 1 = .ok (.iload_n 2, 1) := by decide +kernel
theorem d_cob_2 : decode jdk_65_method_133_code 2 = .ok (.invokestatic 343, 3) := by decide +kernel
theorem d_cob_5 : decode jdk_65_method_133_code 5 = .ok (.iload_n 2, 1) := by decide +kernel
theorem d_cob_6 : decode jdk_65_method_133_code 6 = .ok (.iload_n 1, 1) := by decide +kernel
theorem d_cob_7 : decode jdk_65_method_133_code 7 = .ok (.isub, 1) := by decide +kernel
theorem d_cob_8 : decode jdk_65_method_133_code 8 = .ok (.istore_n 3, 1) := by decide +kernel
theorem d_cob_9 : decode jdk_65_method_133_code 9 = .ok (.iload_n 3, 1) := by decide +kernel
theorem d_cob_10 : decode jdk_65_method_133_code 10 = .ok (.newarray .byte, 2) := by decide +kernel
theorem d_cob_12 : decode jdk_65_method_133_code 12 = .ok (.astore 4, 2) := by decide +kernel
theorem d_cob_14 : decode jdk_65_method_133_code 14 = .ok (.aload_n 0, 1) := by decide +kernel
theorem d_cob_15 : decode jdk_65_method_133_code 15 = .ok (.iload_n 1, 1) := by decide +kernel
theorem d_cob_16 : decode jdk_65_method_133_code 16 = .ok (.aload 4, 2) := by decide +kernel
theorem d_cob_18 : decode jdk_65_method_133_code 18 = .ok (.iconst 0, 1) := by decide +kernel
theorem d_cob_19 : decode jdk_65_method_133_code 19 = .ok (.aload_n 0, 1) := by decide +kernel
theorem d_cob_20 : decode jdk_65_method_133_code 20 = .ok (.arraylength, 1) := by decide +kernel
theorem d_cob_21 : decode jdk_65_method_133_code 21 = .ok (.iload_n 1, 1) := by decide +kernel
theorem d_cob_22 : decode jdk_65_method_133_code 22 = .ok (.isub, 1) := by decide +kernel
theorem d_cob_23 : decode jdk_65_method_133_code 23 = .ok (.iload_n 3, 1) := by decide +kernel
theorem d_cob_24 : decode jdk_65_method_133_code 24 = .ok (.invokestatic 304, 3) := by decide +kernel
theorem d_cob_27 : decode jdk_65_method_133_code 27 = .ok (.invokestatic 150, 3) := by decide +kernel
theorem d_cob_30 : decode jdk_65_method_133_code 30 = .ok (.aload 4, 2) := by decide +kernel
theorem d_cob_32 : decode jdk_65_method_133_code 32 = .ok (.areturn, 1) := by decide +kernel
abbrev M_cob : own_Mi := ((⟨"java/util/Arrays", "copyOfRangeByte", "([BII)[B"⟩ : MethodName), jdk_65_method_133_code, 5, (Option.some (FieldType.array FieldType.byte)), ({ frames := 1, cells := 1, slots := 12, locals := 40 } : Room))
theorem pn_cob : plainFor (own_Mi.y M_cob) = true := plainFor_of_name (by first | (simp [plainName, overriddenIn]; done) | decide +kernel)
set_option maxRecDepth 65536 in
set_option maxHeartbeats 40000000 in
theorem c_cob (K : own_Cx) (a0 : Array Value) (hw : ∀ d ∈ tables_1, d.before a0 K.Z = true) (b : Addr) (f t : Int32) (F T : Nat) (vs : List Value) (h : Heap) (hf : f.toInt = F) (ht : t.toInt = T) (hFT : F ≤ T) (hT : T ≤ vs.length) (hcap : T - F ≤ 12) (hby : own_Bys vs) (B : own_Ary K.Z h b .byte vs) :
    own_Met K M_cob #[.ref b, .int f, .int t] [] h (own_ret fun w h' xs => ∃ b' : Addr, w = .ref b' ∧ Ext h h' ∧ h.size ≤ b' ∧ b' ∈ xs ∧ own_Ary K.Z h' b' .byte ((vs.drop F).take (T - F))) := by
  have hlv : vs.length < 2 ^ 31 := by obtain ⟨_, _, _, r⟩ := B; exact r
  have hz : (vs.length.toInt32).toInt = vs.length := own_lit _ hlv
  have hd : (t - f).toInt = ((T - F : Nat) : Int) := by rw [own_sub ht hf] <;> omega
  have hd2 : (vs.length.toInt32 - f).toInt = ((vs.length - F : Nat) : Int) := by rw [own_sub hz hf] <;> omega
  refine own_met_3_2 (M := M_cob) pn_cob rfl (by first | rfl | exact own_cat (by assumption)) (by first | rfl | exact own_cat (by assumption)) (by first | rfl | exact own_cat (by assumption)) ?_
  refine own_iload_n (pc' := 1) rfl d_cob_0 rfl ?_
  refine own_iload_n (pc' := 2) rfl d_cob_1 rfl ?_
  refine own_static2n (M' := M_ckl) d_cob_2 (pc' := 5) rfl (tw_211 hw) (tw_212 hw) (tw_206 hw) (tw_213 hw) (by decide) rfl (own_lenOf pd_10 rfl) rfl rfl rfl rfl (c_ckl K a0 hw f t h (by omega)) (by simp) ?_
  rintro h1 xs rfl
  refine own_iload_n (pc' := 6) rfl d_cob_5 rfl ?_
  refine own_iload_n (pc' := 7) rfl d_cob_6 rfl ?_
  refine own_isub (pc' := 8) rfl d_cob_7 ?_
  refine own_istore_n3 (pc' := 9) rfl d_cob_8 (by first | exact One.u | exact One.val rfl | assumption | exact One.val (by assumption)) ?_
  refine own_iload_n (pc' := 10) rfl d_cob_9 rfl ?_
  refine own_newarray (pc' := 12) rfl d_cob_10 (tw_23 hw) (N := (T - F)) (cap := 12) hd hcap rfl rfl rfl ?_
  intro b2 h2 eb2 E2 B2
  refine own_astore_4 (pc' := 14) rfl d_cob_12 (by first | exact One.u | exact One.val rfl | assumption | exact One.val (by assumption)) (by first | rfl | assumption) ?_
  refine own_aload_n (pc' := 15) rfl d_cob_14 rfl (by first | rfl | assumption) ?_
  refine own_iload_n (pc' := 16) rfl d_cob_15 rfl ?_
  refine own_aload (pc' := 18) rfl d_cob_16 rfl (by first | rfl | assumption) ?_
  refine own_iconst (v := (0 : Int32)) (pc' := 19) rfl d_cob_18 rfl ?_
  refine own_aload_n (pc' := 20) rfl d_cob_19 rfl (by first | rfl | assumption) ?_
  refine own_arrlen (z := vs.length.toInt32) (pc' := 21) rfl d_cob_20 (B.ext E2) hz ?_
  refine own_iload_n (pc' := 22) rfl d_cob_21 rfl ?_
  refine own_isub (pc' := 23) rfl d_cob_22 ?_
  refine own_iload_n (pc' := 24) rfl d_cob_23 rfl ?_
  refine own_static2v (M' := M_mmn) d_cob_24 (pc' := 27) rfl (tw_214 hw) (tw_99 hw) (tw_96 hw) (tw_100 hw) (by decide) rfl (own_lenOf pd_14 rfl) rfl rfl rfl rfl (c_mmn K a0 hw (vs.length.toInt32 - f) (t - f) h2) (by simp) ?_
  rintro w h3 xs3 ⟨r, rfl, hr, rfl⟩
  have hr' : r.toInt = ((T - F : Nat) : Int) := by rcases hr with ⟨z, rfl⟩ | ⟨z, rfl⟩ <;> omega
  refine own_acopy (pc' := 30) rfl d_cob_27 (tw_215 hw) (tw_177 hw) (tw_175 hw) (tw_176 hw) rfl rfl rfl rfl (B.ext E2) B2 hby (own_Bys.zero _) (S := F) (D := 0) (N := (T - F)) hf rfl hr' (by omega) (by simp) (by simp) ?_
  intro h4 k4 B4
  refine own_aload (pc' := 32) rfl d_cob_30 rfl (by first | rfl | assumption) ?_
  refine own_areturn rfl rfl (by first | rfl | assumption) d_cob_32 rfl rfl ?_
  refine ⟨b2, rfl, own_ext_keep E2 k4 (by intro x hx; cases List.mem_singleton.mp hx; omega), by omega, by simp, ?_⟩
  have e : ((List.replicate (T - F) (Value.int 0)).take 0 ++ (vs.drop F).take (T - F) ++ (List.replicate (T - F) (Value.int 0)).drop (0 + (T - F))) = (vs.drop F).take (T - F) := by simp
  rw [← e]
  exact B4
theorem d_cor_0 : decode jdk_65_method_132_code 0 = .ok (.iload_n 1, 1) := by decide +kernel
theorem d_cor_1 : decode jdk_65_method_132_code 1 = .ok (.ifCond .ne 9, 3) := by decide +kernel
theorem d_cor_4 : decode jdk_65_method_132_code 4 = .ok (.iload_n 2, 1) := by decide +kernel
theorem d_cor_5 : decode jdk_65_method_132_code 5 = .ok (.aload_n 0, 1) := by decide +kernel
theorem d_cor_6 : decode jdk_65_method_132_code 6 = .ok (.arraylength, 1) := by decide +kernel
theorem d_cor_7 : decode jdk_65_method_132_code 7 = .ok (.if_icmp .eq 10, 3) := by decide +kernel
theorem d_cor_10 : decode jdk_65_method_132_code 10 = .ok (.aload_n 0, 1) := by decide +kernel
theorem d_cor_11 : decode jdk_65_method_132_code 11 = .ok (.iload_n 1, 1) := by decide +kernel
theorem d_cor_12 : decode jdk_65_method_132_code 12 = .ok (.iload_n 2, 1) := by decide +kernel
theorem d_cor_13 : decode jdk_65_method_132_code 13 = .ok (.invokestatic 339, 3) := by decide +kernel
theorem d_cor_16 : decode jdk_65_method_132_code 16 = .ok (.areturn, 1) := by decide +kernel
abbrev M_cor : own_Mi := ((⟨"java/util/Arrays", "copyOfRange", "([BII)[B"⟩ : MethodName), jdk_65_method_132_code, 3, (Option.some (FieldType.array FieldType.byte)), ({ frames := 2, cells := 1, slots := 12, locals := 56 } : Room))
theorem pn_cor : plainFor (own_Mi.y M_cor) = true := plainFor_of_name (by first | (simp [plainName, overriddenIn]; done) | decide +kernel)
set_option maxRecDepth 65536 in
set_option maxHeartbeats 40000000 in
theorem c_cor (K : own_Cx) (a0 : Array Value) (hw : ∀ d ∈ tables_1, d.before a0 K.Z = true) (b : Addr) (f t : Int32) (F T : Nat) (vs : List Value) (h : Heap) (hf : f.toInt = F) (ht : t.toInt = T) (hFT : F ≤ T) (hT : T ≤ vs.length) (hne : F = 0 → T ≠ vs.length) (hcap : T - F ≤ 12) (hby : own_Bys vs) (B : own_Ary K.Z h b .byte vs) :
    own_Met K M_cor #[.ref b, .int f, .int t] [] h (own_ret fun w h' xs => ∃ b' : Addr, w = .ref b' ∧ Ext h h' ∧ h.size ≤ b' ∧ b' ∈ xs ∧ own_Ary K.Z h' b' .byte ((vs.drop F).take (T - F))) := by
  have hlv : vs.length < 2 ^ 31 := by obtain ⟨_, _, _, r⟩ := B; exact r
  have hz : (vs.length.toInt32).toInt = vs.length := own_lit _ hlv
  have key : own_WP K M_cor (own_ret fun w h' xs => ∃ b' : Addr, w = .ref b' ∧ Ext h h' ∧ h.size ≤ b' ∧ b' ∈ xs ∧ own_Ary K.Z h' b' .byte ((vs.drop F).take (T - F))) 10 [.val (.ref b), .val (.int f), .val (.int t)] [] [] h 0 0 := by
    refine own_aload_n (pc' := 11) rfl d_cor_10 rfl (by first | rfl | assumption) ?_
    refine own_iload_n (pc' := 12) rfl d_cor_11 rfl ?_
    refine own_iload_n (pc' := 13) rfl d_cor_12 rfl ?_
    refine own_static3v (M' := M_cob) d_cor_13 (pc' := 16) rfl (tw_208 hw) (tw_209 hw) (tw_206 hw) (tw_210 hw) (by decide) rfl (own_lenOf pd_15 rfl) rfl rfl rfl rfl (c_cob K a0 hw b f t F T vs h hf ht hFT hT hcap hby B) (by simp) ?_
    rintro w h1 xs ⟨b', rfl, E1, hb', hx, B'⟩
    refine own_areturn rfl rfl (by first | rfl | assumption) d_cor_16 rfl rfl ?_
    exact ⟨b', rfl, E1, hb', by simp [hx], B'⟩
  refine own_met_3_0 (M := M_cor) pn_cor rfl (by first | rfl | exact own_cat (by assumption)) (by first | rfl | exact own_cat (by assumption)) (by first | rfl | exact own_cat (by assumption)) ?_
  refine own_iload_n (pc' := 1) rfl d_cor_0 rfl ?_
  refine own_ifne (pcT := 10) (pcF := 4) d_cor_1 (by decide) (by decide) rfl (fun q => ?_) (fun q => ?_)
  · exact key
  · have hF0 : F = 0 := by rw [q] at hf; have : (0 : Int32).toInt = 0 := rfl; omega
    refine own_iload_n (pc' := 5) rfl d_cor_4 rfl ?_
    refine own_aload_n (pc' := 6) rfl d_cor_5 rfl (by first | rfl | assumption) ?_
    refine own_arrlen (z := vs.length.toInt32) (pc' := 7) rfl d_cor_6 B hz ?_
    refine own_icmpeq (pcT := 17) (pcF := 10) d_cor_7 (by decide) (by decide) rfl (fun q2 => ?_) (fun q2 => ?_)
    · exfalso
      rw [q2, hz] at ht
      exact hne hF0 (by omega)
    · exact key
/-! indexOf of a char from a place on -/
def own_ixf (cs : List Int32) (ch : Int32) : Nat → Nat → Int
  | 0, _ => -1
  | k + 1, i => if cs[i]? = some ch then (i : Int) else own_ixf cs ch k (i + 1)
abbrev own_ix (cs : List Int32) (ch : Int32) (i : Nat) : Int := own_ixf cs ch (cs.length - i) i
theorem own_bt_inj {c d : Int32} (h0 : 0 ≤ c.toInt) (h1 : c.toInt < 256) (h2 : 0 ≤ d.toInt) (h3 : d.toInt < 256) (q : own_bt c = own_bt d) : c = d := by
  rw [← own_lat_byte h0 h1, ← own_lat_byte h2 h3, q]
theorem d_cei_0 : decode jdk_43_method_4_code 0 = .ok (.iload_n 0, 1) := by decide +kernel
theorem d_cei_1 : decode jdk_43_method_4_code 1 = .ok (.ifCond .lt 14, 3) := by decide +kernel
theorem d_cei_4 : decode jdk_43_method_4_code 4 = .ok (.iload_n 0, 1) := by decide +kernel
theorem d_cei_5 : decode jdk_43_method_4_code 5 = .ok (.sipush 255, 3) := by decide +kernel
theorem d_cei_8 : decode jdk_43_method_4_code 8 = .ok (.if_icmp .gt 7, 3) := by decide +kernel
theorem d_cei_11 : decode jdk_43_method_4_code 11 = .ok (.iconst 1, 1) := by decide +kernel
theorem d_cei_12 : decode jdk_43_method_4_code 12 = .ok (.goto 4, 3) := by decide +kernel
theorem d_cei_16 : decode jdk_43_method_4_code 16 = .ok (.ireturn, 1) := by decide +kernel
abbrev M_cei : own_Mi := ((⟨"java/lang/StringLatin1", "canEncode", "(I)Z"⟩ : MethodName), jdk_43_method_4_code, 1, (Option.some FieldType.boolean), ({ frames := 0, cells := 0, slots := 0, locals := 0 } : Room))
theorem pn_cei : plainFor (own_Mi.y M_cei) = true := plainFor_of_name (by first | (simp [plainName, overriddenIn]; done) | decide +kernel)
set_option maxRecDepth 65536 in
set_option maxHeartbeats 40000000 in
theorem c_cei (K : own_Cx) (a0 : Array Value) (hw : ∀ d ∈ tables_1, d.before a0 K.Z = true) (c : Int32) (h : Heap) (h0 : 0 ≤ c.toInt) (h1 : c.toInt < 256) :
    own_Met K M_cei #[.int c] [] h (own_ret fun w h' _ => w = .int 1 ∧ h' = h) := by
  have v0 : (0 : Int32).toInt = 0 := rfl
  have v255 : (255 : Int32).toInt = 255 := rfl
  refine own_met_1_0 (M := M_cei) pn_cei rfl (by first | rfl | exact own_cat (by assumption)) ?_
  refine own_iload_n (pc' := 1) rfl d_cei_0 rfl ?_
  refine own_iflt (pcT := 15) (pcF := 4) d_cei_1 (by decide) (by decide) rfl (fun q => ?_) (fun q => ?_)
  · rw [Int32.lt_iff_toInt_lt] at q
    omega
  · skip
    refine own_iload_n (pc' := 5) rfl d_cei_4 rfl ?_
    refine own_sipush (v := (255 : Int32)) (pc' := 8) rfl d_cei_5 rfl ?_
    refine own_icmpgt (pcT := 15) (pcF := 11) d_cei_8 (by decide) (by decide) rfl (fun q2 => ?_) (fun q2 => ?_)
    · rw [Int32.lt_iff_toInt_lt] at q2
      omega
    · skip
      refine own_iconst (v := (1 : Int32)) (pc' := 12) rfl d_cei_11 rfl ?_
      refine own_goto (pc' := 16) d_cei_12 (by decide) (by decide) ?_
      refine own_ireturnN (t := .boolean) rfl (by simp) (by first | exact own_nb0 | exact own_nb1 | rfl) d_cei_16 rfl rfl ?_
      exact ⟨rfl, rfl⟩
theorem d_lic_0 : decode jdk_43_method_23_code 0 = .ok (.iload_n 1, 1) := by decide +kernel
theorem d_lic_1 : decode jdk_43_method_23_code 1 = .ok (.i2b, 1) := by decide +kernel
theorem d_lic_2 : decode jdk_43_method_23_code 2 = .ok (.istore 4, 2) := by decide +kernel
theorem d_lic_4 : decode jdk_43_method_23_code 4 = .ok (.iload_n 2, 1) := by decide +kernel
theorem d_lic_5 : decode jdk_43_method_23_code 5 = .ok (.istore 5, 2) := by decide +kernel
theorem d_lic_7 : decode jdk_43_method_23_code 7 = .ok (.iload 5, 2) := by decide +kernel
theorem d_lic_9 : decode jdk_43_method_23_code 9 = .ok (.iload_n 3, 1) := by decide +kernel
theorem d_lic_10 : decode jdk_43_method_23_code 10 = .ok (.if_icmp .ge 21, 3) := by decide +kernel
theorem d_lic_13 : decode jdk_43_method_23_code 13 = .ok (.aload_n 0, 1) := by decide +kernel
theorem d_lic_14 : decode jdk_43_method_23_code 14 = .ok (.iload 5, 2) := by decide +kernel
theorem d_lic_16 : decode jdk_43_method_23_code 16 = .ok (.baload, 1) := by decide +kernel
theorem d_lic_17 : decode jdk_43_method_23_code 17 = .ok (.iload 4, 2) := by decide +kernel
theorem d_lic_19 : decode jdk_43_method_23_code 19 = .ok (.if_icmp .ne 6, 3) := by decide +kernel
theorem d_lic_22 : decode jdk_43_method_23_code 22 = .ok (.iload 5, 2) := by decide +kernel
theorem d_lic_24 : decode jdk_43_method_23_code 24 = .ok (.ireturn, 1) := by decide +kernel
theorem d_lic_25 : decode jdk_43_method_23_code 25 = .ok (.iinc 5 1, 3) := by decide +kernel
theorem d_lic_28 : decode jdk_43_method_23_code 28 = .ok (.goto (-21), 3) := by decide +kernel
theorem d_lic_31 : decode jdk_43_method_23_code 31 = .ok (.iconst (-1), 1) := by decide +kernel
theorem d_lic_32 : decode jdk_43_method_23_code 32 = .ok (.ireturn, 1) := by decide +kernel
abbrev M_lic : own_Mi := ((⟨"java/lang/StringLatin1", "indexOfChar", "([BIII)I"⟩ : MethodName), jdk_43_method_23_code, 6, (Option.some FieldType.int), ({ frames := 0, cells := 0, slots := 0, locals := 0 } : Room))
theorem pn_lic : plainFor (own_Mi.y M_lic) = true := plainFor_of_name (by first | (simp [plainName, overriddenIn]; done) | decide +kernel)
set_option maxRecDepth 65536 in
set_option maxHeartbeats 40000000 in
theorem c_lic (K : own_Cx) (a0 : Array Value) (hw : ∀ d ∈ tables_1, d.before a0 K.Z = true) (b : Addr) (cs : List Int32) (ch f n : Int32) (F : Nat) (h : Heap) (hcs : own_Chs cs) (ql : own_lat cs = true) (c0 : 0 ≤ ch.toInt) (c1 : ch.toInt < 256) (hf : f.toInt = F) (hF : F ≤ cs.length) (hn : n.toInt = cs.length) (B : own_Ary K.Z h b .byte (own_ints (cs.map own_bt))) :
    own_Met K M_lic #[.ref b, .int ch, .int f, .int n] [] h (own_ret fun w h' _ => ∃ r : Int32, w = .int r ∧ r.toInt = own_ix cs ch F ∧ h' = h) := by
  have hlen := rng32 n
  refine own_met_4_2 (M := M_lic) pn_lic rfl (by first | rfl | exact own_cat (by assumption)) (by first | rfl | exact own_cat (by assumption)) (by first | rfl | exact own_cat (by assumption)) (by first | rfl | exact own_cat (by assumption)) ?_
  refine own_iload_n (pc' := 1) rfl d_lic_0 rfl ?_
  refine own_i2b (pc' := 2) rfl d_lic_1 ?_
  refine own_istore_4 (pc' := 4) rfl d_lic_2 (by first | exact One.u | exact One.val rfl | assumption | exact One.val (by assumption)) ?_
  refine own_iload_n (pc' := 5) rfl d_lic_4 rfl ?_
  refine own_istore_5 (pc' := 7) rfl d_lic_5 (by first | exact One.u | exact One.val rfl | assumption | exact One.val (by assumption)) ?_
  suffices key : ∀ (k i : Nat) (j : Int32), i + k = cs.length → j.toInt = i → own_WP K M_lic (own_ret fun w h' _ => ∃ r : Int32, w = .int r ∧ r.toInt = own_ixf cs ch k i ∧ h' = h) 7 [.val (.ref b), .val (.int ch), .val (.int f), .val (.int n), .val (.int (own_bt ch)), .val (.int j)] [] [] h 0 0 from
    key (cs.length - F) F f (by omega) hf
  intro k
  induction k with
  | zero =>
    intro i j hik hj
    refine own_iload (pc' := 9) rfl d_lic_7 rfl ?_
    refine own_iload_n (pc' := 10) rfl d_lic_9 rfl ?_
    refine own_icmpge (pcT := 31) (pcF := 13) d_lic_10 (by decide) (by decide) rfl (fun q => ?_) (fun q => ?_)
    · skip
      refine own_iconst (v := (-1 : Int32)) (pc' := 32) rfl d_lic_31 rfl ?_
      refine own_ireturn rfl d_lic_32 rfl rfl ?_
      exact ⟨_, rfl, rfl, rfl⟩
    · rw [Int32.lt_iff_toInt_lt] at q
      omega
  | succ k ih =>
    intro i j hik hj
    have hi : i < cs.length := by omega
    obtain ⟨c, hc⟩ : ∃ c, cs[i]? = some c := ⟨cs[i], by simp [hi]⟩
    have hcr := hcs c (List.mem_of_getElem? hc)
    have hcl := own_lat_get ql hc
    refine own_iload (pc' := 9) rfl d_lic_7 rfl ?_
    refine own_iload_n (pc' := 10) rfl d_lic_9 rfl ?_
    refine own_icmpge (pcT := 31) (pcF := 13) d_lic_10 (by decide) (by decide) rfl (fun q => ?_) (fun q => ?_)
    · exact absurd (by rw [Int32.lt_iff_toInt_lt]; omega) q
    · skip
      refine own_aload_n (pc' := 14) rfl d_lic_13 rfl (by first | rfl | assumption) ?_
      refine own_iload (pc' := 16) rfl d_lic_14 rfl ?_
      refine own_baload (pc' := 17) rfl d_lic_16 B (i := i) hj (by first | exact own_ints_get hc | exact own_ints_getM hc) ?_
      refine own_iload (pc' := 19) rfl d_lic_17 rfl ?_
      refine own_icmpne (pcT := 25) (pcF := 22) d_lic_19 (by decide) (by decide) rfl (fun q2 => ?_) (fun q2 => ?_)
      · skip
        refine own_iinc_5 (z := (1 : Int32)) (pc' := 28) rfl d_lic_25 rfl ?_
        refine own_goto (pc' := 7) d_lic_28 (by decide) (by decide) ?_
        have e : own_ixf cs ch (k + 1) i = own_ixf cs ch k (i + 1) := by
          have : ¬ c = ch := fun z => q2 (by rw [z])
          simp [own_ixf, hc, this]
        rw [e]
        exact ih (i + 1) (j + 1) (by omega) (by rw [own_add hj (by rfl : (1 : Int32).toInt = 1)] <;> omega)
      · have e : c = ch := own_bt_inj hcr.1 hcl c0 c1 q2
        refine own_iload (pc' := 24) rfl d_lic_22 rfl ?_
        refine own_ireturn rfl d_lic_24 rfl rfl ?_
        exact ⟨j, rfl, by simp [own_ixf, hc, e, hj], rfl⟩
theorem d_lio_0 : decode jdk_43_method_22_code 0 = .ok (.iload_n 1, 1) := by decide +kernel
theorem d_lio_1 : decode jdk_43_method_22_code 1 = .ok (.invokestatic 88, 3) := by decide +kernel
theorem d_lio_4 : decode jdk_43_method_22_code 4 = .ok (.ifCond .ne 5, 3) := by decide +kernel
theorem d_lio_9 : decode jdk_43_method_22_code 9 = .ok (.iload_n 2, 1) := by decide +kernel
theorem d_lio_10 : decode jdk_43_method_22_code 10 = .ok (.iconst 0, 1) := by decide +kernel
theorem d_lio_11 : decode jdk_43_method_22_code 11 = .ok (.invokestatic 92, 3) := by decide +kernel
theorem d_lio_14 : decode jdk_43_method_22_code 14 = .ok (.istore_n 2, 1) := by decide +kernel
theorem d_lio_15 : decode jdk_43_method_22_code 15 = .ok (.iload_n 3, 1) := by decide +kernel
theorem d_lio_16 : decode jdk_43_method_22_code 16 = .ok (.aload_n 0, 1) := by decide +kernel
theorem d_lio_17 : decode jdk_43_method_22_code 17 = .ok (.arraylength, 1) := by decide +kernel
theorem d_lio_18 : decode jdk_43_method_22_code 18 = .ok (.invokestatic 38, 3) := by decide +kernel
theorem d_lio_21 : decode jdk_43_method_22_code 21 = .ok (.istore_n 3, 1) := by decide +kernel
theorem d_lio_22 : decode jdk_43_method_22_code 22 = .ok (.iload_n 2, 1) := by decide +kernel
theorem d_lio_23 : decode jdk_43_method_22_code 23 = .ok (.iload_n 3, 1) := by decide +kernel
theorem d_lio_24 : decode jdk_43_method_22_code 24 = .ok (.if_icmp .lt 5, 3) := by decide +kernel
theorem d_lio_27 : decode jdk_43_method_22_code 27 = .ok (.iconst (-1), 1) := by decide +kernel
theorem d_lio_28 : decode jdk_43_method_22_code 28 = .ok (.ireturn, 1) := by decide +kernel
theorem d_lio_29 : decode jdk_43_method_22_code 29 = .ok (.aload_n 0, 1) := by decide +kernel
theorem d_lio_30 : decode jdk_43_method_22_code 30 = .ok (.iload_n 1, 1) := by decide +kernel
theorem d_lio_31 : decode jdk_43_method_22_code 31 = .ok (.iload_n 2, 1) := by decide +kernel
theorem d_lio_32 : decode jdk_43_method_22_code 32 = .ok (.iload_n 3, 1) := by decide +kernel
theorem d_lio_33 : decode jdk_43_method_22_code 33 = .ok (.invokestatic 95, 3) := by decide +kernel
theorem d_lio_36 : decode jdk_43_method_22_code 36 = .ok (.ireturn, 1) := by decide +kernel
abbrev M_lio : own_Mi := ((⟨"java/lang/StringLatin1", "indexOf", "([BIII)I"⟩ : MethodName), jdk_43_method_22_code, 4, (Option.some FieldType.int), ({ frames := 1, cells := 0, slots := 0, locals := 17 } : Room))
theorem pn_lio : plainFor (own_Mi.y M_lio) = true := plainFor_of_name (by first | (simp [plainName, overriddenIn]; done) | decide +kernel)
set_option maxRecDepth 65536 in
set_option maxHeartbeats 40000000 in
theorem c_lio (K : own_Cx) (a0 : Array Value) (hw : ∀ d ∈ tables_1, d.before a0 K.Z = true) (b : Addr) (cs : List Int32) (ch f n : Int32) (F : Nat) (h : Heap) (hcs : own_Chs cs) (ql : own_lat cs = true) (c0 : 0 ≤ ch.toInt) (c1 : ch.toInt < 256) (hf : f.toInt = F) (hF : F ≤ cs.length) (hn : n.toInt = cs.length) (B : own_Ary K.Z h b .byte (own_ints (cs.map own_bt))) :
    own_Met K M_lio #[.ref b, .int ch, .int f, .int n] [] h (own_ret fun w h' _ => ∃ r : Int32, w = .int r ∧ r.toInt = own_ix cs ch F ∧ h' = h) := by
  have v0 : (0 : Int32).toInt = 0 := rfl
  refine own_met_4_0 (M := M_lio) pn_lio rfl (by first | rfl | exact own_cat (by assumption)) (by first | rfl | exact own_cat (by assumption)) (by first | rfl | exact own_cat (by assumption)) (by first | rfl | exact own_cat (by assumption)) ?_
  refine own_iload_n (pc' := 1) rfl d_lio_0 rfl ?_
  refine own_static1v (M' := M_cei) d_lio_1 (pc' := 4) rfl (tw_91 hw) (tw_92 hw) (tw_69 hw) (tw_93 hw) (by decide) rfl (own_lenOf pd_16 rfl) rfl rfl rfl rfl (c_cei K a0 hw ch h c0 c1) (by simp) ?_
  rintro w h1 xs ⟨rfl, rfl⟩
  refine own_ifne (pcT := 9) (pcF := 7) d_lio_4 (by decide) (by decide) rfl (fun q => ?_) (fun q => ?_)
  · skip
    refine own_iload_n (pc' := 10) rfl d_lio_9 rfl ?_
    refine own_iconst (v := (0 : Int32)) (pc' := 11) rfl d_lio_10 rfl ?_
    refine own_static2v (M' := M_mmx) d_lio_11 (pc' := 14) rfl (tw_94 hw) (tw_95 hw) (tw_96 hw) (tw_97 hw) (by decide) rfl (own_lenOf pd_14 rfl) rfl rfl rfl rfl (c_mmx K a0 hw f 0 _) (by simp) ?_
    rintro w h2 xs2 ⟨r, rfl, hr, rfl⟩
    obtain rfl : r = f := by rcases hr with ⟨z, rfl⟩ | ⟨z, rfl⟩ <;> first | rfl | (exfalso; omega)
    refine own_istore_n2 (pc' := 15) rfl d_lio_14 (by first | exact One.u | exact One.val rfl | assumption | exact One.val (by assumption)) ?_
    refine own_iload_n (pc' := 16) rfl d_lio_15 rfl ?_
    refine own_aload_n (pc' := 17) rfl d_lio_16 rfl (by first | rfl | assumption) ?_
    refine own_arrlen (z := n) (pc' := 18) rfl d_lio_17 B (by rw [hn]; simp) ?_
    refine own_static2v (M' := M_mmn) d_lio_18 (pc' := 21) rfl (tw_98 hw) (tw_99 hw) (tw_96 hw) (tw_100 hw) (by decide) rfl (own_lenOf pd_14 rfl) rfl rfl rfl rfl (c_mmn K a0 hw n n _) (by simp) ?_
    rintro w h3 xs3 ⟨r3, rfl, hr3, rfl⟩
    obtain rfl : r3 = n := by rcases hr3 with ⟨z, rfl⟩ | ⟨z, rfl⟩ <;> rfl
    refine own_istore_n3 (pc' := 22) rfl d_lio_21 (by first | exact One.u | exact One.val rfl | assumption | exact One.val (by assumption)) ?_
    refine own_iload_n (pc' := 23) rfl d_lio_22 rfl ?_
    refine own_iload_n (pc' := 24) rfl d_lio_23 rfl ?_
    refine own_icmplt (pcT := 29) (pcF := 27) d_lio_24 (by decide) (by decide) rfl (fun q2 => ?_) (fun q2 => ?_)
    · skip
      refine own_aload_n (pc' := 30) rfl d_lio_29 rfl (by first | rfl | assumption) ?_
      refine own_iload_n (pc' := 31) rfl d_lio_30 rfl ?_
      refine own_iload_n (pc' := 32) rfl d_lio_31 rfl ?_
      refine own_iload_n (pc' := 33) rfl d_lio_32 rfl ?_
      refine own_static4v (M' := M_lic) d_lio_33 (pc' := 36) rfl (tw_101 hw) (tw_102 hw) (tw_69 hw) (tw_103 hw) (by decide) rfl (own_lenOf pd_17 rfl) rfl rfl rfl rfl (c_lic K a0 hw b cs ch _ _ F _ hcs ql c0 c1 hf hF hn B) (by simp) ?_
      rintro w h4 xs4 ⟨r4, rfl, hr4, rfl⟩
      refine own_ireturn rfl d_lio_36 rfl rfl ?_
      exact ⟨r4, rfl, hr4, rfl⟩
    · rw [Int32.lt_iff_toInt_lt] at q2
      refine own_iconst (v := (-1 : Int32)) (pc' := 28) rfl d_lio_27 rfl ?_
      refine own_ireturn rfl d_lio_28 rfl rfl ?_
      exact ⟨_, rfl, by show (-1 : Int32).toInt = own_ixf cs ch (cs.length - F) F; rw [show cs.length - F = 0 by omega]; rfl, rfl⟩
  · exact absurd q (by decide)
theorem d_pft_0 : decode jdk_41_method_12_code 0 = .ok (.iload_n 0, 1) := by decide +kernel
theorem d_pft_1 : decode jdk_41_method_12_code 1 = .ok (.ifCond .lt 13, 3) := by decide +kernel
theorem d_pft_4 : decode jdk_41_method_12_code 4 = .ok (.iload_n 0, 1) := by decide +kernel
theorem d_pft_5 : decode jdk_41_method_12_code 5 = .ok (.iload_n 1, 1) := by decide +kernel
theorem d_pft_6 : decode jdk_41_method_12_code 6 = .ok (.if_icmp .gt 8, 3) := by decide +kernel
theorem d_pft_9 : decode jdk_41_method_12_code 9 = .ok (.iload_n 1, 1) := by decide +kernel
theorem d_pft_10 : decode jdk_41_method_12_code 10 = .ok (.iload_n 2, 1) := by decide +kernel
theorem d_pft_11 : decode jdk_41_method_12_code 11 = .ok (.if_icmp .le 11, 3) := by decide +kernel
theorem d_pft_22 : decode jdk_41_method_12_code 22 = .ok (.iload_n 0, 1) := by decide +kernel
theorem d_pft_23 : decode jdk_41_method_12_code 23 = .ok (.ireturn, 1) := by decide +kernel
abbrev M_pft : own_Mi := ((⟨"jdk/internal/util/Preconditions", "checkFromToIndex", "(IIILjava/util/function/BiFunction;)I"⟩ : MethodName), jdk_41_method_12_code, 4, (Option.some FieldType.int), ({ frames := 0, cells := 0, slots := 0, locals := 0 } : Room))
theorem pn_pft : plainFor (own_Mi.y M_pft) = true := plainFor_of_name (by first | (simp [plainName, overriddenIn]; done) | decide +kernel)
set_option maxRecDepth 65536 in
set_option maxHeartbeats 40000000 in
theorem c_pft (K : own_Cx) (a0 : Array Value) (hw : ∀ d ∈ tables_1, d.before a0 K.Z = true) (rf : Value) (hrf : rf.isRef = true) (i j n : Int32) (h : Heap) (h0 : 0 ≤ i.toInt) (h1 : i.toInt ≤ j.toInt) (h2 : j.toInt ≤ n.toInt) :
    own_Met K M_pft #[.int i, .int j, .int n, rf] [] h (own_ret fun w h' _ => w = .int i ∧ h' = h) := by
  have v0 : (0 : Int32).toInt = 0 := rfl
  refine own_met_4_0 (M := M_pft) pn_pft rfl (by first | rfl | exact own_cat (by assumption)) (by first | rfl | exact own_cat (by assumption)) (by first | rfl | exact own_cat (by assumption)) (by first | rfl | exact own_cat (by assumption)) ?_
  refine own_iload_n (pc' := 1) rfl d_pft_0 rfl ?_
  refine own_iflt (pcT := 14) (pcF := 4) d_pft_1 (by decide) (by decide) rfl (fun q => ?_) (fun q => ?_)
  · rw [Int32.lt_iff_toInt_lt] at q
    omega
  · skip
    refine own_iload_n (pc' := 5) rfl d_pft_4 rfl ?_
    refine own_iload_n (pc' := 6) rfl d_pft_5 rfl ?_
    refine own_icmpgt (pcT := 14) (pcF := 9) d_pft_6 (by decide) (by decide) rfl (fun q2 => ?_) (fun q2 => ?_)
    · rw [Int32.lt_iff_toInt_lt] at q2
      omega
    · skip
      refine own_iload_n (pc' := 10) rfl d_pft_9 rfl ?_
      refine own_iload_n (pc' := 11) rfl d_pft_10 rfl ?_
      refine own_icmple (pcT := 22) (pcF := 14) d_pft_11 (by decide) (by decide) rfl (fun q3 => ?_) (fun q3 => ?_)
      · skip
        refine own_iload_n (pc' := 23) rfl d_pft_22 rfl ?_
        refine own_ireturn rfl d_pft_23 rfl rfl ?_
        exact ⟨rfl, rfl⟩
      · rw [Int32.lt_iff_toInt_lt] at q3
        omega
theorem d_sbe_0 : decode jdk_42_method_158_code 0 = .ok (.iload_n 0, 1) := by decide +kernel
theorem d_sbe_1 : decode jdk_42_method_158_code 1 = .ok (.iload_n 1, 1) := by decide +kernel
theorem d_sbe_2 : decode jdk_42_method_158_code 2 = .ok (.iload_n 2, 1) := by decide +kernel
theorem d_sbe_3 : decode jdk_42_method_158_code 3 = .ok (.getstatic 1053, 3) := by decide +kernel
theorem d_sbe_6 : decode jdk_42_method_158_code 6 = .ok (.invokestatic 1062, 3) := by decide +kernel
theorem d_sbe_9 : decode jdk_42_method_158_code 9 = .ok (.pop, 1) := by decide +kernel
theorem d_sbe_10 : decode jdk_42_method_158_code 10 = .ok (.return_, 1) := by decide +kernel
abbrev M_sbe : own_Mi := ((⟨"java/lang/String", "checkBoundsBeginEnd", "(III)V"⟩ : MethodName), jdk_42_method_158_code, 3, (Option.none : Option FieldType), ({ frames := 1, cells := 0, slots := 0, locals := 15 } : Room))
theorem pn_sbe : plainFor (own_Mi.y M_sbe) = true := plainFor_of_name (by first | (simp [plainName, overriddenIn]; done) | decide +kernel)
set_option maxRecDepth 65536 in
set_option maxHeartbeats 40000000 in
theorem c_sbe (K : own_Cx) (a0 : Array Value) (hw : ∀ d ∈ tables_1, d.before a0 K.Z = true) (rf : Value) (hrf : rf.isRef = true) (SF : Sta K.Z K.Z.heap "jdk/internal/util/Preconditions" "SIOOBE_FORMATTER" "Ljava/util/function/BiFunction;" rf) (i j n : Int32) (h : Heap) (h0 : 0 ≤ i.toInt) (h1 : i.toInt ≤ j.toInt) (h2 : j.toInt ≤ n.toInt) :
    own_Met K M_sbe #[.int i, .int j, .int n] [] h (own_void fun h' _ => h' = h) := by
  refine own_met_3_0 (M := M_sbe) pn_sbe rfl (by first | rfl | exact own_cat (by assumption)) (by first | rfl | exact own_cat (by assumption)) (by first | rfl | exact own_cat (by assumption)) ?_
  refine own_iload_n (pc' := 1) rfl d_sbe_0 rfl ?_
  refine own_iload_n (pc' := 2) rfl d_sbe_1 rfl ?_
  refine own_iload_n (pc' := 3) rfl d_sbe_2 rfl ?_
  refine own_getS (pc' := 6) rfl d_sbe_3 (tw_74 hw) Via.refl SF ?_
  refine own_static4v (M' := M_pft) d_sbe_6 (pc' := 9) rfl (tw_260 hw) (tw_148 hw) (tw_75 hw) (tw_149 hw) (by decide) rfl (own_lenOf pd_18 rfl) rfl rfl rfl rfl (c_pft K a0 hw rf hrf i j n h h0 h1 h2) (by simp) ?_
  rintro w h1 xs ⟨rfl, rfl⟩
  refine own_pop (pc' := 10) rfl d_sbe_9 (by first | rfl | assumption) ?_
  refine own_return rfl d_sbe_10 rfl rfl ?_
  rfl
theorem d_ube_0 : decode jdk_52_method_93_code 0 = .ok (.iload_n 0, 1) := by decide +kernel
theorem d_ube_1 : decode jdk_52_method_93_code 1 = .ok (.iload_n 1, 1) := by decide +kernel
theorem d_ube_2 : decode jdk_52_method_93_code 2 = .ok (.aload_n 2, 1) := by decide +kernel
theorem d_ube_3 : decode jdk_52_method_93_code 3 = .ok (.invokestatic 48, 3) := by decide +kernel
theorem d_ube_6 : decode jdk_52_method_93_code 6 = .ok (.invokestatic 241, 3) := by decide +kernel
theorem d_ube_9 : decode jdk_52_method_93_code 9 = .ok (.return_, 1) := by decide +kernel
abbrev M_ube : own_Mi := ((⟨"java/lang/StringUTF16", "checkBoundsBeginEnd", "(II[B)V"⟩ : MethodName), jdk_52_method_93_code, 3, (Option.none : Option FieldType), ({ frames := 2, cells := 0, slots := 0, locals := 29 } : Room))
theorem pn_ube : plainFor (own_Mi.y M_ube) = true := plainFor_of_name (by first | (simp [plainName, overriddenIn]; done) | decide +kernel)
set_option maxRecDepth 65536 in
set_option maxHeartbeats 40000000 in
theorem c_ube (K : own_Cx) (a0 : Array Value) (hw : ∀ d ∈ tables_1, d.before a0 K.Z = true) (rf : Value) (hrf : rf.isRef = true) (SF : Sta K.Z K.Z.heap "jdk/internal/util/Preconditions" "SIOOBE_FORMATTER" "Ljava/util/function/BiFunction;" rf) (b : Addr) (cs : List Int32) (i j : Int32) (h : Heap) (hl : cs.length < 2 ^ 30) (B : own_Ary K.Z h b .byte (own_ints (own_two cs))) (h0 : 0 ≤ i.toInt) (h1 : i.toInt ≤ j.toInt) (h2 : j.toInt ≤ cs.length) :
    own_Met K M_ube #[.int i, .int j, .ref b] [] h (own_void fun h' _ => h' = h) := by
  refine own_met_3_0 (M := M_ube) pn_ube rfl (by first | rfl | exact own_cat (by assumption)) (by first | rfl | exact own_cat (by assumption)) (by first | rfl | exact own_cat (by assumption)) ?_
  refine own_iload_n (pc' := 1) rfl d_ube_0 rfl ?_
  refine own_iload_n (pc' := 2) rfl d_ube_1 rfl ?_
  refine own_aload_n (pc' := 3) rfl d_ube_2 rfl (by first | rfl | assumption) ?_
  refine own_static1v (M' := M_ul) d_ube_3 (pc' := 6) rfl (tw_241 hw) (tw_242 hw) (tw_21 hw) (tw_243 hw) (by decide) rfl (own_lenOf pd_11 rfl) rfl rfl rfl rfl (c_ul K a0 hw b cs h hl B) (by simp) ?_
  rintro w h1 xs ⟨rfl, rfl⟩
  refine own_static3n (M' := M_sbe) d_ube_6 (pc' := 9) rfl (tw_257 hw) (tw_258 hw) (tw_7 hw) (tw_259 hw) (by decide) rfl (own_lenOf pd_19 rfl) rfl rfl rfl rfl (c_sbe K a0 hw rf hrf SF i j _ _ h0 (by assumption) (by rw [own_lit _ (by omega)]; exact h2)) (by simp) ?_
  rintro h3 xs3 rfl
  refine own_return rfl d_ube_9 rfl rfl ?_
  rfl
theorem d_uiu_0 : decode jdk_52_method_48_code 0 = .ok (.iload_n 2, 1) := by decide +kernel
theorem d_uiu_1 : decode jdk_52_method_48_code 1 = .ok (.istore 4, 2) := by decide +kernel
theorem d_uiu_3 : decode jdk_52_method_48_code 3 = .ok (.iload 4, 2) := by decide +kernel
theorem d_uiu_5 : decode jdk_52_method_48_code 5 = .ok (.iload_n 3, 1) := by decide +kernel
theorem d_uiu_6 : decode jdk_52_method_48_code 6 = .ok (.if_icmp .ge 22, 3) := by decide +kernel
theorem d_uiu_9 : decode jdk_52_method_48_code 9 = .ok (.aload_n 0, 1) := by decide +kernel
theorem d_uiu_10 : decode jdk_52_method_48_code 10 = .ok (.iload 4, 2) := by decide +kernel
theorem d_uiu_12 : decode jdk_52_method_48_code 12 = .ok (.invokestatic 71, 3) := by decide +kernel
theorem d_uiu_15 : decode jdk_52_method_48_code 15 = .ok (.iload_n 1, 1) := by decide +kernel
theorem d_uiu_16 : decode jdk_52_method_48_code 16 = .ok (.if_icmp .ne 6, 3) := by decide +kernel
theorem d_uiu_19 : decode jdk_52_method_48_code 19 = .ok (.iload 4, 2) := by decide +kernel
theorem d_uiu_21 : decode jdk_52_method_48_code 21 = .ok (.ireturn, 1) := by decide +kernel
theorem d_uiu_22 : decode jdk_52_method_48_code 22 = .ok (.iinc 4 1, 3) := by decide +kernel
theorem d_uiu_25 : decode jdk_52_method_48_code 25 = .ok (.goto (-22), 3) := by decide +kernel
theorem d_uiu_28 : decode jdk_52_method_48_code 28 = .ok (.iconst (-1), 1) := by decide +kernel
theorem d_uiu_29 : decode jdk_52_method_48_code 29 = .ok (.ireturn, 1) := by decide +kernel
abbrev M_uiu : own_Mi := ((⟨"java/lang/StringUTF16", "indexOfCharUnsafe", "([BIII)I"⟩ : MethodName), jdk_52_method_48_code, 5, (Option.some FieldType.int), ({ frames := 1, cells := 0, slots := 0, locals := 13 } : Room))
theorem pn_uiu : plainFor (own_Mi.y M_uiu) = true := plainFor_of_name (by first | (simp [plainName, overriddenIn]; done) | decide +kernel)
set_option maxRecDepth 65536 in
set_option maxHeartbeats 40000000 in
theorem c_uiu (K : own_Cx) (a0 : Array Value) (hw : ∀ d ∈ tables_1, d.before a0 K.Z = true) (hU : own_U16 K) (b : Addr) (cs : List Int32) (ch f n : Int32) (F : Nat) (h : Heap) (hcs : own_Chs cs) (hl : cs.length < 2 ^ 29) (hf : f.toInt = F) (hF : F ≤ cs.length) (hn : n.toInt = cs.length) (B : own_Ary K.Z h b .byte (own_ints (own_two cs))) :
    own_Met K M_uiu #[.ref b, .int ch, .int f, .int n] [] h (own_ret fun w h' _ => ∃ r : Int32, w = .int r ∧ r.toInt = own_ix cs ch F ∧ h' = h) := by
  refine own_met_4_1 (M := M_uiu) pn_uiu rfl (by first | rfl | exact own_cat (by assumption)) (by first | rfl | exact own_cat (by assumption)) (by first | rfl | exact own_cat (by assumption)) (by first | rfl | exact own_cat (by assumption)) ?_
  refine own_iload_n (pc' := 1) rfl d_uiu_0 rfl ?_
  refine own_istore_4 (pc' := 3) rfl d_uiu_1 (by first | exact One.u | exact One.val rfl | assumption | exact One.val (by assumption)) ?_
  suffices key : ∀ (k i : Nat) (j : Int32) (sf : List Addr), i + k = cs.length → j.toInt = i → own_WP K M_uiu (own_ret fun w h' _ => ∃ r : Int32, w = .int r ∧ r.toInt = own_ixf cs ch k i ∧ h' = h) 3 [.val (.ref b), .val (.int ch), .val (.int f), .val (.int n), .val (.int j)] [] sf h 0 0 from
    key (cs.length - F) F f _ (by omega) hf
  intro k
  induction k with
  | zero =>
    intro i j sf hik hj
    refine own_iload (pc' := 5) rfl d_uiu_3 rfl ?_
    refine own_iload_n (pc' := 6) rfl d_uiu_5 rfl ?_
    refine own_icmpge (pcT := 28) (pcF := 9) d_uiu_6 (by decide) (by decide) rfl (fun q => ?_) (fun q => ?_)
    · skip
      refine own_iconst (v := (-1 : Int32)) (pc' := 29) rfl d_uiu_28 rfl ?_
      refine own_ireturn rfl d_uiu_29 rfl rfl ?_
      exact ⟨_, rfl, rfl, rfl⟩
    · rw [Int32.lt_iff_toInt_lt] at q
      omega
  | succ k ih =>
    intro i j sf hik hj
    have hi : i < cs.length := by omega
    obtain ⟨c, hc⟩ : ∃ c, cs[i]? = some c := ⟨cs[i], by simp [hi]⟩
    refine own_iload (pc' := 5) rfl d_uiu_3 rfl ?_
    refine own_iload_n (pc' := 6) rfl d_uiu_5 rfl ?_
    refine own_icmpge (pcT := 28) (pcF := 9) d_uiu_6 (by decide) (by decide) rfl (fun q => ?_) (fun q => ?_)
    · exact absurd (by rw [Int32.lt_iff_toInt_lt]; omega) q
    · skip
      refine own_aload_n (pc' := 10) rfl d_uiu_9 rfl (by first | rfl | assumption) ?_
      refine own_iload (pc' := 12) rfl d_uiu_10 rfl ?_
      refine own_static2v (M' := M_gc) d_uiu_12 (pc' := 15) rfl (tw_232 hw) (tw_233 hw) (tw_21 hw) (tw_234 hw) (by decide) rfl (own_lenOf pd_5 rfl) rfl rfl rfl rfl (c_gc K a0 hw hU b j i c cs h hj hc (by omega) hcs B) (by simp) ?_
      rintro w h1 xs ⟨rfl, rfl⟩
      refine own_iload_n (pc' := 16) rfl d_uiu_15 rfl ?_
      refine own_icmpne (pcT := 22) (pcF := 19) d_uiu_16 (by decide) (by decide) rfl (fun q2 => ?_) (fun q2 => ?_)
      · skip
        refine own_iinc_4 (z := (1 : Int32)) (pc' := 25) rfl d_uiu_22 rfl ?_
        refine own_goto (pc' := 3) d_uiu_25 (by decide) (by decide) ?_
        have e : own_ixf cs ch (k + 1) i = own_ixf cs ch k (i + 1) := by simp [own_ixf, hc, q2]
        rw [e]
        exact own_weak (ih (i + 1) (j + 1) _ (by omega) (by rw [own_add hj (by rfl : (1 : Int32).toInt = 1)] <;> omega)) (fun x hx => hx) (by exact Nat.le_of_ble_eq_true rfl) (by exact Nat.le_of_ble_eq_true rfl)
      · skip
        refine own_iload (pc' := 21) rfl d_uiu_19 rfl ?_
        refine own_ireturn rfl d_uiu_21 rfl rfl ?_
        exact ⟨j, rfl, by simp [own_ixf, hc, q2, hj], rfl⟩
theorem d_uic_0 : decode jdk_52_method_47_code 0 = .ok (.iload_n 2, 1) := by decide +kernel
theorem d_uic_1 : decode jdk_52_method_47_code 1 = .ok (.iload_n 3, 1) := by decide +kernel
theorem d_uic_2 : decode jdk_52_method_47_code 2 = .ok (.aload_n 0, 1) := by decide +kernel
theorem d_uic_3 : decode jdk_52_method_47_code 3 = .ok (.invokestatic 96, 3) := by decide +kernel
theorem d_uic_6 : decode jdk_52_method_47_code 6 = .ok (.aload_n 0, 1) := by decide +kernel
theorem d_uic_7 : decode jdk_52_method_47_code 7 = .ok (.iload_n 1, 1) := by decide +kernel
theorem d_uic_8 : decode jdk_52_method_47_code 8 = .ok (.iload_n 2, 1) := by decide +kernel
theorem d_uic_9 : decode jdk_52_method_47_code 9 = .ok (.iload_n 3, 1) := by decide +kernel
theorem d_uic_10 : decode jdk_52_method_47_code 10 = .ok (.invokestatic 244, 3) := by decide +kernel
theorem d_uic_13 : decode jdk_52_method_47_code 13 = .ok (.ireturn, 1) := by decide +kernel
abbrev M_uic : own_Mi := ((⟨"java/lang/StringUTF16", "indexOfChar", "([BIII)I"⟩ : MethodName), jdk_52_method_47_code, 4, (Option.some FieldType.int), ({ frames := 3, cells := 0, slots := 0, locals := 43 } : Room))
theorem pn_uic : plainFor (own_Mi.y M_uic) = true := plainFor_of_name (by first | (simp [plainName, overriddenIn]; done) | decide +kernel)
set_option maxRecDepth 65536 in
set_option maxHeartbeats 40000000 in
theorem c_uic (K : own_Cx) (a0 : Array Value) (hw : ∀ d ∈ tables_1, d.before a0 K.Z = true) (hU : own_U16 K) (rf : Value) (hrf : rf.isRef = true) (SF : Sta K.Z K.Z.heap "jdk/internal/util/Preconditions" "SIOOBE_FORMATTER" "Ljava/util/function/BiFunction;" rf) (b : Addr) (cs : List Int32) (ch f n : Int32) (F : Nat) (h : Heap) (hcs : own_Chs cs) (hl : cs.length < 2 ^ 29) (hf : f.toInt = F) (hF : F ≤ cs.length) (hn : n.toInt = cs.length) (B : own_Ary K.Z h b .byte (own_ints (own_two cs))) :
    own_Met K M_uic #[.ref b, .int ch, .int f, .int n] [] h (own_ret fun w h' _ => ∃ r : Int32, w = .int r ∧ r.toInt = own_ix cs ch F ∧ h' = h) := by
  refine own_met_4_0 (M := M_uic) pn_uic rfl (by first | rfl | exact own_cat (by assumption)) (by first | rfl | exact own_cat (by assumption)) (by first | rfl | exact own_cat (by assumption)) (by first | rfl | exact own_cat (by assumption)) ?_
  refine own_iload_n (pc' := 1) rfl d_uic_0 rfl ?_
  refine own_iload_n (pc' := 2) rfl d_uic_1 rfl ?_
  refine own_aload_n (pc' := 3) rfl d_uic_2 rfl (by first | rfl | assumption) ?_
  refine own_static3n (M' := M_ube) d_uic_3 (pc' := 6) rfl (tw_254 hw) (tw_255 hw) (tw_21 hw) (tw_256 hw) (by decide) rfl (own_lenOf pd_20 rfl) rfl rfl rfl rfl (c_ube K a0 hw rf hrf SF b cs f n h (by omega) B (by omega) (by omega) (by omega)) (by simp) ?_
  rintro h1 xs rfl
  refine own_aload_n (pc' := 7) rfl d_uic_6 rfl (by first | rfl | assumption) ?_
  refine own_iload_n (pc' := 8) rfl d_uic_7 rfl ?_
  refine own_iload_n (pc' := 9) rfl d_uic_8 rfl ?_
  refine own_iload_n (pc' := 10) rfl d_uic_9 rfl ?_
  refine own_static4v (M' := M_uiu) d_uic_10 (pc' := 13) rfl (tw_261 hw) (tw_262 hw) (tw_21 hw) (tw_263 hw) (by decide) rfl (own_lenOf pd_17 rfl) rfl rfl rfl rfl (c_uiu K a0 hw hU b cs ch f n F _ hcs hl hf hF hn B) (by simp) ?_
  rintro w h2 xs2 ⟨r, rfl, hr, rfl⟩
  refine own_ireturn rfl d_uic_13 rfl rfl ?_
  exact ⟨r, rfl, hr, rfl⟩
theorem d_uio_0 : decode jdk_52_method_40_code 0 = .ok (.iload_n 2, 1) := by decide +kernel
theorem d_uio_1 : decode jdk_52_method_40_code 1 = .ok (.iconst 0, 1) := by decide +kernel
theorem d_uio_2 : decode jdk_52_method_40_code 2 = .ok (.invokestatic 224, 3) := by decide +kernel
theorem d_uio_5 : decode jdk_52_method_40_code 5 = .ok (.istore_n 2, 1) := by decide +kernel
theorem d_uio_6 : decode jdk_52_method_40_code 6 = .ok (.iload_n 3, 1) := by decide +kernel
theorem d_uio_7 : decode jdk_52_method_40_code 7 = .ok (.aload_n 0, 1) := by decide +kernel
theorem d_uio_8 : decode jdk_52_method_40_code 8 = .ok (.arraylength, 1) := by decide +kernel
theorem d_uio_9 : decode jdk_52_method_40_code 9 = .ok (.iconst 1, 1) := by decide +kernel
theorem d_uio_10 : decode jdk_52_method_40_code 10 = .ok (.ishr, 1) := by decide +kernel
theorem d_uio_11 : decode jdk_52_method_40_code 11 = .ok (.invokestatic 183, 3) := by decide +kernel
theorem d_uio_14 : decode jdk_52_method_40_code 14 = .ok (.istore_n 3, 1) := by decide +kernel
theorem d_uio_15 : decode jdk_52_method_40_code 15 = .ok (.iload_n 2, 1) := by decide +kernel
theorem d_uio_16 : decode jdk_52_method_40_code 16 = .ok (.iload_n 3, 1) := by decide +kernel
theorem d_uio_17 : decode jdk_52_method_40_code 17 = .ok (.if_icmp .lt 5, 3) := by decide +kernel
theorem d_uio_20 : decode jdk_52_method_40_code 20 = .ok (.iconst (-1), 1) := by decide +kernel
theorem d_uio_21 : decode jdk_52_method_40_code 21 = .ok (.ireturn, 1) := by decide +kernel
theorem d_uio_22 : decode jdk_52_method_40_code 22 = .ok (.iload_n 1, 1) := by decide +kernel
theorem d_uio_23 : decode jdk_52_method_40_code 23 = .ok (.ldc 227, 2) := by decide +kernel
theorem d_uio_25 : decode jdk_52_method_40_code 25 = .ok (.if_icmp .ge 11, 3) := by decide +kernel
theorem d_uio_28 : decode jdk_52_method_40_code 28 = .ok (.aload_n 0, 1) := by decide +kernel
theorem d_uio_29 : decode jdk_52_method_40_code 29 = .ok (.iload_n 1, 1) := by decide +kernel
theorem d_uio_30 : decode jdk_52_method_40_code 30 = .ok (.iload_n 2, 1) := by decide +kernel
theorem d_uio_31 : decode jdk_52_method_40_code 31 = .ok (.iload_n 3, 1) := by decide +kernel
theorem d_uio_32 : decode jdk_52_method_40_code 32 = .ok (.invokestatic 228, 3) := by decide +kernel
theorem d_uio_35 : decode jdk_52_method_40_code 35 = .ok (.ireturn, 1) := by decide +kernel
abbrev M_uio : own_Mi := ((⟨"java/lang/StringUTF16", "indexOf", "([BIII)I"⟩ : MethodName), jdk_52_method_40_code, 4, (Option.some FieldType.int), ({ frames := 4, cells := 0, slots := 0, locals := 58 } : Room))
theorem pn_uio : plainFor (own_Mi.y M_uio) = true := plainFor_of_name (by first | (simp [plainName, overriddenIn]; done) | decide +kernel)
set_option maxRecDepth 65536 in
set_option maxHeartbeats 40000000 in
theorem c_uio (K : own_Cx) (a0 : Array Value) (hw : ∀ d ∈ tables_1, d.before a0 K.Z = true) (hU : own_U16 K) (rf : Value) (hrf : rf.isRef = true) (SF : Sta K.Z K.Z.heap "jdk/internal/util/Preconditions" "SIOOBE_FORMATTER" "Ljava/util/function/BiFunction;" rf) (b : Addr) (cs : List Int32) (ch f n : Int32) (F : Nat) (h : Heap) (hcs : own_Chs cs) (hl : cs.length < 2 ^ 29) (c1 : ch.toInt < 65536) (hf : f.toInt = F) (hF : F ≤ cs.length) (hn : n.toInt = cs.length) (B : own_Ary K.Z h b .byte (own_ints (own_two cs))) :
    own_Met K M_uio #[.ref b, .int ch, .int f, .int n] [] h (own_ret fun w h' _ => ∃ r : Int32, w = .int r ∧ r.toInt = own_ix cs ch F ∧ h' = h) := by
  have v0 : (0 : Int32).toInt = 0 := rfl
  have hz : ((2 * cs.length).toInt32).toInt = ((2 * cs.length : Nat) : Int) := own_lit _ (by omega)
  refine own_met_4_0 (M := M_uio) pn_uio rfl (by first | rfl | exact own_cat (by assumption)) (by first | rfl | exact own_cat (by assumption)) (by first | rfl | exact own_cat (by assumption)) (by first | rfl | exact own_cat (by assumption)) ?_
  refine own_iload_n (pc' := 1) rfl d_uio_0 rfl ?_
  refine own_iconst (v := (0 : Int32)) (pc' := 2) rfl d_uio_1 rfl ?_
  refine own_static2v (M' := M_mmx) d_uio_2 (pc' := 5) rfl (tw_248 hw) (tw_95 hw) (tw_96 hw) (tw_97 hw) (by decide) rfl (own_lenOf pd_14 rfl) rfl rfl rfl rfl (c_mmx K a0 hw f 0 _) (by simp) ?_
  rintro w h2 xs2 ⟨r, rfl, hr, rfl⟩
  obtain rfl : r = f := by rcases hr with ⟨z, rfl⟩ | ⟨z, rfl⟩ <;> first | rfl | (exfalso; omega)
  refine own_istore_n2 (pc' := 6) rfl d_uio_5 (by first | exact One.u | exact One.val rfl | assumption | exact One.val (by assumption)) ?_
  refine own_iload_n (pc' := 7) rfl d_uio_6 rfl ?_
  refine own_aload_n (pc' := 8) rfl d_uio_7 rfl (by first | rfl | assumption) ?_
  refine own_arrlen (z := (2 * cs.length).toInt32) (pc' := 9) rfl d_uio_8 B (by rw [hz]; simp [own_two_len]) ?_
  refine own_iconst (v := (1 : Int32)) (pc' := 10) rfl d_uio_9 rfl ?_
  refine own_ishr (pc' := 11) rfl d_uio_10 ?_
  have e2 : (2 * cs.length).toInt32 >>> ((1 : Int32) &&& 31) = n := by
    apply Int32.toInt_inj.mp
    have := c_ishr (2 * cs.length).toInt32 1 1 (by decide)
    rw [this, hz, hn]
    omega
  rw [e2]
  refine own_static2v (M' := M_mmn) d_uio_11 (pc' := 14) rfl (tw_249 hw) (tw_99 hw) (tw_96 hw) (tw_100 hw) (by decide) rfl (own_lenOf pd_14 rfl) rfl rfl rfl rfl (c_mmn K a0 hw n n _) (by simp) ?_
  rintro w h3 xs3 ⟨r3, rfl, hr3, rfl⟩
  obtain rfl : r3 = n := by rcases hr3 with ⟨z, rfl⟩ | ⟨z, rfl⟩ <;> rfl
  refine own_istore_n3 (pc' := 15) rfl d_uio_14 (by first | exact One.u | exact One.val rfl | assumption | exact One.val (by assumption)) ?_
  refine own_iload_n (pc' := 16) rfl d_uio_15 rfl ?_
  refine own_iload_n (pc' := 17) rfl d_uio_16 rfl ?_
  refine own_icmplt (pcT := 22) (pcF := 20) d_uio_17 (by decide) (by decide) rfl (fun q2 => ?_) (fun q2 => ?_)
  · skip
    refine own_iload_n (pc' := 23) rfl d_uio_22 rfl ?_
    refine own_ldcI (pc' := 25) rfl d_uio_23 (tw_250 hw) ?_
    refine own_icmpge (pcT := 36) (pcF := 28) d_uio_25 (by decide) (by decide) rfl (fun q3 => ?_) (fun q3 => ?_)
    · exfalso
      apply q3
      rw [Int32.lt_iff_toInt_lt]
      have : (65536 : Int32).toInt = 65536 := rfl
      omega
    · skip
      refine own_aload_n (pc' := 29) rfl d_uio_28 rfl (by first | rfl | assumption) ?_
      refine own_iload_n (pc' := 30) rfl d_uio_29 rfl ?_
      refine own_iload_n (pc' := 31) rfl d_uio_30 rfl ?_
      refine own_iload_n (pc' := 32) rfl d_uio_31 rfl ?_
      refine own_static4v (M' := M_uic) d_uio_32 (pc' := 35) rfl (tw_251 hw) (tw_252 hw) (tw_21 hw) (tw_253 hw) (by decide) rfl (own_lenOf pd_17 rfl) rfl rfl rfl rfl (c_uic K a0 hw hU rf hrf SF b cs ch _ _ F _ hcs hl hf hF hn B) (by simp) ?_
      rintro w h4 xs4 ⟨r4, rfl, hr4, rfl⟩
      refine own_ireturn rfl d_uio_35 rfl rfl ?_
      exact ⟨r4, rfl, hr4, rfl⟩
  · rw [Int32.lt_iff_toInt_lt] at q2
    refine own_iconst (v := (-1 : Int32)) (pc' := 21) rfl d_uio_20 rfl ?_
    refine own_ireturn rfl d_uio_21 rfl rfl ?_
    exact ⟨_, rfl, by show (-1 : Int32).toInt = own_ixf cs ch (cs.length - F) F; rw [show cs.length - F = 0 by omega]; rfl, rfl⟩
theorem d_six_0 : decode jdk_42_method_80_code 0 = .ok (.aload_n 0, 1) := by decide +kernel
theorem d_six_1 : decode jdk_42_method_80_code 1 = .ok (.invokevirtual 492, 3) := by decide +kernel
theorem d_six_4 : decode jdk_42_method_80_code 4 = .ok (.ifCond .eq 19, 3) := by decide +kernel
theorem d_six_7 : decode jdk_42_method_80_code 7 = .ok (.aload_n 0, 1) := by decide +kernel
theorem d_six_8 : decode jdk_42_method_80_code 8 = .ok (.getfield 9, 3) := by decide +kernel
theorem d_six_11 : decode jdk_42_method_80_code 11 = .ok (.iload_n 1, 1) := by decide +kernel
theorem d_six_12 : decode jdk_42_method_80_code 12 = .ok (.iload_n 2, 1) := by decide +kernel
theorem d_six_13 : decode jdk_42_method_80_code 13 = .ok (.aload_n 0, 1) := by decide +kernel
theorem d_six_14 : decode jdk_42_method_80_code 14 = .ok (.invokevirtual 505, 3) := by decide +kernel
theorem d_six_17 : decode jdk_42_method_80_code 17 = .ok (.invokestatic 637, 3) := by decide +kernel
theorem d_six_20 : decode jdk_42_method_80_code 20 = .ok (.goto 16, 3) := by decide +kernel
theorem d_six_23 : decode jdk_42_method_80_code 23 = .ok (.aload_n 0, 1) := by decide +kernel
theorem d_six_24 : decode jdk_42_method_80_code 24 = .ok (.getfield 9, 3) := by decide +kernel
theorem d_six_27 : decode jdk_42_method_80_code 27 = .ok (.iload_n 1, 1) := by decide +kernel
theorem d_six_28 : decode jdk_42_method_80_code 28 = .ok (.iload_n 2, 1) := by decide +kernel
theorem d_six_29 : decode jdk_42_method_80_code 29 = .ok (.aload_n 0, 1) := by decide +kernel
theorem d_six_30 : decode jdk_42_method_80_code 30 = .ok (.invokevirtual 505, 3) := by decide +kernel
theorem d_six_33 : decode jdk_42_method_80_code 33 = .ok (.invokestatic 640, 3) := by decide +kernel
theorem d_six_36 : decode jdk_42_method_80_code 36 = .ok (.ireturn, 1) := by decide +kernel
abbrev M_six : own_Mi := ((⟨"java/lang/String", "indexOf", "(II)I"⟩ : MethodName), jdk_42_method_80_code, 3, (Option.some FieldType.int), ({ frames := 5, cells := 0, slots := 0, locals := 73 } : Room))
theorem pn_six : plainFor (own_Mi.y M_six) = true := plainFor_of_name (by first | (simp [plainName, overriddenIn]; done) | decide +kernel)
set_option maxRecDepth 65536 in
set_option maxHeartbeats 40000000 in
theorem c_six (K : own_Cx) (a0 : Array Value) (hw : ∀ d ∈ tables_1, d.before a0 K.Z = true)
    (hU : own_U16 K) (rf : Value) (hrf : rf.isRef = true) (SF : Sta K.Z K.Z.heap "jdk/internal/util/Preconditions" "SIOOBE_FORMATTER" "Ljava/util/function/BiFunction;" rf)
    (g : Int32) (SC : Sta K.Z K.Z.heap own_sC "COMPACT_STRINGS" "Z" (.int g)) (hg : ¬ g = 0) (x : Addr) (cs : List Int32) (ch f : Int32) (F : Nat) (h : Heap) (S : own_Str K.Z h x cs)
    (hl : cs.length < 2 ^ 29) (c0 : 0 ≤ ch.toInt) (c1 : ch.toInt < 256) (hf : f.toInt = F) (hF : F ≤ cs.length) :
    own_Met K M_six #[.ref x, .int ch, .int f] [] h (own_ret fun w h' _ => ∃ r : Int32, w = .int r ∧ r.toInt = own_ix cs ch F ∧ h' = h) := by
  have S' := S
  obtain ⟨E, hcs, -, b, FV, FC, B⟩ := S
  have hn : (cs.length.toInt32).toInt = cs.length := own_lit _ (by omega)
  refine own_met_3_0 (M := M_six) pn_six rfl (by first | rfl | exact own_cat (by assumption)) (by first | rfl | exact own_cat (by assumption)) (by first | rfl | exact own_cat (by assumption)) ?_
  refine own_aload_n (pc' := 1) rfl d_six_0 rfl (by first | rfl | assumption) ?_
  refine own_virtual0v (M' := M_isl) d_six_1 (pc' := 4) rfl (tw_62 hw) (tw_63 hw) (tw_65 hw) (tw_64 hw) (tw_7 hw) (tw_66 hw) (by decide) rfl (own_lenOf pd_13 rfl) rfl rfl rfl rfl E (c_isl K a0 hw g SC hg x cs h S') (by simp) ?_
  rintro w h1 xs ⟨rfl, rfl⟩
  cases ql : own_lat cs
  · skip
    refine own_ifeq (pcT := 23) (pcF := 7) d_six_4 (by decide) (by decide) rfl (fun q => ?_) (fun q => ?_)
    · skip
      refine own_aload_n (pc' := 24) rfl d_six_23 rfl (by first | rfl | assumption) ?_
      refine own_getF (pc' := 27) rfl d_six_24 (tw_32 hw) Via.refl FV ?_
      refine own_iload_n (pc' := 28) rfl d_six_27 rfl ?_
      refine own_iload_n (pc' := 29) rfl d_six_28 rfl ?_
      refine own_aload_n (pc' := 30) rfl d_six_29 rfl (by first | rfl | assumption) ?_
      refine own_virtual0v (M' := M_sl) d_six_30 (pc' := 33) rfl (tw_87 hw) (tw_48 hw) (tw_50 hw) (tw_49 hw) (tw_7 hw) (tw_51 hw) (by decide) rfl (own_lenOf pd_21 rfl) rfl rfl rfl rfl E (c_sl K a0 hw g SC hg x cs _ S') (by simp) ?_
      rintro w h2 xs2 ⟨rfl, rfl⟩
      rw [(own_enc_utf ql).1] at B
      refine own_static4v (M' := M_uio) d_six_33 (pc' := 36) rfl (tw_245 hw) (tw_246 hw) (tw_21 hw) (tw_247 hw) (by decide) rfl (own_lenOf pd_17 rfl) rfl rfl rfl rfl (c_uio K a0 hw hU rf hrf SF b cs ch f _ F _ hcs hl (by omega) hf hF hn B) (by simp) ?_
      rintro w h3 xs3 ⟨r, rfl, hr, rfl⟩
      refine own_ireturn rfl d_six_36 rfl rfl ?_
      exact ⟨r, rfl, hr, rfl⟩
    · exact absurd (by simp) q
  · skip
    refine own_ifeq (pcT := 23) (pcF := 7) d_six_4 (by decide) (by decide) rfl (fun q => ?_) (fun q => ?_)
    · exact absurd q (by simp)
    · skip
      refine own_aload_n (pc' := 8) rfl d_six_7 rfl (by first | rfl | assumption) ?_
      refine own_getF (pc' := 11) rfl d_six_8 (tw_32 hw) Via.refl FV ?_
      refine own_iload_n (pc' := 12) rfl d_six_11 rfl ?_
      refine own_iload_n (pc' := 13) rfl d_six_12 rfl ?_
      refine own_aload_n (pc' := 14) rfl d_six_13 rfl (by first | rfl | assumption) ?_
      refine own_virtual0v (M' := M_sl) d_six_14 (pc' := 17) rfl (tw_87 hw) (tw_48 hw) (tw_50 hw) (tw_49 hw) (tw_7 hw) (tw_51 hw) (by decide) rfl (own_lenOf pd_21 rfl) rfl rfl rfl rfl E (c_sl K a0 hw g SC hg x cs _ S') (by simp) ?_
      rintro w h2 xs2 ⟨rfl, rfl⟩
      rw [(own_enc_lat ql).1] at B
      refine own_static4v (M' := M_lio) d_six_17 (pc' := 20) rfl (tw_88 hw) (tw_89 hw) (tw_69 hw) (tw_90 hw) (by decide) rfl (own_lenOf pd_17 rfl) rfl rfl rfl rfl (c_lio K a0 hw b cs ch f _ F _ hcs ql c0 c1 hf hF hn B) (by simp) ?_
      rintro w h3 xs3 ⟨r, rfl, hr, rfl⟩
      refine own_goto (pc' := 36) d_six_20 (by decide) (by decide) ?_
      refine own_ireturn rfl d_six_36 rfl rfl ?_
      exact ⟨r, rfl, hr, rfl⟩
/-! StringBuilder of chars, with its two codings: needs UTF, S_UL, CAP ≥ SBC, CAPB ≥ 2 * SBC -/
abbrev own_bC : String := "java/lang/StringBuilder"
abbrev own_bA : String := "java/lang/AbstractStringBuilder"
def own_sbv (u : Bool) (cs : List Int32) : List Int32 := if u then own_two cs else cs.map own_bt
def own_ub (u : Bool) : Int32 := if u then 1 else 0
def own_uw (u : Bool) : Nat := if u then 2 else 1
theorem own_sbv_len (u : Bool) (cs : List Int32) : (own_ints (own_sbv u cs)).length = own_uw u * cs.length := by
  cases u
  · simp [own_sbv, own_uw]
  · simp [own_sbv, own_uw, own_two_len]
theorem own_sbv_app (u : Bool) (cs ds : List Int32) : own_sbv u (cs ++ ds) = own_sbv u cs ++ own_sbv u ds := by
  cases u <;> simp [own_sbv, own_two]
def own_SBx (Z : State) (h : Heap) (t b : Addr) (u : Bool) (cs : List Int32) (cap : Nat) : Prop := Exa Z h t own_bC ∧ own_Chs cs ∧ cs.length ≤ cap ∧ cap < 2 ^ 27 ∧ (u = false → own_lat cs = true) ∧ Fld Z h t own_bA "value" "[B" (.ref b) ∧ Fld Z h t own_bA "coder" "B" (.int (own_ub u)) ∧ Fld Z h t own_bA "count" "I" (.int cs.length.toInt32) ∧ Fld Z h t own_bA "maybeLatin1" "Z" (.int 0) ∧ own_Ary Z h b .byte (own_ints (own_sbv u cs) ++ List.replicate (own_uw u * (cap - cs.length)) (.int 0))
abbrev own_SB (Z : State) (h : Heap) (t b : Addr) (cs : List Int32) (cap : Nat) : Prop := own_SBx Z h t b (!own_lat cs) cs cap
theorem own_SBx.ext {Z : State} {h h' : Heap} {t b : Addr} {u : Bool} {cs : List Int32} {cap : Nat} (F : own_SBx Z h t b u cs cap) (E : Ext h h') : own_SBx Z h' t b u cs cap := by
  obtain ⟨h1, h2, h3, h4, h5, h6, h7, h8, h9, h10⟩ := F
  exact ⟨h1.ext E, h2, h3, h4, h5, h6.ext E, h7.ext E, h8.ext E, h9.ext E, h10.ext E⟩
theorem own_SBx.ltb {Z : State} {h : Heap} {t b : Addr} {u : Bool} {cs : List Int32} {cap : Nat} (F : own_SBx Z h t b u cs cap) : @LT.lt Nat _ b h.size := by
  obtain ⟨h1, h2, h3, h4, h5, h6, h7, h8, h9, h10⟩ := F
  exact h10.lt
theorem own_lat_app {cs ds : List Int32} : own_lat (cs ++ ds) = (own_lat cs && own_lat ds) := by simp [own_lat]
theorem own_chs_app {cs ds : List Int32} (h1 : own_Chs cs) (h2 : own_Chs ds) : own_Chs (cs ++ ds) := fun c hc => (List.mem_append.mp hc).elim (h1 c) (h2 c)
theorem own_nadd {x y : Int32} {m n : Nat} (hx : x.toInt = m) (hy : y.toInt = n) (q : m + n < 2 ^ 31) : x + y = (m + n).toInt32 := by
  apply Int32.toInt_inj.mp
  rw [own_lit _ q, own_add hx hy] <;> omega
theorem own_or_nn {x y : Int32} (hx : 0 ≤ x.toInt) (hy : 0 ≤ y.toInt) : 0 ≤ (x ||| y).toInt := by
  have h1 := BitVec.msb_eq_toInt (x := x.toBitVec)
  have h2 := BitVec.msb_eq_toInt (x := y.toBitVec)
  have h3 := BitVec.msb_eq_toInt (x := (x ||| y).toBitVec)
  have e : (x ||| y).toBitVec = x.toBitVec ||| y.toBitVec := rfl
  have g1 : x.toBitVec.toInt = x.toInt := rfl
  have g2 : y.toBitVec.toInt = y.toInt := rfl
  have g3 : (x ||| y).toBitVec.toInt = (x ||| y).toInt := rfl
  rw [g3] at h3
  rw [e, BitVec.msb_or, h1, h2, g1, g2, decide_eq_false (by omega : ¬ x.toInt < 0), decide_eq_false (by omega : ¬ y.toInt < 0)] at h3
  have h4 := of_decide_eq_false h3.symm
  omega
theorem own_sslots {Z : State} {a0 : Array Value} (hw : ∀ d ∈ tables_1, d.before a0 Z = true) : (RoadKit.slotOf Z own_bA "value" "[B" ≠ RoadKit.slotOf Z own_bA "coder" "B" ∧ RoadKit.slotOf Z own_bA "value" "[B" ≠ RoadKit.slotOf Z own_bA "count" "I" ∧ RoadKit.slotOf Z own_bA "coder" "B" ≠ RoadKit.slotOf Z own_bA "count" "I") ∧ RoadKit.slotOf Z own_bA "maybeLatin1" "Z" ≠ RoadKit.slotOf Z own_bA "value" "[B" ∧ RoadKit.slotOf Z own_bA "maybeLatin1" "Z" ≠ RoadKit.slotOf Z own_bA "coder" "B" ∧ RoadKit.slotOf Z own_bA "maybeLatin1" "Z" ≠ RoadKit.slotOf Z own_bA "count" "I" := by
  have L1 : Laid Z a0 own_bC own_bA "value" "[B" := Or.inl (tw_125 hw)
  have L2 : Laid Z a0 own_bC own_bA "coder" "B" := Or.inl (tw_127 hw)
  have L3 : Laid Z a0 own_bC own_bA "count" "I" := Or.inl (tw_151 hw)
  have L4 : Laid Z a0 own_bC own_bA "maybeLatin1" "Z" := Or.inl (tw_290 hw)
  exact ⟨⟨slot_ne L1 L2 (by decide) (t := .array .byte) (t' := .byte) (by decide) (by decide), slot_ne L1 L3 (by decide) (t := .array .byte) (t' := .int) (by decide) (by decide), slot_ne L2 L3 (by decide) (t := .byte) (t' := .int) (by decide) (by decide)⟩, slot_ne L4 L1 (by decide) (t := .boolean) (t' := .array .byte) (by decide) (by decide), slot_ne L4 L2 (by decide) (t := .boolean) (t' := .byte) (by decide) (by decide), slot_ne L4 L3 (by decide) (t := .boolean) (t' := .int) (by decide) (by decide)⟩
theorem own_mem2 {x y : Addr} {L : List Addr} (h1 : x ∈ L) (h2 : y ∈ L) : ∀ z ∈ [x, y], z ∈ L := by
  intro z hz
  simp only [List.mem_cons, List.not_mem_nil, or_false] at hz
  rcases hz with rfl | rfl <;> assumption
theorem d_abi_0 : decode jdk_68_method_2_code 0 = .ok (.aload_n 0, 1) := by decide +kernel
theorem d_abi_1 : decode jdk_68_method_2_code 1 = .ok (.invokespecial 3, 3) := by decide +kernel
theorem d_abi_4 : decode jdk_68_method_2_code 4 = .ok (.getstatic 18, 3) := by decide +kernel
theorem d_abi_7 : decode jdk_68_method_2_code 7 = .ok (.ifCond .eq 18, 3) := by decide +kernel
theorem d_abi_10 : decode jdk_68_method_2_code 10 = .ok (.aload_n 0, 1) := by decide +kernel
theorem d_abi_11 : decode jdk_68_method_2_code 11 = .ok (.iload_n 1, 1) := by decide +kernel
theorem d_abi_12 : decode jdk_68_method_2_code 12 = .ok (.newarray .byte, 2) := by decide +kernel
theorem d_abi_14 : decode jdk_68_method_2_code 14 = .ok (.putfield 15, 3) := by decide +kernel
theorem d_abi_17 : decode jdk_68_method_2_code 17 = .ok (.aload_n 0, 1) := by decide +kernel
theorem d_abi_18 : decode jdk_68_method_2_code 18 = .ok (.iconst 0, 1) := by decide +kernel
theorem d_abi_19 : decode jdk_68_method_2_code 19 = .ok (.putfield 22, 3) := by decide +kernel
theorem d_abi_22 : decode jdk_68_method_2_code 22 = .ok (.goto 16, 3) := by decide +kernel
theorem d_abi_38 : decode jdk_68_method_2_code 38 = .ok (.return_, 1) := by decide +kernel
abbrev M_abi : own_Mi := ((⟨"java/lang/AbstractStringBuilder", "<init>", "(I)V"⟩ : MethodName), jdk_68_method_2_code, 2, (Option.none : Option FieldType), ({ frames := 1, cells := 1, slots := 6, locals := 12 } : Room))
theorem pn_abi : plainFor (own_Mi.y M_abi) = true := plainFor_of_name (by first | (simp [plainName, overriddenIn]; done) | decide +kernel)
set_option maxRecDepth 65536 in
set_option maxHeartbeats 40000000 in
theorem c_abi (K : own_Cx) (a0 : Array Value) (hw : ∀ d ∈ tables_1, d.before a0 K.Z = true) (g : Int32) (SC : Sta K.Z K.Z.heap own_sC "COMPACT_STRINGS" "Z" (.int g)) (hg : ¬ g = 0) (t : Addr) (n : Int32) (cap : Nat) (h : Heap) (hn : n.toInt = cap) (hcap : cap ≤ 6) (E : Exa K.Z h t own_bC) (F1 : Fld K.Z h t own_bA "value" "[B" .null) (F2 : Fld K.Z h t own_bA "coder" "B" (.int 0)) (F3 : Fld K.Z h t own_bA "count" "I" (.int 0)) (F4 : Fld K.Z h t own_bA "maybeLatin1" "Z" (.int 0)) :
    own_Met K M_abi #[.ref t, .int n] [t] h (own_void fun h' xs => Keep h h' [t] ∧ ∃ b : Addr, b ∈ xs ∧ h.size ≤ b ∧ own_SB K.Z h' t b [] cap) := by
  obtain ⟨⟨s12, s13, s23⟩, s41, s42, s43⟩ := own_sslots hw
  refine own_met_2_0 (M := M_abi) pn_abi rfl (by first | rfl | exact own_cat (by assumption)) (by first | rfl | exact own_cat (by assumption)) ?_
  refine own_aload_n (pc' := 1) rfl d_abi_0 rfl (by first | rfl | assumption) ?_
  refine own_initO (pc' := 4) rfl d_abi_1 (tw_122 hw) (tw_16 hw) (tw_17 hw) rfl rfl rfl ?_
  refine own_getS (pc' := 7) rfl d_abi_4 (tw_123 hw) Via.refl (by assumption) ?_
  refine own_ifeq (pcT := 25) (pcF := 10) d_abi_7 (by decide) (by decide) rfl (fun q => ?_) (fun q => ?_)
  · exact absurd q hg
  · skip
    refine own_aload_n (pc' := 11) rfl d_abi_10 rfl (by first | rfl | assumption) ?_
    refine own_iload_n (pc' := 12) rfl d_abi_11 rfl ?_
    refine own_newarray (pc' := 14) rfl d_abi_12 (tw_23 hw) (N := cap) (cap := 6) hn hcap rfl rfl rfl ?_
    intro b h1 eb E1 B1
    have tb : b ≠ t := by show @Ne Nat b t; have : @LT.lt Nat _ _ _ := E.lt; omega
    refine own_putF (pc' := 17) rfl d_abi_14 (tw_124 hw) Via.refl (Or.inl (tw_125 hw)) (tw_111 hw) (ty := (.array .byte)) (by decide) rfl rfl (F1.ext E1) (E.ext E1) (by simp) ?_
    intro h2 W2
    have G1 := (F1.ext E1).same W2
    have G2 := (F2.ext E1).other W2 (Or.inr (Ne.symm s12))
    have G3 := (F3.ext E1).other W2 (Or.inr (Ne.symm s13))
    have G4 := (F4.ext E1).other W2 (Or.inr s41)
    have E2 := (E.ext E1).wr W2
    have B2 := B1.other W2 tb
    refine own_aload_n (pc' := 18) rfl d_abi_17 rfl (by first | rfl | assumption) ?_
    refine own_iconst (v := (0 : Int32)) (pc' := 19) rfl d_abi_18 rfl ?_
    refine own_putF (pc' := 22) rfl d_abi_19 (tw_126 hw) Via.refl (Or.inl (tw_127 hw)) (tw_111 hw) (ty := .byte) (by decide) rfl rfl G2 E2 (by simp) ?_
    intro h3 W3
    refine own_goto (pc' := 38) d_abi_22 (by decide) (by decide) ?_
    refine own_return rfl d_abi_38 rfl rfl ?_
    exact ⟨((((Keep.refl h [t]).ext E1).wr W2 (Or.inl (List.mem_singleton.mpr rfl))).wr W3 (Or.inl (List.mem_singleton.mpr rfl))), b, by simp, by omega, E2.wr W3, (fun c hc => nomatch hc), Nat.zero_le _, by omega, fun _ => rfl, G1.other W3 (Or.inr s12), G2.same W3, G3.other W3 (Or.inr (Ne.symm s23)), G4.other W3 (Or.inr s42), by
      have e : own_ints (own_sbv (!own_lat []) []) ++ List.replicate (own_uw (!own_lat []) * (cap - ([] : List Int32).length)) (Value.int 0) = List.replicate cap (.int 0) := by
        show [] ++ List.replicate (1 * (cap - 0)) (Value.int 0) = _
        simp
      rw [e]
      exact B2.other W3 tb⟩
theorem d_sbi_0 : decode jdk_67_method_2_code 0 = .ok (.aload_n 0, 1) := by decide +kernel
theorem d_sbi_1 : decode jdk_67_method_2_code 1 = .ok (.iload_n 1, 1) := by decide +kernel
theorem d_sbi_2 : decode jdk_67_method_2_code 2 = .ok (.invokespecial 1, 3) := by decide +kernel
theorem d_sbi_5 : decode jdk_67_method_2_code 5 = .ok (.return_, 1) := by decide +kernel
abbrev M_sbi : own_Mi := ((⟨"java/lang/StringBuilder", "<init>", "(I)V"⟩ : MethodName), jdk_67_method_2_code, 2, (Option.none : Option FieldType), ({ frames := 2, cells := 1, slots := 6, locals := 25 } : Room))
theorem pn_sbi : plainFor (own_Mi.y M_sbi) = true := plainFor_of_name (by first | (simp [plainName, overriddenIn]; done) | decide +kernel)
set_option maxRecDepth 65536 in
set_option maxHeartbeats 40000000 in
theorem c_sbi (K : own_Cx) (a0 : Array Value) (hw : ∀ d ∈ tables_1, d.before a0 K.Z = true) (g : Int32) (SC : Sta K.Z K.Z.heap own_sC "COMPACT_STRINGS" "Z" (.int g)) (hg : ¬ g = 0) (t : Addr) (n : Int32) (cap : Nat) (h : Heap) (hn : n.toInt = cap) (hcap : cap ≤ 6) (E : Exa K.Z h t own_bC) (F1 : Fld K.Z h t own_bA "value" "[B" .null) (F2 : Fld K.Z h t own_bA "coder" "B" (.int 0)) (F3 : Fld K.Z h t own_bA "count" "I" (.int 0)) (F4 : Fld K.Z h t own_bA "maybeLatin1" "Z" (.int 0)) :
    own_Met K M_sbi #[.ref t, .int n] [t] h (own_void fun h' xs => Keep h h' [t] ∧ ∃ b : Addr, b ∈ xs ∧ h.size ≤ b ∧ own_SB K.Z h' t b [] cap) := by
  refine own_met_2_0 (M := M_sbi) pn_sbi rfl (by first | rfl | exact own_cat (by assumption)) (by first | rfl | exact own_cat (by assumption)) ?_
  refine own_aload_n (pc' := 1) rfl d_sbi_0 rfl (by first | rfl | assumption) ?_
  refine own_iload_n (pc' := 2) rfl d_sbi_1 rfl ?_
  refine own_special1n (M' := M_abi) d_sbi_2 (pc' := 5) rfl rfl rfl (tw_116 hw) (tw_117 hw) (tw_120 hw) (tw_121 hw) (by decide) rfl (own_lenOf pd_22 rfl) rfl rfl rfl rfl (c_abi K a0 hw g SC hg t n cap h hn hcap E F1 F2 F3 F4) (by simp) ?_
  rintro h1 xs ⟨k1, b, hb1, hb2, S1⟩
  refine own_return rfl d_sbi_5 rfl rfl ?_
  exact ⟨k1, b, by simp [hb1], hb2, S1⟩
theorem d_ens_0 : decode jdk_68_method_9_code 0 = .ok (.aload_n 0, 1) := by decide +kernel
theorem d_ens_1 : decode jdk_68_method_9_code 1 = .ok (.getfield 15, 3) := by decide +kernel
theorem d_ens_4 : decode jdk_68_method_9_code 4 = .ok (.arraylength, 1) := by decide +kernel
theorem d_ens_5 : decode jdk_68_method_9_code 5 = .ok (.aload_n 0, 1) := by decide +kernel
theorem d_ens_6 : decode jdk_68_method_9_code 6 = .ok (.getfield 22, 3) := by decide +kernel
theorem d_ens_9 : decode jdk_68_method_9_code 9 = .ok (.ishr, 1) := by decide +kernel
theorem d_ens_10 : decode jdk_68_method_9_code 10 = .ok (.istore_n 2, 1) := by decide +kernel
theorem d_ens_11 : decode jdk_68_method_9_code 11 = .ok (.iload_n 1, 1) := by decide +kernel
theorem d_ens_12 : decode jdk_68_method_9_code 12 = .ok (.iload_n 2, 1) := by decide +kernel
theorem d_ens_13 : decode jdk_68_method_9_code 13 = .ok (.isub, 1) := by decide +kernel
theorem d_ens_14 : decode jdk_68_method_9_code 14 = .ok (.ifCond .le 24, 3) := by decide +kernel
theorem d_ens_38 : decode jdk_68_method_9_code 38 = .ok (.return_, 1) := by decide +kernel
abbrev M_ens : own_Mi := ((⟨"java/lang/AbstractStringBuilder", "ensureCapacityInternal", "(I)V"⟩ : MethodName), jdk_68_method_9_code, 3, (Option.none : Option FieldType), ({ frames := 0, cells := 0, slots := 0, locals := 0 } : Room))
theorem pn_ens : plainFor (own_Mi.y M_ens) = true := plainFor_of_name (by first | (simp [plainName, overriddenIn]; done) | decide +kernel)
set_option maxRecDepth 65536 in
set_option maxHeartbeats 40000000 in
theorem c_ens (K : own_Cx) (a0 : Array Value) (hw : ∀ d ∈ tables_1, d.before a0 K.Z = true) (t b : Addr) (u : Bool) (cs : List Int32) (cap : Nat) (m : Int32) (h : Heap) (S : own_SBx K.Z h t b u cs cap) (h0 : 0 ≤ m.toInt) (hm : m.toInt ≤ cap) :
    own_Met K M_ens #[.ref t, .int m] [] h (own_void fun h' _ => h' = h) := by
  obtain ⟨E, hcs, hle, hcap, hlat, F1, F2, F3, F4, B⟩ := S
  have hz : (cap.toInt32).toInt = cap := own_lit _ (by omega)
  have hlen : (own_ints (own_sbv u cs) ++ List.replicate (own_uw u * (cap - cs.length)) (Value.int 0)).length = own_uw u * cap := by
    rw [List.length_append, own_sbv_len, List.length_replicate, ← Nat.mul_add, Nat.add_sub_cancel' hle]
  have hz2 : ((own_uw u * cap).toInt32).toInt = ((own_uw u * cap : Nat) : Int) := own_lit _ (by cases u <;> simp [own_uw] <;> omega)
  have hsh : (own_uw u * cap).toInt32 >>> (own_ub u &&& 31) = cap.toInt32 := by
    cases u
    · show (1 * cap).toInt32 >>> ((0 : Int32) &&& 31) = _
      rw [own_shr0, Nat.one_mul]
    · apply Int32.toInt_inj.mp
      have := c_ishr (own_uw true * cap).toInt32 1 1 (by decide)
      rw [show own_ub true = 1 from rfl, this, hz2, hz]
      show ((2 * cap : Nat) : Int) / _ = _
      omega
  refine own_met_2_1 (M := M_ens) pn_ens rfl (by first | rfl | exact own_cat (by assumption)) (by first | rfl | exact own_cat (by assumption)) ?_
  refine own_aload_n (pc' := 1) rfl d_ens_0 rfl (by first | rfl | assumption) ?_
  refine own_getF (pc' := 4) rfl d_ens_1 (tw_124 hw) Via.refl F1 ?_
  refine own_arrlen (z := (own_uw u * cap).toInt32) (pc' := 5) rfl d_ens_4 B (by rw [hz2, hlen]) ?_
  refine own_aload_n (pc' := 6) rfl d_ens_5 rfl (by first | rfl | assumption) ?_
  refine own_getF (pc' := 9) rfl d_ens_6 (tw_126 hw) Via.refl F2 ?_
  refine own_ishr (pc' := 10) rfl d_ens_9 ?_
  rw [hsh]
  refine own_istore_n2 (pc' := 11) rfl d_ens_10 (by first | exact One.u | exact One.val rfl | assumption | exact One.val (by assumption)) ?_
  refine own_iload_n (pc' := 12) rfl d_ens_11 rfl ?_
  refine own_iload_n (pc' := 13) rfl d_ens_12 rfl ?_
  refine own_isub (pc' := 14) rfl d_ens_13 ?_
  refine own_ifle (pcT := 38) (pcF := 17) d_ens_14 (by decide) (by decide) rfl (fun q => ?_) (fun q => ?_)
  · skip
    refine own_return rfl d_ens_38 rfl rfl ?_
    rfl
  · exfalso
    rw [Int32.lt_iff_toInt_lt, own_sub (x := m) rfl hz (by omega) (by omega)] at q
    have : (0 : Int32).toInt = 0 := rfl
    omega
theorem d_pfs_0 : decode jdk_41_method_13_code 0 = .ok (.iload_n 2, 1) := by decide +kernel
theorem d_pfs_1 : decode jdk_41_method_13_code 1 = .ok (.iload_n 0, 1) := by decide +kernel
theorem d_pfs_2 : decode jdk_41_method_13_code 2 = .ok (.ior, 1) := by decide +kernel
theorem d_pfs_3 : decode jdk_41_method_13_code 3 = .ok (.iload_n 1, 1) := by decide +kernel
theorem d_pfs_4 : decode jdk_41_method_13_code 4 = .ok (.ior, 1) := by decide +kernel
theorem d_pfs_5 : decode jdk_41_method_13_code 5 = .ok (.ifCond .lt 10, 3) := by decide +kernel
theorem d_pfs_8 : decode jdk_41_method_13_code 8 = .ok (.iload_n 1, 1) := by decide +kernel
theorem d_pfs_9 : decode jdk_41_method_13_code 9 = .ok (.iload_n 2, 1) := by decide +kernel
theorem d_pfs_10 : decode jdk_41_method_13_code 10 = .ok (.iload_n 0, 1) := by decide +kernel
theorem d_pfs_11 : decode jdk_41_method_13_code 11 = .ok (.isub, 1) := by decide +kernel
theorem d_pfs_12 : decode jdk_41_method_13_code 12 = .ok (.if_icmp .le 11, 3) := by decide +kernel
theorem d_pfs_23 : decode jdk_41_method_13_code 23 = .ok (.iload_n 0, 1) := by decide +kernel
theorem d_pfs_24 : decode jdk_41_method_13_code 24 = .ok (.ireturn, 1) := by decide +kernel
abbrev M_pfs : own_Mi := ((⟨"jdk/internal/util/Preconditions", "checkFromIndexSize", "(IIILjava/util/function/BiFunction;)I"⟩ : MethodName), jdk_41_method_13_code, 4, (Option.some FieldType.int), ({ frames := 0, cells := 0, slots := 0, locals := 0 } : Room))
theorem pn_pfs : plainFor (own_Mi.y M_pfs) = true := plainFor_of_name (by first | (simp [plainName, overriddenIn]; done) | decide +kernel)
set_option maxRecDepth 65536 in
set_option maxHeartbeats 40000000 in
theorem c_pfs (K : own_Cx) (a0 : Array Value) (hw : ∀ d ∈ tables_1, d.before a0 K.Z = true) (rf : Value) (hrf : rf.isRef = true) (i s n : Int32) (h : Heap) (h0 : 0 ≤ i.toInt) (h1 : 0 ≤ s.toInt) (h2 : i.toInt + s.toInt ≤ n.toInt) :
    own_Met K M_pfs #[.int i, .int s, .int n, rf] [] h (own_ret fun w h' _ => w = .int i ∧ h' = h) := by
  have v0 : (0 : Int32).toInt = 0 := rfl
  have ho := own_or_nn (own_or_nn (x := n) (y := i) (by omega) h0) h1
  have r1 := rng32 n
  refine own_met_4_0 (M := M_pfs) pn_pfs rfl (by first | rfl | exact own_cat (by assumption)) (by first | rfl | exact own_cat (by assumption)) (by first | rfl | exact own_cat (by assumption)) (by first | rfl | exact own_cat (by assumption)) ?_
  refine own_iload_n (pc' := 1) rfl d_pfs_0 rfl ?_
  refine own_iload_n (pc' := 2) rfl d_pfs_1 rfl ?_
  refine own_ior (pc' := 3) rfl d_pfs_2 ?_
  refine own_iload_n (pc' := 4) rfl d_pfs_3 rfl ?_
  refine own_ior (pc' := 5) rfl d_pfs_4 ?_
  refine own_iflt (pcT := 15) (pcF := 8) d_pfs_5 (by decide) (by decide) rfl (fun q => ?_) (fun q => ?_)
  · rw [Int32.lt_iff_toInt_lt] at q
    omega
  · skip
    refine own_iload_n (pc' := 9) rfl d_pfs_8 rfl ?_
    refine own_iload_n (pc' := 10) rfl d_pfs_9 rfl ?_
    refine own_iload_n (pc' := 11) rfl d_pfs_10 rfl ?_
    refine own_isub (pc' := 12) rfl d_pfs_11 ?_
    refine own_icmple (pcT := 23) (pcF := 15) d_pfs_12 (by decide) (by decide) rfl (fun q2 => ?_) (fun q2 => ?_)
    · skip
      refine own_iload_n (pc' := 24) rfl d_pfs_23 rfl ?_
      refine own_ireturn rfl d_pfs_24 rfl rfl ?_
      exact ⟨rfl, rfl⟩
    · rw [Int32.lt_iff_toInt_lt, own_sub (x := n) (y := i) rfl rfl (by omega) (by omega)] at q2
      omega
theorem d_sbo_0 : decode jdk_42_method_157_code 0 = .ok (.iload_n 0, 1) := by decide +kernel
theorem d_sbo_1 : decode jdk_42_method_157_code 1 = .ok (.iload_n 1, 1) := by decide +kernel
theorem d_sbo_2 : decode jdk_42_method_157_code 2 = .ok (.iload_n 2, 1) := by decide +kernel
theorem d_sbo_3 : decode jdk_42_method_157_code 3 = .ok (.getstatic 1053, 3) := by decide +kernel
theorem d_sbo_6 : decode jdk_42_method_157_code 6 = .ok (.invokestatic 1065, 3) := by decide +kernel
theorem d_sbo_9 : decode jdk_42_method_157_code 9 = .ok (.ireturn, 1) := by decide +kernel
abbrev M_sbo : own_Mi := ((⟨"java/lang/String", "checkBoundsOffCount", "(III)I"⟩ : MethodName), jdk_42_method_157_code, 3, (Option.some FieldType.int), ({ frames := 1, cells := 0, slots := 0, locals := 15 } : Room))
theorem pn_sbo : plainFor (own_Mi.y M_sbo) = true := plainFor_of_name (by first | (simp [plainName, overriddenIn]; done) | decide +kernel)
set_option maxRecDepth 65536 in
set_option maxHeartbeats 40000000 in
theorem c_sbo (K : own_Cx) (a0 : Array Value) (hw : ∀ d ∈ tables_1, d.before a0 K.Z = true) (rf : Value) (hrf : rf.isRef = true) (SF : Sta K.Z K.Z.heap "jdk/internal/util/Preconditions" "SIOOBE_FORMATTER" "Ljava/util/function/BiFunction;" rf) (i s n : Int32) (h : Heap) (h0 : 0 ≤ i.toInt) (h1 : 0 ≤ s.toInt) (h2 : i.toInt + s.toInt ≤ n.toInt) :
    own_Met K M_sbo #[.int i, .int s, .int n] [] h (own_ret fun w h' _ => w = .int i ∧ h' = h) := by
  refine own_met_3_0 (M := M_sbo) pn_sbo rfl (by first | rfl | exact own_cat (by assumption)) (by first | rfl | exact own_cat (by assumption)) (by first | rfl | exact own_cat (by assumption)) ?_
  refine own_iload_n (pc' := 1) rfl d_sbo_0 rfl ?_
  refine own_iload_n (pc' := 2) rfl d_sbo_1 rfl ?_
  refine own_iload_n (pc' := 3) rfl d_sbo_2 rfl ?_
  refine own_getS (pc' := 6) rfl d_sbo_3 (tw_74 hw) Via.refl SF ?_
  refine own_static4v (M' := M_pfs) d_sbo_6 (pc' := 9) rfl (tw_286 hw) (tw_287 hw) (tw_75 hw) (tw_288 hw) (by decide) rfl (own_lenOf pd_18 rfl) rfl rfl rfl rfl (c_pfs K a0 hw rf hrf i s n h h0 h1 h2) (by simp) ?_
  rintro w h3 xs ⟨rfl, rfl⟩
  refine own_ireturn rfl d_sbo_9 rfl rfl ?_
  exact ⟨rfl, rfl⟩
set_option maxRecDepth 65536 in
set_option maxHeartbeats 40000000 in
theorem c_ulg (K : own_Cx) (a0 : Array Value) (hw : ∀ d ∈ tables_1, d.before a0 K.Z = true) (b : Addr) (vs : List Value) (N : Nat) (h : Heap) (hv : vs.length = 2 * N) (hN : N < 2 ^ 29) (B : own_Ary K.Z h b .byte vs) :
    own_Met K M_ul #[.ref b] [] h (own_ret fun w h' _ => w = .int N.toInt32 ∧ h' = h) := by
  have hz : ((2 * N).toInt32).toInt = ((2 * N : Nat) : Int) := own_lit _ (by omega)
  have hn : (N.toInt32).toInt = N := own_lit _ (by omega)
  have e2 : (2 * N).toInt32 >>> ((1 : Int32) &&& 31) = N.toInt32 := by
    apply Int32.toInt_inj.mp
    have := c_ishr (2 * N).toInt32 1 1 (by decide)
    rw [this, hz, hn]
    omega
  refine own_met_1_0 (M := M_ul) pn_ul rfl (by first | rfl | exact own_cat (by assumption)) ?_
  refine own_aload_n (pc' := 1) rfl d_ul_0 rfl (by first | rfl | assumption) ?_
  refine own_arrlen (z := (2 * N).toInt32) (pc' := 2) rfl d_ul_1 B (by rw [hz, hv]) ?_
  refine own_iconst (v := (1 : Int32)) (pc' := 3) rfl d_ul_2 rfl ?_
  refine own_ishr (pc' := 4) rfl d_ul_3 ?_
  rw [e2]
  refine own_ireturn rfl d_ul_4 rfl rfl ?_
  exact ⟨rfl, rfl⟩
theorem d_ubo_0 : decode jdk_52_method_94_code 0 = .ok (.iload_n 0, 1) := by decide +kernel
theorem d_ubo_1 : decode jdk_52_method_94_code 1 = .ok (.iload_n 1, 1) := by decide +kernel
theorem d_ubo_2 : decode jdk_52_method_94_code 2 = .ok (.aload_n 2, 1) := by decide +kernel
theorem d_ubo_3 : decode jdk_52_method_94_code 3 = .ok (.invokestatic 48, 3) := by decide +kernel
theorem d_ubo_6 : decode jdk_52_method_94_code 6 = .ok (.invokestatic 419, 3) := by decide +kernel
theorem d_ubo_9 : decode jdk_52_method_94_code 9 = .ok (.pop, 1) := by decide +kernel
theorem d_ubo_10 : decode jdk_52_method_94_code 10 = .ok (.return_, 1) := by decide +kernel
abbrev M_ubo : own_Mi := ((⟨"java/lang/StringUTF16", "checkBoundsOffCount", "(II[B)V"⟩ : MethodName), jdk_52_method_94_code, 3, (Option.none : Option FieldType), ({ frames := 2, cells := 0, slots := 0, locals := 29 } : Room))
theorem pn_ubo : plainFor (own_Mi.y M_ubo) = true := plainFor_of_name (by first | (simp [plainName, overriddenIn]; done) | decide +kernel)
set_option maxRecDepth 65536 in
set_option maxHeartbeats 40000000 in
theorem c_ubo (K : own_Cx) (a0 : Array Value) (hw : ∀ d ∈ tables_1, d.before a0 K.Z = true) (rf : Value) (hrf : rf.isRef = true) (SF : Sta K.Z K.Z.heap "jdk/internal/util/Preconditions" "SIOOBE_FORMATTER" "Ljava/util/function/BiFunction;" rf) (b : Addr) (vs : List Value) (N : Nat) (i s : Int32) (h : Heap) (hv : vs.length = 2 * N) (hN : N < 2 ^ 29) (B : own_Ary K.Z h b .byte vs) (h0 : 0 ≤ i.toInt) (h1 : 0 ≤ s.toInt) (h2 : i.toInt + s.toInt ≤ N) :
    own_Met K M_ubo #[.int i, .int s, .ref b] [] h (own_void fun h' _ => h' = h) := by
  have hn : (N.toInt32).toInt = N := own_lit _ (by omega)
  refine own_met_3_0 (M := M_ubo) pn_ubo rfl (by first | rfl | exact own_cat (by assumption)) (by first | rfl | exact own_cat (by assumption)) (by first | rfl | exact own_cat (by assumption)) ?_
  refine own_iload_n (pc' := 1) rfl d_ubo_0 rfl ?_
  refine own_iload_n (pc' := 2) rfl d_ubo_1 rfl ?_
  refine own_aload_n (pc' := 3) rfl d_ubo_2 rfl (by first | rfl | assumption) ?_
  refine own_static1v (M' := M_ul) d_ubo_3 (pc' := 6) rfl (tw_241 hw) (tw_242 hw) (tw_21 hw) (tw_243 hw) (by decide) rfl (own_lenOf pd_11 rfl) rfl rfl rfl rfl (c_ulg K a0 hw b vs N h hv hN B) (by simp) ?_
  rintro w h3 xs ⟨rfl, rfl⟩
  refine own_static3v (M' := M_sbo) d_ubo_6 (pc' := 9) rfl (tw_283 hw) (tw_284 hw) (tw_7 hw) (tw_285 hw) (by decide) rfl (own_lenOf pd_23 rfl) rfl rfl rfl rfl (c_sbo K a0 hw rf hrf SF i s _ _ h0 h1 (by rw [hn]; exact h2)) (by simp) ?_
  rintro w h4 xs4 ⟨rfl, rfl⟩
  refine own_pop (pc' := 10) rfl d_ubo_9 (by first | rfl | assumption) ?_
  refine own_return rfl d_ubo_10 rfl rfl ?_
  rfl
theorem d_uinf_0 : decode jdk_52_method_86_code 0 = .ok (.iload_n 3, 1) := by decide +kernel
theorem d_uinf_1 : decode jdk_52_method_86_code 1 = .ok (.iload 4, 2) := by decide +kernel
theorem d_uinf_3 : decode jdk_52_method_86_code 3 = .ok (.aload_n 2, 1) := by decide +kernel
theorem d_uinf_4 : decode jdk_52_method_86_code 4 = .ok (.invokestatic 173, 3) := by decide +kernel
theorem d_uinf_7 : decode jdk_52_method_86_code 7 = .ok (.iconst 0, 1) := by decide +kernel
theorem d_uinf_8 : decode jdk_52_method_86_code 8 = .ok (.istore 5, 2) := by decide +kernel
theorem d_uinf_10 : decode jdk_52_method_86_code 10 = .ok (.iload 5, 2) := by decide +kernel
theorem d_uinf_12 : decode jdk_52_method_86_code 12 = .ok (.iload 4, 2) := by decide +kernel
theorem d_uinf_14 : decode jdk_52_method_86_code 14 = .ok (.if_icmp .ge 27, 3) := by decide +kernel
theorem d_uinf_17 : decode jdk_52_method_86_code 17 = .ok (.aload_n 2, 1) := by decide +kernel
theorem d_uinf_18 : decode jdk_52_method_86_code 18 = .ok (.iload_n 3, 1) := by decide +kernel
theorem d_uinf_19 : decode jdk_52_method_86_code 19 = .ok (.iinc 3 1, 3) := by decide +kernel
theorem d_uinf_22 : decode jdk_52_method_86_code 22 = .ok (.aload_n 0, 1) := by decide +kernel
theorem d_uinf_23 : decode jdk_52_method_86_code 23 = .ok (.iload_n 1, 1) := by decide +kernel
theorem d_uinf_24 : decode jdk_52_method_86_code 24 = .ok (.iinc 1 1, 3) := by decide +kernel
theorem d_uinf_27 : decode jdk_52_method_86_code 27 = .ok (.baload, 1) := by decide +kernel
theorem d_uinf_28 : decode jdk_52_method_86_code 28 = .ok (.sipush 255, 3) := by decide +kernel
theorem d_uinf_31 : decode jdk_52_method_86_code 31 = .ok (.iand, 1) := by decide +kernel
theorem d_uinf_32 : decode jdk_52_method_86_code 32 = .ok (.invokestatic 111, 3) := by decide +kernel
theorem d_uinf_35 : decode jdk_52_method_86_code 35 = .ok (.iinc 5 1, 3) := by decide +kernel
theorem d_uinf_38 : decode jdk_52_method_86_code 38 = .ok (.goto (-28), 3) := by decide +kernel
theorem d_uinf_41 : decode jdk_52_method_86_code 41 = .ok (.return_, 1) := by decide +kernel
abbrev M_uinf : own_Mi := ((⟨"java/lang/StringUTF16", "inflate", "([BI[BII)V"⟩ : MethodName), jdk_52_method_86_code, 6, (Option.none : Option FieldType), ({ frames := 3, cells := 0, slots := 0, locals := 43 } : Room))
theorem pn_uinf : plainFor (own_Mi.y M_uinf) = true := plainFor_of_name (by first | (simp [plainName, overriddenIn]; done) | decide +kernel)
def Q_uinf (K : own_Cx) (b : Addr) (L : List Value) (cs : List Int32) (m : Nat) (h : Heap) : Heap → List Addr → Prop := fun h' _ => Keep h h' [b] ∧ own_Ary K.Z h' b .byte (L ++ own_ints (own_two cs) ++ List.replicate (2 * (m - cs.length)) (.int 0))
set_option maxRecDepth 65536 in
set_option maxHeartbeats 40000000 in
theorem c_uinf (K : own_Cx) (a0 : Array Value) (hw : ∀ d ∈ tables_1, d.before a0 K.Z = true) (hU : own_U16 K) (rf : Value) (hrf : rf.isRef = true) (SF : Sta K.Z K.Z.heap "jdk/internal/util/Preconditions" "SIOOBE_FORMATTER" "Ljava/util/function/BiFunction;" rf) (a b : Addr) (L ws : List Value) (cs : List Int32) (O m : Nat) (off n : Int32) (h : Heap) (A : own_Ary K.Z h a .byte (own_ints (cs.map own_bt) ++ ws)) (B : own_Ary K.Z h b .byte (L ++ List.replicate (2 * m) (.int 0))) (hL : L.length = 2 * O) (ho : off.toInt = O) (hn : n.toInt = cs.length) (hm : cs.length ≤ m) (hcs : own_Chs cs) (ql : own_lat cs = true) (hab : a ≠ b) (hO : O + m < 2 ^ 28) :
    own_Met K M_uinf #[.ref a, .int 0, .ref b, .int off, .int n] [b] h (own_void (Q_uinf K b L cs m h)) := by
  have v1 : (1 : Int32).toInt = 1 := rfl
  refine own_met_5_1 (M := M_uinf) pn_uinf rfl (by first | rfl | exact own_cat (by assumption)) (by first | rfl | exact own_cat (by assumption)) (by first | rfl | exact own_cat (by assumption)) (by first | rfl | exact own_cat (by assumption)) (by first | rfl | exact own_cat (by assumption)) ?_
  refine own_iload_n (pc' := 1) rfl d_uinf_0 rfl ?_
  refine own_iload (pc' := 3) rfl d_uinf_1 rfl ?_
  refine own_aload_n (pc' := 4) rfl d_uinf_3 rfl (by first | rfl | assumption) ?_
  refine own_static3n (M' := M_ubo) d_uinf_4 (pc' := 7) rfl (tw_280 hw) (tw_281 hw) (tw_21 hw) (tw_282 hw) (by decide) rfl (own_lenOf pd_20 rfl) rfl rfl rfl rfl (c_ubo K a0 hw rf hrf SF b _ (O + m) off n h (by rw [List.length_append, hL, List.length_replicate]; omega) (by omega) B (by omega) (by omega) (by omega)) (by simp) ?_
  rintro h1 xs1 rfl
  refine own_iconst (v := (0 : Int32)) (pc' := 8) rfl d_uinf_7 rfl ?_
  refine own_istore_5 (pc' := 10) rfl d_uinf_8 (by first | exact One.u | exact One.val rfl | assumption | exact One.val (by assumption)) ?_
  suffices key : ∀ (k i : Nat) (j p : Int32) (h2 : Heap) (sf : List Addr), i + k = cs.length → j.toInt = i → p.toInt = ((O + i : Nat) : Int) → b ∈ sf → Keep h1 h2 [b] → own_Ary K.Z h2 b .byte ((L ++ own_ints (own_two (cs.take i))) ++ List.replicate (2 * (m - i)) (.int 0)) → own_WP K M_uinf (own_void (Q_uinf K b L cs m h1)) 10 [.val (.ref a), .val (.int j), .val (.ref b), .val (.int p), .val (.int n), .val (.int j)] [] sf h2 0 0 from
    own_weak (key cs.length 0 0 off h1 _ (by omega) rfl (by rw [ho]; rfl) (by simp) (Keep.refl _ _) (by simpa [own_two] using B)) (fun x hx => hx) (by exact Nat.le_of_ble_eq_true rfl) (by exact Nat.le_of_ble_eq_true rfl)
  intro k
  induction k with
  | zero =>
    intro i j p h2 sf hik hj hp hbs k2 B2
    refine own_iload (pc' := 12) rfl d_uinf_10 rfl ?_
    refine own_iload (pc' := 14) rfl d_uinf_12 rfl ?_
    refine own_icmpge (pcT := 41) (pcF := 17) d_uinf_14 (by decide) (by decide) rfl (fun q => ?_) (fun q => ?_)
    · skip
      refine own_return rfl d_uinf_41 rfl rfl ?_
      have e : cs.take i = cs := List.take_of_length_le (by omega)
      rw [e] at B2
      refine ⟨k2, ?_⟩
      rw [show cs.length = i by omega]
      exact B2
    · rw [Int32.lt_iff_toInt_lt] at q
      omega
  | succ k ih =>
    intro i j p h2 sf hik hj hp hbs k2 B2
    have hi : i < cs.length := by omega
    obtain ⟨c, hc⟩ : ∃ c, cs[i]? = some c := ⟨cs[i], by simp [hi]⟩
    have hcr := hcs c (List.mem_of_getElem? hc)
    have hcl := own_lat_get ql hc
    have e1 : (L ++ own_ints (own_two (cs.take i))).length = 2 * (O + i) := by
      rw [List.length_append, hL]
      simp [own_two_len]
      omega
    refine own_iload (pc' := 12) rfl d_uinf_10 rfl ?_
    refine own_iload (pc' := 14) rfl d_uinf_12 rfl ?_
    refine own_icmpge (pcT := 41) (pcF := 17) d_uinf_14 (by decide) (by decide) rfl (fun q => ?_) (fun q => ?_)
    · exact absurd (by rw [Int32.lt_iff_toInt_lt]; omega) q
    · skip
      refine own_aload_n (pc' := 18) rfl d_uinf_17 rfl (by first | rfl | assumption) ?_
      refine own_iload_n (pc' := 19) rfl d_uinf_18 rfl ?_
      refine own_iinc_3 (z := (1 : Int32)) (pc' := 22) rfl d_uinf_19 rfl ?_
      refine own_aload_n (pc' := 23) rfl d_uinf_22 rfl (by first | rfl | assumption) ?_
      refine own_iload_n (pc' := 24) rfl d_uinf_23 rfl ?_
      refine own_iinc_1 (z := (1 : Int32)) (pc' := 27) rfl d_uinf_24 rfl ?_
      refine own_baload (pc' := 28) rfl d_uinf_27 (A.keep k2 (ninS hab nin0)) (i := i) hj (by rw [List.getElem?_append_left (by simpa using hi)]; exact own_ints_getM hc) ?_
      refine own_sipush (v := (255 : Int32)) (pc' := 31) rfl d_uinf_28 rfl ?_
      refine own_iand (pc' := 32) rfl d_uinf_31 ?_
      rw [own_lat_byte hcr.1 hcl]
      refine own_static3n (M' := M_pch) d_uinf_32 (pc' := 35) rfl (tw_226 hw) (tw_227 hw) (tw_21 hw) (tw_228 hw) (by decide) rfl (own_lenOf pd_2 rfl) rfl rfl rfl rfl (c_pch K a0 hw hU b p c (O + i) _ h2 hp (by rw [List.length_append, e1, List.length_replicate]; omega) (by omega) B2) (by simpa using hbs) ?_
      rintro h3 xs3 ⟨k3, B3⟩
      refine own_iinc_5 (z := (1 : Int32)) (pc' := 38) rfl d_uinf_35 rfl ?_
      refine own_goto (pc' := 10) d_uinf_38 (by decide) (by decide) ?_
      refine own_weak (ih (i + 1) (j + 1) (p + 1) h3 _ (by omega) (by rw [own_add hj v1] <;> omega) (by rw [own_add hp v1] <;> omega) (List.mem_append_right _ hbs) (k2.trans k3 (fun x hx => Or.inl hx)) ?_) (fun x hx => hx) (by exact Nat.le_of_ble_eq_true rfl) (by exact Nat.le_of_ble_eq_true rfl)
      have e2 := own_settwo (L ++ own_ints (own_two (cs.take i))) (Value.int 0) (.int (own_bt c)) (.int (own_hb c)) (m - (i + 1))
      rw [e1] at e2
      have e3 : L ++ own_ints (own_two (cs.take (i + 1))) = L ++ own_ints (own_two (cs.take i)) ++ [.int (own_bt c), .int (own_hb c)] := by
        rw [own_two_snoc hc]; simp [own_ints]
      rw [e3, ← e2, show m - (i + 1) + 1 = m - i by omega]
      exact B3
theorem d_linf_0 : decode jdk_43_method_50_code 0 = .ok (.aload_n 0, 1) := by decide +kernel
theorem d_linf_1 : decode jdk_43_method_50_code 1 = .ok (.iload_n 1, 1) := by decide +kernel
theorem d_linf_2 : decode jdk_43_method_50_code 2 = .ok (.aload_n 2, 1) := by decide +kernel
theorem d_linf_3 : decode jdk_43_method_50_code 3 = .ok (.iload_n 3, 1) := by decide +kernel
theorem d_linf_4 : decode jdk_43_method_50_code 4 = .ok (.iload 4, 2) := by decide +kernel
theorem d_linf_6 : decode jdk_43_method_50_code 6 = .ok (.invokestatic 240, 3) := by decide +kernel
theorem d_linf_9 : decode jdk_43_method_50_code 9 = .ok (.return_, 1) := by decide +kernel
abbrev M_linf : own_Mi := ((⟨"java/lang/StringLatin1", "inflate", "([BI[BII)V"⟩ : MethodName), jdk_43_method_50_code, 5, (Option.none : Option FieldType), ({ frames := 4, cells := 0, slots := 0, locals := 60 } : Room))
theorem pn_linf : plainFor (own_Mi.y M_linf) = true := plainFor_of_name (by first | (simp [plainName, overriddenIn]; done) | decide +kernel)
set_option maxRecDepth 65536 in
set_option maxHeartbeats 40000000 in
theorem c_linf (K : own_Cx) (a0 : Array Value) (hw : ∀ d ∈ tables_1, d.before a0 K.Z = true) (hU : own_U16 K) (rf : Value) (hrf : rf.isRef = true) (SF : Sta K.Z K.Z.heap "jdk/internal/util/Preconditions" "SIOOBE_FORMATTER" "Ljava/util/function/BiFunction;" rf) (a b : Addr) (L ws : List Value) (cs : List Int32) (O m : Nat) (off n : Int32) (h : Heap) (A : own_Ary K.Z h a .byte (own_ints (cs.map own_bt) ++ ws)) (B : own_Ary K.Z h b .byte (L ++ List.replicate (2 * m) (.int 0))) (hL : L.length = 2 * O) (ho : off.toInt = O) (hn : n.toInt = cs.length) (hm : cs.length ≤ m) (hcs : own_Chs cs) (ql : own_lat cs = true) (hab : a ≠ b) (hO : O + m < 2 ^ 28) :
    own_Met K M_linf #[.ref a, .int 0, .ref b, .int off, .int n] [b] h (own_void (Q_uinf K b L cs m h)) := by
  refine own_met_5_0 (M := M_linf) pn_linf rfl (by first | rfl | exact own_cat (by assumption)) (by first | rfl | exact own_cat (by assumption)) (by first | rfl | exact own_cat (by assumption)) (by first | rfl | exact own_cat (by assumption)) (by first | rfl | exact own_cat (by assumption)) ?_
  refine own_aload_n (pc' := 1) rfl d_linf_0 rfl (by first | rfl | assumption) ?_
  refine own_iload_n (pc' := 2) rfl d_linf_1 rfl ?_
  refine own_aload_n (pc' := 3) rfl d_linf_2 rfl (by first | rfl | assumption) ?_
  refine own_iload_n (pc' := 4) rfl d_linf_3 rfl ?_
  refine own_iload (pc' := 6) rfl d_linf_4 rfl ?_
  refine own_static5n (M' := M_uinf) d_linf_6 (pc' := 9) rfl (tw_277 hw) (tw_278 hw) (tw_21 hw) (tw_279 hw) (by decide) rfl (own_lenOf pd_24 rfl) rfl rfl rfl rfl (c_uinf K a0 hw hU rf hrf SF a b L ws cs O m off n h A B hL ho hn hm hcs ql hab hO) (by simp) ?_
  rintro h1 xs1 q
  refine own_return rfl d_linf_9 rfl rfl ?_
  exact q
theorem d_ail_0 : decode jdk_68_method_68_code 0 = .ok (.getstatic 18, 3) := by decide +kernel
theorem d_ail_3 : decode jdk_68_method_68_code 3 = .ok (.ifCond .eq 14, 3) := by decide +kernel
theorem d_ail_6 : decode jdk_68_method_68_code 6 = .ok (.aload_n 0, 1) := by decide +kernel
theorem d_ail_7 : decode jdk_68_method_68_code 7 = .ok (.getfield 22, 3) := by decide +kernel
theorem d_ail_10 : decode jdk_68_method_68_code 10 = .ok (.ifCond .ne 7, 3) := by decide +kernel
theorem d_ail_13 : decode jdk_68_method_68_code 13 = .ok (.iconst 1, 1) := by decide +kernel
theorem d_ail_14 : decode jdk_68_method_68_code 14 = .ok (.goto 4, 3) := by decide +kernel
theorem d_ail_17 : decode jdk_68_method_68_code 17 = .ok (.iconst 0, 1) := by decide +kernel
theorem d_ail_18 : decode jdk_68_method_68_code 18 = .ok (.ireturn, 1) := by decide +kernel
abbrev M_ail : own_Mi := ((⟨"java/lang/AbstractStringBuilder", "isLatin1", "()Z"⟩ : MethodName), jdk_68_method_68_code, 1, (Option.some FieldType.boolean), ({ frames := 0, cells := 0, slots := 0, locals := 0 } : Room))
theorem pn_ail : plainFor (own_Mi.y M_ail) = true := plainFor_of_name (by first | (simp [plainName, overriddenIn]; done) | decide +kernel)
set_option maxRecDepth 65536 in
set_option maxHeartbeats 40000000 in
theorem c_ail (K : own_Cx) (a0 : Array Value) (hw : ∀ d ∈ tables_1, d.before a0 K.Z = true) (g : Int32) (SC : Sta K.Z K.Z.heap own_sC "COMPACT_STRINGS" "Z" (.int g)) (hg : ¬ g = 0) (t : Addr) (u : Bool) (h : Heap) (F : Fld K.Z h t own_bA "coder" "B" (.int (own_ub u))) :
    own_Met K M_ail #[.ref t] [] h (own_ret fun w h' _ => w = .int (if u then 0 else 1) ∧ h' = h) := by
  refine own_met_1_0 (M := M_ail) pn_ail rfl (by first | rfl | exact own_cat (by assumption)) ?_
  refine own_getS (pc' := 3) rfl d_ail_0 (tw_123 hw) Via.refl (by assumption) ?_
  refine own_ifeq (pcT := 17) (pcF := 6) d_ail_3 (by decide) (by decide) rfl (fun q => ?_) (fun q => ?_)
  · exact absurd q hg
  · skip
    refine own_aload_n (pc' := 7) rfl d_ail_6 rfl (by first | rfl | assumption) ?_
    refine own_getF (pc' := 10) rfl d_ail_7 (tw_126 hw) Via.refl F ?_
    cases u
    · skip
      refine own_ifne (pcT := 17) (pcF := 13) d_ail_10 (by decide) (by decide) rfl (fun q2 => ?_) (fun q2 => ?_)
      · exact absurd rfl q2
      · skip
        refine own_iconst (v := (1 : Int32)) (pc' := 14) rfl d_ail_13 rfl ?_
        refine own_goto (pc' := 18) d_ail_14 (by decide) (by decide) ?_
        refine own_ireturnN (t := .boolean) rfl (by simp) (by first | exact own_nb0 | exact own_nb1 | rfl) d_ail_18 rfl rfl ?_
        exact ⟨rfl, rfl⟩
    · skip
      refine own_ifne (pcT := 17) (pcF := 13) d_ail_10 (by decide) (by decide) rfl (fun q2 => ?_) (fun q2 => ?_)
      · skip
        refine own_iconst (v := (0 : Int32)) (pc' := 18) rfl d_ail_17 rfl ?_
        refine own_ireturnN (t := .boolean) rfl (by simp) (by first | exact own_nb0 | exact own_nb1 | rfl) d_ail_18 rfl rfl ?_
        exact ⟨rfl, rfl⟩
      · exact absurd q2 (by decide)
theorem d_ainf_0 : decode jdk_68_method_11_code 0 = .ok (.aload_n 0, 1) := by decide +kernel
theorem d_ainf_1 : decode jdk_68_method_11_code 1 = .ok (.invokevirtual 83, 3) := by decide +kernel
theorem d_ainf_4 : decode jdk_68_method_11_code 4 = .ok (.ifCond .ne 4, 3) := by decide +kernel
theorem d_ainf_7 : decode jdk_68_method_11_code 7 = .ok (.return_, 1) := by decide +kernel
theorem d_ainf_8 : decode jdk_68_method_11_code 8 = .ok (.aload_n 0, 1) := by decide +kernel
theorem d_ainf_9 : decode jdk_68_method_11_code 9 = .ok (.getfield 15, 3) := by decide +kernel
theorem d_ainf_12 : decode jdk_68_method_11_code 12 = .ok (.arraylength, 1) := by decide +kernel
theorem d_ainf_13 : decode jdk_68_method_11_code 13 = .ok (.invokestatic 26, 3) := by decide +kernel
theorem d_ainf_16 : decode jdk_68_method_11_code 16 = .ok (.astore_n 1, 1) := by decide +kernel
theorem d_ainf_17 : decode jdk_68_method_11_code 17 = .ok (.aload_n 0, 1) := by decide +kernel
theorem d_ainf_18 : decode jdk_68_method_11_code 18 = .ok (.getfield 15, 3) := by decide +kernel
theorem d_ainf_21 : decode jdk_68_method_11_code 21 = .ok (.iconst 0, 1) := by decide +kernel
theorem d_ainf_22 : decode jdk_68_method_11_code 22 = .ok (.aload_n 1, 1) := by decide +kernel
theorem d_ainf_23 : decode jdk_68_method_11_code 23 = .ok (.iconst 0, 1) := by decide +kernel
theorem d_ainf_24 : decode jdk_68_method_11_code 24 = .ok (.aload_n 0, 1) := by decide +kernel
theorem d_ainf_25 : decode jdk_68_method_11_code 25 = .ok (.getfield 79, 3) := by decide +kernel
theorem d_ainf_28 : decode jdk_68_method_11_code 28 = .ok (.invokestatic 125, 3) := by decide +kernel
theorem d_ainf_31 : decode jdk_68_method_11_code 31 = .ok (.aload_n 0, 1) := by decide +kernel
theorem d_ainf_32 : decode jdk_68_method_11_code 32 = .ok (.aload_n 1, 1) := by decide +kernel
theorem d_ainf_33 : decode jdk_68_method_11_code 33 = .ok (.putfield 15, 3) := by decide +kernel
theorem d_ainf_36 : decode jdk_68_method_11_code 36 = .ok (.aload_n 0, 1) := by decide +kernel
theorem d_ainf_37 : decode jdk_68_method_11_code 37 = .ok (.iconst 1, 1) := by decide +kernel
theorem d_ainf_38 : decode jdk_68_method_11_code 38 = .ok (.putfield 22, 3) := by decide +kernel
theorem d_ainf_41 : decode jdk_68_method_11_code 41 = .ok (.return_, 1) := by decide +kernel
abbrev M_ainf : own_Mi := ((⟨"java/lang/AbstractStringBuilder", "inflate", "()V"⟩ : MethodName), jdk_68_method_11_code, 2, (Option.none : Option FieldType), ({ frames := 5, cells := 1, slots := 12, locals := 76 } : Room))
theorem pn_ainf : plainFor (own_Mi.y M_ainf) = true := plainFor_of_name (by first | (simp [plainName, overriddenIn]; done) | decide +kernel)
set_option maxRecDepth 65536 in
set_option maxHeartbeats 40000000 in
theorem c_ainf (K : own_Cx) (a0 : Array Value) (hw : ∀ d ∈ tables_1, d.before a0 K.Z = true) (hU : own_U16 K) (rf : Value) (hrf : rf.isRef = true) (SF : Sta K.Z K.Z.heap "jdk/internal/util/Preconditions" "SIOOBE_FORMATTER" "Ljava/util/function/BiFunction;" rf) (g : Int32) (SC : Sta K.Z K.Z.heap own_sC "COMPACT_STRINGS" "Z" (.int g)) (hg : ¬ g = 0) (t b : Addr) (u : Bool) (cs : List Int32) (cap : Nat) (h : Heap) (S : own_SBx K.Z h t b u cs cap) (hc : cap ≤ 6) (tb : b ≠ t) :
    own_Met K M_ainf #[.ref t] [t] h (own_void fun h' xs => Keep h h' [t] ∧ ∃ b' : Addr, (b' = b ∨ (b' ∈ xs ∧ h.size ≤ b')) ∧ own_SBx K.Z h' t b' true cs cap) := by
  have S' := S
  obtain ⟨E, hcs, hle, hcap, hlat, F1, F2, F3, F4, B⟩ := S
  obtain ⟨⟨s12, s13, s23⟩, s41, s42, s43⟩ := own_sslots hw
  have hz : (cap.toInt32).toInt = cap := own_lit _ (by omega)
  have hzc : (cs.length.toInt32).toInt = cs.length := own_lit _ (by omega)
  have lt : @LT.lt Nat _ _ _ := E.lt
  refine own_met_1_1 (M := M_ainf) pn_ainf rfl (by first | rfl | exact own_cat (by assumption)) ?_
  refine own_aload_n (pc' := 1) rfl d_ainf_0 rfl (by first | rfl | assumption) ?_
  refine own_virtual0v (M' := M_ail) d_ainf_1 (pc' := 4) rfl (tw_163 hw) (tw_164 hw) (tw_166 hw) (tw_165 hw) (tw_120 hw) (tw_167 hw) (by decide) rfl (own_lenOf pd_13 rfl) rfl rfl rfl rfl E (c_ail K a0 hw g SC hg t u h F2) (by simp) ?_
  rintro w h1 xs1 ⟨rfl, rfl⟩
  cases u
  · have hl := hlat rfl
    have hlb : @LT.lt Nat _ _ _ := B.lt
    have hlen : (own_ints (own_sbv false cs) ++ List.replicate (own_uw false * (cap - cs.length)) (Value.int 0)).length = cap := by
      rw [List.length_append, own_sbv_len, List.length_replicate]
      show 1 * _ + 1 * _ = _
      omega
    refine own_ifne (pcT := 8) (pcF := 7) d_ainf_4 (by decide) (by decide) rfl (fun q => ?_) (fun q => ?_)
    rotate_left 1
    · exact absurd q (by decide)
    refine own_aload_n (pc' := 9) rfl d_ainf_8 rfl (by first | rfl | assumption) ?_
    refine own_getF (pc' := 12) rfl d_ainf_9 (tw_124 hw) Via.refl F1 ?_
    refine own_arrlen (z := cap.toInt32) (pc' := 13) rfl d_ainf_12 B (by rw [hz, hlen]) ?_
    refine own_static1v (M' := M_nbf) d_ainf_13 (pc' := 16) rfl (tw_273 hw) (tw_220 hw) (tw_21 hw) (tw_221 hw) (by decide) rfl (own_lenOf pd_1 rfl) rfl rfl rfl rfl (c_nbf K a0 hw _ cap _ hz hc) (by simp) ?_
    rintro w h2 xs2 ⟨b2, rfl, E2, hb2, hbx2, B2⟩
    have bb2 : b ≠ b2 := by show @Ne Nat b b2; omega
    have tb2 : b2 ≠ t := by show @Ne Nat b2 t; omega
    refine own_astore_n1 (pc' := 17) rfl d_ainf_16 (by first | exact One.u | exact One.val rfl | assumption | exact One.val (by assumption)) (by first | rfl | assumption) ?_
    refine own_aload_n (pc' := 18) rfl d_ainf_17 rfl (by first | rfl | assumption) ?_
    refine own_getF (pc' := 21) rfl d_ainf_18 (tw_124 hw) Via.refl (F1.ext E2) ?_
    refine own_iconst (v := (0 : Int32)) (pc' := 22) rfl d_ainf_21 rfl ?_
    refine own_aload_n (pc' := 23) rfl d_ainf_22 rfl (by first | rfl | assumption) ?_
    refine own_iconst (v := (0 : Int32)) (pc' := 24) rfl d_ainf_23 rfl ?_
    refine own_aload_n (pc' := 25) rfl d_ainf_24 rfl (by first | rfl | assumption) ?_
    refine own_getF (pc' := 28) rfl d_ainf_25 (tw_150 hw) Via.refl (F3.ext E2) ?_
    refine own_static5n (M' := M_linf) d_ainf_28 (pc' := 31) rfl (tw_274 hw) (tw_275 hw) (tw_69 hw) (tw_276 hw) (by decide) rfl (own_lenOf pd_24 rfl) rfl rfl rfl rfl (c_linf K a0 hw hU rf hrf SF b b2 [] _ cs 0 cap 0 _ h2 (B.ext E2) (by simpa using B2) rfl rfl hzc hle hcs hl bb2 (by omega)) (by intro z hz; cases List.mem_singleton.mp hz; simp [hbx2]) ?_
    rintro h3 xs3 ⟨k3, B3⟩
    have nb2 : t ∉ [b2] := ninS (Ne.symm tb2) nin0
    refine own_aload_n (pc' := 32) rfl d_ainf_31 rfl (by first | rfl | assumption) ?_
    refine own_aload_n (pc' := 33) rfl d_ainf_32 rfl (by first | rfl | assumption) ?_
    refine own_putF (pc' := 36) rfl d_ainf_33 (tw_124 hw) Via.refl (Or.inl (tw_125 hw)) (tw_111 hw) (ty := (.array .byte)) (by decide) rfl rfl ((F1.ext E2).keep k3 nb2) ((E.ext E2).keep k3) (by simp) ?_
    intro h4 W4
    refine own_aload_n (pc' := 37) rfl d_ainf_36 rfl (by first | rfl | assumption) ?_
    refine own_iconst (v := (1 : Int32)) (pc' := 38) rfl d_ainf_37 rfl ?_
    refine own_putF (pc' := 41) rfl d_ainf_38 (tw_126 hw) Via.refl (Or.inl (tw_127 hw)) (tw_111 hw) (ty := .byte) (by decide) rfl rfl (((F2.ext E2).keep k3 nb2).other W4 (Or.inr (Ne.symm s12))) (((E.ext E2).keep k3).wr W4) (by simp) ?_
    intro h5 W5
    refine own_return rfl d_ainf_41 rfl rfl ?_
    refine ⟨?_, b2, Or.inr ⟨by simp [hbx2], by omega⟩, (((E.ext E2).keep k3).wr W4).wr W5, hcs, hle, hcap, (fun q => by cases q), (((F1.ext E2).keep k3 nb2).same W4).other W5 (Or.inr s12), (((F2.ext E2).keep k3 nb2).other W4 (Or.inr (Ne.symm s12))).same W5, (((F3.ext E2).keep k3 nb2).other W4 (Or.inr (Ne.symm s13))).other W5 (Or.inr (Ne.symm s23)), (((F4.ext E2).keep k3 nb2).other W4 (Or.inr s41)).other W5 (Or.inr s42), ?_⟩
    · exact ((((Keep.refl _ [t]).ext E2).trans k3 (fun x hx => Or.inr (by cases List.mem_singleton.mp hx; exact hb2))).wr W4 (Or.inl (List.mem_singleton.mpr rfl))).wr W5 (Or.inl (List.mem_singleton.mpr rfl))
    · have B3' : own_Ary K.Z h3 b2 .byte (own_ints (own_sbv true cs) ++ List.replicate (own_uw true * (cap - cs.length)) (Value.int 0)) := B3
      exact (B3'.other W4 tb2).other W5 tb2
  · skip
    refine own_ifne (pcT := 8) (pcF := 7) d_ainf_4 (by decide) (by decide) rfl (fun q => ?_) (fun q => ?_)
    · exact absurd rfl q
    refine own_return rfl d_ainf_7 rfl rfl ?_
    exact ⟨Keep.refl _ _, b, Or.inl rfl, S'⟩
theorem d_gvl_0 : decode jdk_68_method_64_code 0 = .ok (.aload_n 0, 1) := by decide +kernel
theorem d_gvl_1 : decode jdk_68_method_64_code 1 = .ok (.getfield 15, 3) := by decide +kernel
theorem d_gvl_4 : decode jdk_68_method_64_code 4 = .ok (.areturn, 1) := by decide +kernel
abbrev M_gvl : own_Mi := ((⟨"java/lang/AbstractStringBuilder", "getValue", "()[B"⟩ : MethodName), jdk_68_method_64_code, 1, (Option.some (FieldType.array FieldType.byte)), ({ frames := 0, cells := 0, slots := 0, locals := 0 } : Room))
theorem pn_gvl : plainFor (own_Mi.y M_gvl) = true := plainFor_of_name (by first | (simp [plainName, overriddenIn]; done) | decide +kernel)
set_option maxRecDepth 65536 in
set_option maxHeartbeats 40000000 in
theorem c_gvl (K : own_Cx) (a0 : Array Value) (hw : ∀ d ∈ tables_1, d.before a0 K.Z = true) (t b : Addr) (h : Heap) (F : Fld K.Z h t own_bA "value" "[B" (.ref b)) :
    own_Met K M_gvl #[.ref t] [] h (own_ret fun w h' _ => w = .ref b ∧ h' = h) := by
  refine own_met_1_0 (M := M_gvl) pn_gvl rfl (by first | rfl | exact own_cat (by assumption)) ?_
  refine own_aload_n (pc' := 1) rfl d_gvl_0 rfl (by first | rfl | assumption) ?_
  refine own_getF (pc' := 4) rfl d_gvl_1 (tw_124 hw) Via.refl F ?_
  refine own_areturn rfl rfl (by first | rfl | assumption) d_gvl_4 rfl rfl ?_
  exact ⟨rfl, rfl⟩
theorem d_abl_0 : decode jdk_68_method_6_code 0 = .ok (.aload_n 0, 1) := by decide +kernel
theorem d_abl_1 : decode jdk_68_method_6_code 1 = .ok (.getfield 79, 3) := by decide +kernel
theorem d_abl_4 : decode jdk_68_method_6_code 4 = .ok (.ireturn, 1) := by decide +kernel
abbrev M_abl : own_Mi := ((⟨"java/lang/AbstractStringBuilder", "length", "()I"⟩ : MethodName), jdk_68_method_6_code, 1, (Option.some FieldType.int), ({ frames := 0, cells := 0, slots := 0, locals := 0 } : Room))
theorem pn_abl : plainFor (own_Mi.y M_abl) = true := plainFor_of_name (by first | (simp [plainName, overriddenIn]; done) | decide +kernel)
set_option maxRecDepth 65536 in
set_option maxHeartbeats 40000000 in
theorem c_abl (K : own_Cx) (a0 : Array Value) (hw : ∀ d ∈ tables_1, d.before a0 K.Z = true) (t : Addr) (n : Int32) (h : Heap) (F : Fld K.Z h t own_bA "count" "I" (.int n)) :
    own_Met K M_abl #[.ref t] [] h (own_ret fun w h' _ => w = .int n ∧ h' = h) := by
  refine own_met_1_0 (M := M_abl) pn_abl rfl (by first | rfl | exact own_cat (by assumption)) ?_
  refine own_aload_n (pc' := 1) rfl d_abl_0 rfl (by first | rfl | assumption) ?_
  refine own_getF (pc' := 4) rfl d_abl_1 (tw_150 hw) Via.refl F ?_
  refine own_ireturn rfl d_abl_4 rfl rfl ?_
  exact ⟨rfl, rfl⟩
theorem d_sbl_0 : decode jdk_67_method_93_code 0 = .ok (.aload_n 0, 1) := by decide +kernel
theorem d_sbl_1 : decode jdk_67_method_93_code 1 = .ok (.invokespecial 343, 3) := by decide +kernel
theorem d_sbl_4 : decode jdk_67_method_93_code 4 = .ok (.ireturn, 1) := by decide +kernel
abbrev M_sbl : own_Mi := ((⟨"java/lang/StringBuilder", "length", "()I"⟩ : MethodName), jdk_67_method_93_code, 1, (Option.some FieldType.int), ({ frames := 1, cells := 0, slots := 0, locals := 12 } : Room))
theorem pn_sbl : plainFor (own_Mi.y M_sbl) = true := plainFor_of_name (by first | (simp [plainName, overriddenIn]; done) | decide +kernel)
set_option maxRecDepth 65536 in
set_option maxHeartbeats 40000000 in
theorem c_sbl (K : own_Cx) (a0 : Array Value) (hw : ∀ d ∈ tables_1, d.before a0 K.Z = true) (t : Addr) (n : Int32) (h : Heap) (E : Exa K.Z h t own_bC) (F : Fld K.Z h t own_bA "count" "I" (.int n)) :
    own_Met K M_sbl #[.ref t] [] h (own_ret fun w h' _ => w = .int n ∧ h' = h) := by
  refine own_met_1_0 (M := M_sbl) pn_sbl rfl (by first | rfl | exact own_cat (by assumption)) ?_
  refine own_aload_n (pc' := 1) rfl d_sbl_0 rfl (by first | rfl | assumption) ?_
  refine own_up0v (M' := M_abl) d_sbl_1 (pc' := 4) rfl (by decide) (tw_201 hw) (tw_135 hw) (tw_155 hw) rfl (tw_197 hw) (tw_120 hw) (tw_202 hw) (by decide) rfl (own_lenOf pd_21 rfl) rfl rfl rfl rfl (Ins.self E) (c_abl K a0 hw t n h F) (by simp) ?_
  rintro w h1 xs ⟨rfl, rfl⟩
  refine own_ireturn rfl d_sbl_4 rfl rfl ?_
  exact ⟨rfl, rfl⟩
theorem d_sia_0 : decode jdk_42_method_150_code 0 = .ok (.aload_n 0, 1) := by decide +kernel
theorem d_sia_1 : decode jdk_42_method_150_code 1 = .ok (.invokespecial 1, 3) := by decide +kernel
theorem d_sia_4 : decode jdk_42_method_150_code 4 = .ok (.aload_n 1, 1) := by decide +kernel
theorem d_sia_5 : decode jdk_42_method_150_code 5 = .ok (.invokevirtual 552, 3) := by decide +kernel
theorem d_sia_8 : decode jdk_42_method_150_code 8 = .ok (.astore_n 3, 1) := by decide +kernel
theorem d_sia_9 : decode jdk_42_method_150_code 9 = .ok (.aload_n 1, 1) := by decide +kernel
theorem d_sia_10 : decode jdk_42_method_150_code 10 = .ok (.invokevirtual 549, 3) := by decide +kernel
theorem d_sia_13 : decode jdk_42_method_150_code 13 = .ok (.istore 4, 2) := by decide +kernel
theorem d_sia_15 : decode jdk_42_method_150_code 15 = .ok (.aload_n 1, 1) := by decide +kernel
theorem d_sia_16 : decode jdk_42_method_150_code 16 = .ok (.invokevirtual 1047, 3) := by decide +kernel
theorem d_sia_19 : decode jdk_42_method_150_code 19 = .ok (.ifCond .eq 22, 3) := by decide +kernel
theorem d_sia_22 : decode jdk_42_method_150_code 22 = .ok (.aload_n 0, 1) := by decide +kernel
theorem d_sia_23 : decode jdk_42_method_150_code 23 = .ok (.iconst 0, 1) := by decide +kernel
theorem d_sia_24 : decode jdk_42_method_150_code 24 = .ok (.putfield 15, 3) := by decide +kernel
theorem d_sia_27 : decode jdk_42_method_150_code 27 = .ok (.aload_n 0, 1) := by decide +kernel
theorem d_sia_28 : decode jdk_42_method_150_code 28 = .ok (.aload_n 3, 1) := by decide +kernel
theorem d_sia_29 : decode jdk_42_method_150_code 29 = .ok (.iconst 0, 1) := by decide +kernel
theorem d_sia_30 : decode jdk_42_method_150_code 30 = .ok (.iload 4, 2) := by decide +kernel
theorem d_sia_32 : decode jdk_42_method_150_code 32 = .ok (.invokestatic 54, 3) := by decide +kernel
theorem d_sia_35 : decode jdk_42_method_150_code 35 = .ok (.putfield 9, 3) := by decide +kernel
theorem d_sia_38 : decode jdk_42_method_150_code 38 = .ok (.goto 59, 3) := by decide +kernel
theorem d_sia_41 : decode jdk_42_method_150_code 41 = .ok (.getstatic 38, 3) := by decide +kernel
theorem d_sia_44 : decode jdk_42_method_150_code 44 = .ok (.ifCond .eq 35, 3) := by decide +kernel
theorem d_sia_47 : decode jdk_42_method_150_code 47 = .ok (.aload_n 1, 1) := by decide +kernel
theorem d_sia_48 : decode jdk_42_method_150_code 48 = .ok (.getfield 1048, 3) := by decide +kernel
theorem d_sia_51 : decode jdk_42_method_150_code 51 = .ok (.ifCond .eq 28, 3) := by decide +kernel
theorem d_sia_79 : decode jdk_42_method_150_code 79 = .ok (.aload_n 0, 1) := by decide +kernel
theorem d_sia_80 : decode jdk_42_method_150_code 80 = .ok (.iconst 1, 1) := by decide +kernel
theorem d_sia_81 : decode jdk_42_method_150_code 81 = .ok (.putfield 15, 3) := by decide +kernel
theorem d_sia_84 : decode jdk_42_method_150_code 84 = .ok (.aload_n 0, 1) := by decide +kernel
theorem d_sia_85 : decode jdk_42_method_150_code 85 = .ok (.aload_n 3, 1) := by decide +kernel
theorem d_sia_86 : decode jdk_42_method_150_code 86 = .ok (.iconst 0, 1) := by decide +kernel
theorem d_sia_87 : decode jdk_42_method_150_code 87 = .ok (.iload 4, 2) := by decide +kernel
theorem d_sia_89 : decode jdk_42_method_150_code 89 = .ok (.iconst 1, 1) := by decide +kernel
theorem d_sia_90 : decode jdk_42_method_150_code 90 = .ok (.ishl, 1) := by decide +kernel
theorem d_sia_91 : decode jdk_42_method_150_code 91 = .ok (.invokestatic 54, 3) := by decide +kernel
theorem d_sia_94 : decode jdk_42_method_150_code 94 = .ok (.putfield 9, 3) := by decide +kernel
theorem d_sia_97 : decode jdk_42_method_150_code 97 = .ok (.return_, 1) := by decide +kernel
abbrev M_sia : own_Mi := ((⟨"java/lang/String", "<init>", "(Ljava/lang/AbstractStringBuilder;Ljava/lang/Void;)V"⟩ : MethodName), jdk_42_method_150_code, 5, (Option.none : Option FieldType), ({ frames := 3, cells := 1, slots := 12, locals := 71 } : Room))
theorem pn_sia : plainFor (own_Mi.y M_sia) = true := plainFor_of_name (by first | (simp [plainName, overriddenIn]; done) | decide +kernel)
set_option maxRecDepth 65536 in
set_option maxHeartbeats 40000000 in
theorem c_sia (K : own_Cx) (a0 : Array Value) (hw : ∀ d ∈ tables_1, d.before a0 K.Z = true) (g : Int32) (SC : Sta K.Z K.Z.heap own_sC "COMPACT_STRINGS" "Z" (.int g)) (hg : ¬ g = 0) (x t b : Addr) (cs : List Int32) (cap : Nat) (h : Heap) (T : own_SB K.Z h t b cs cap) (hlt : cs.length < cap) (hcb : 2 * cap ≤ 12) (E : Exa K.Z h x own_sC) (FV : Fld K.Z h x own_sC "value" "[B" .null) (FC : Fld K.Z h x own_sC "coder" "B" (.int 0)) (hbx : b ≠ x) :
    own_Met K M_sia #[.ref x, .ref t, .null] [x] h (own_void fun h' _ => Keep h h' [x] ∧ own_Str K.Z h' x cs) := by
  obtain ⟨Et, hcs, hle, hcap, hlat, F1, F2, F3, F4, B⟩ := T
  have hzc : (cs.length.toInt32).toInt = cs.length := own_lit _ (by omega)
  have sne : RoadKit.slotOf K.Z own_sC "value" "[B" ≠ RoadKit.slotOf K.Z own_sC "coder" "B" := slot_ne (Or.inr (tw_33 hw)) (Or.inr (tw_31 hw)) (by decide) (t := .array .byte) (t' := .byte) (by decide) (by decide)
  have xt : x ≠ t := ne_exa E Et (by decide)
  have lx : @LT.lt Nat _ _ _ := E.lt
  refine own_met_3_2 (M := M_sia) pn_sia rfl (by first | rfl | exact own_cat (by assumption)) (by first | rfl | exact own_cat (by assumption)) (by first | rfl | exact own_cat (by assumption)) ?_
  refine own_aload_n (pc' := 1) rfl d_sia_0 rfl (by first | rfl | assumption) ?_
  refine own_initO (pc' := 4) rfl d_sia_1 (tw_15 hw) (tw_16 hw) (tw_17 hw) rfl rfl rfl ?_
  refine own_aload_n (pc' := 5) rfl d_sia_4 rfl (by first | rfl | assumption) ?_
  refine own_virtual0v (M' := M_gvl) d_sia_5 (pc' := 8) rfl (tw_190 hw) (tw_191 hw) (tw_193 hw) (tw_192 hw) (tw_120 hw) (tw_194 hw) (by decide) rfl (own_lenOf pd_25 rfl) rfl rfl rfl rfl Et (c_gvl K a0 hw t b h F1) (by simp) ?_
  rintro w h1 xs1 ⟨rfl, rfl⟩
  refine own_astore_n3 (pc' := 9) rfl d_sia_8 (by first | exact One.u | exact One.val rfl | assumption | exact One.val (by assumption)) (by first | rfl | assumption) ?_
  refine own_aload_n (pc' := 10) rfl d_sia_9 rfl (by first | rfl | assumption) ?_
  refine own_vz0v (M' := M_sbl) d_sia_10 (pc' := 13) rfl (tw_195 hw) (tw_196 hw) (tw_155 hw) rfl (tw_198 hw) (tw_199 hw) (tw_112 hw) (tw_200 hw) (by decide) rfl (own_lenOf pd_21 rfl) rfl rfl rfl rfl Et (c_sbl K a0 hw t _ _ Et F3) (by simp) ?_
  rintro w h2 xs2 ⟨rfl, rfl⟩
  refine own_istore_4 (pc' := 15) rfl d_sia_13 (by first | exact One.u | exact One.val rfl | assumption | exact One.val (by assumption)) ?_
  refine own_aload_n (pc' := 16) rfl d_sia_15 rfl (by first | rfl | assumption) ?_
  refine own_virtual0v (M' := M_ail) d_sia_16 (pc' := 19) rfl (tw_203 hw) (tw_164 hw) (tw_166 hw) (tw_165 hw) (tw_120 hw) (tw_167 hw) (by decide) rfl (own_lenOf pd_13 rfl) rfl rfl rfl rfl Et (c_ail K a0 hw g SC hg t _ _ F2) (by simp) ?_
  rintro w h3 xs3 ⟨rfl, rfl⟩
  cases ql : own_lat cs
  · rw [ql] at B
    have B : own_Ary K.Z h3 b .byte (own_ints (own_two cs) ++ List.replicate (2 * (cap - cs.length)) (.int 0)) := B
    have hz2 := own_shl1 hzc (by omega)
    refine own_ifeq (pcT := 41) (pcF := 22) d_sia_19 (by decide) (by decide) rfl (fun q => ?_) (fun q => ?_)
    rotate_left 1
    · exact absurd rfl q
    refine own_getS (pc' := 44) rfl d_sia_41 (tw_18 hw) Via.refl (by assumption) ?_
    refine own_ifeq (pcT := 79) (pcF := 47) d_sia_44 (by decide) (by decide) rfl (fun q2 => ?_) (fun q2 => ?_)
    · exact absurd q2 hg
    refine own_aload_n (pc' := 48) rfl d_sia_47 rfl (by first | rfl | assumption) ?_
    refine own_getF (pc' := 51) rfl d_sia_48 (tw_289 hw) Via.refl F4 ?_
    refine own_ifeq (pcT := 79) (pcF := 54) d_sia_51 (by decide) (by decide) rfl (fun q3 => ?_) (fun q3 => ?_)
    rotate_left 1
    · exact absurd rfl q3
    refine own_aload_n (pc' := 80) rfl d_sia_79 rfl (by first | rfl | assumption) ?_
    refine own_iconst (v := (1 : Int32)) (pc' := 81) rfl d_sia_80 rfl ?_
    refine own_putF (pc' := 84) rfl d_sia_81 (tw_30 hw) Via.refl (Or.inr ⟨(tw_31 hw), rfl, rfl⟩) (tw_6 hw) (ty := .byte) (by decide) rfl rfl FC E (by simp) ?_
    intro h4 W4
    have B4 := B.other W4 hbx
    refine own_aload_n (pc' := 85) rfl d_sia_84 rfl (by first | rfl | assumption) ?_
    refine own_aload_n (pc' := 86) rfl d_sia_85 rfl (by first | rfl | assumption) ?_
    refine own_iconst (v := (0 : Int32)) (pc' := 87) rfl d_sia_86 rfl ?_
    refine own_iload (pc' := 89) rfl d_sia_87 rfl ?_
    refine own_iconst (v := (1 : Int32)) (pc' := 90) rfl d_sia_89 rfl ?_
    refine own_ishl (pc' := 91) rfl d_sia_90 ?_
    refine own_static3v (M' := M_cor) d_sia_91 (pc' := 94) rfl (tw_204 hw) (tw_205 hw) (tw_206 hw) (tw_207 hw) (by decide) rfl (own_lenOf pd_15 rfl) rfl rfl rfl rfl (c_cor K a0 hw b 0 _ 0 (2 * cs.length) _ h4 rfl hz2 (Nat.zero_le _) (by rw [List.length_append]; simp [own_two_len]) (fun _ => by rw [List.length_append]; simp [own_two_len]; omega) (by omega) ((own_Bys.two cs).app (own_Bys.zero _)) B4) (by simp) ?_
    rintro w h5 xs5 ⟨b5, rfl, E5, hb5, hbx5, B5⟩
    have lx4 : @LT.lt Nat _ _ _ := (E.wr W4).lt
    have b5x : b5 ≠ x := by show @Ne Nat b5 x; omega
    refine own_putF (pc' := 97) rfl d_sia_94 (tw_32 hw) Via.refl (Or.inr ⟨(tw_33 hw), rfl, rfl⟩) (tw_6 hw) (ty := (.array .byte)) (by decide) rfl rfl ((FV.other W4 (Or.inr sne)).ext E5) ((E.wr W4).ext E5) (by simp) ?_
    intro h6 W6
    refine own_return rfl d_sia_97 rfl rfl ?_
    refine ⟨((((Keep.of_wr W4).ext E5).wr W6 (Or.inl (List.mem_singleton.mpr rfl)))), ((E.wr W4).ext E5).wr W6, hcs, by omega, b5, ((FV.other W4 (Or.inr sne)).ext E5).same W6, ?_, ?_⟩
    · rw [(own_enc_utf ql).2]
      exact ((FC.same W4).ext E5).other W6 (Or.inr (Ne.symm sne))
    · rw [(own_enc_utf ql).1]
      have e : ((own_ints (own_two cs) ++ List.replicate (2 * (cap - cs.length)) (Value.int 0)).drop 0).take (2 * cs.length - 0) = own_ints (own_two cs) := by
        rw [List.drop_zero, Nat.sub_zero, List.take_left' (by simp [own_two_len])]
      rw [← e]
      exact B5.other W6 b5x
  · rw [ql] at B
    have B : own_Ary K.Z h3 b .byte (own_ints (cs.map own_bt) ++ List.replicate (1 * (cap - cs.length)) (.int 0)) := B
    rw [Nat.one_mul] at B
    refine own_ifeq (pcT := 41) (pcF := 22) d_sia_19 (by decide) (by decide) rfl (fun q => ?_) (fun q => ?_)
    · exact absurd q (by decide)
    refine own_aload_n (pc' := 23) rfl d_sia_22 rfl (by first | rfl | assumption) ?_
    refine own_iconst (v := (0 : Int32)) (pc' := 24) rfl d_sia_23 rfl ?_
    refine own_putF (pc' := 27) rfl d_sia_24 (tw_30 hw) Via.refl (Or.inr ⟨(tw_31 hw), rfl, rfl⟩) (tw_6 hw) (ty := .byte) (by decide) rfl rfl FC E (by simp) ?_
    intro h4 W4
    have B4 := B.other W4 hbx
    refine own_aload_n (pc' := 28) rfl d_sia_27 rfl (by first | rfl | assumption) ?_
    refine own_aload_n (pc' := 29) rfl d_sia_28 rfl (by first | rfl | assumption) ?_
    refine own_iconst (v := (0 : Int32)) (pc' := 30) rfl d_sia_29 rfl ?_
    refine own_iload (pc' := 32) rfl d_sia_30 rfl ?_
    refine own_static3v (M' := M_cor) d_sia_32 (pc' := 35) rfl (tw_204 hw) (tw_205 hw) (tw_206 hw) (tw_207 hw) (by decide) rfl (own_lenOf pd_15 rfl) rfl rfl rfl rfl (c_cor K a0 hw b 0 _ 0 cs.length _ h4 rfl hzc (Nat.zero_le _) (by simp) (fun _ => by simp; omega) (by omega) ((own_Bys.lat cs).app (own_Bys.zero _)) B4) (by simp) ?_
    rintro w h5 xs5 ⟨b5, rfl, E5, hb5, hbx5, B5⟩
    have lx4 : @LT.lt Nat _ _ _ := (E.wr W4).lt
    have b5x : b5 ≠ x := by show @Ne Nat b5 x; omega
    refine own_putF (pc' := 38) rfl d_sia_35 (tw_32 hw) Via.refl (Or.inr ⟨(tw_33 hw), rfl, rfl⟩) (tw_6 hw) (ty := (.array .byte)) (by decide) rfl rfl ((FV.other W4 (Or.inr sne)).ext E5) ((E.wr W4).ext E5) (by simp) ?_
    intro h6 W6
    refine own_goto (pc' := 97) d_sia_38 (by decide) (by decide) ?_
    refine own_return rfl d_sia_97 rfl rfl ?_
    refine ⟨((((Keep.of_wr W4).ext E5).wr W6 (Or.inl (List.mem_singleton.mpr rfl)))), ((E.wr W4).ext E5).wr W6, hcs, by omega, b5, ((FV.other W4 (Or.inr sne)).ext E5).same W6, ?_, ?_⟩
    · rw [(own_enc_lat ql).2]
      exact ((FC.same W4).ext E5).other W6 (Or.inr (Ne.symm sne))
    · rw [(own_enc_lat ql).1]
      have e : ((own_ints (cs.map own_bt) ++ List.replicate (cap - cs.length) (Value.int 0)).drop 0).take (cs.length - 0) = own_ints (cs.map own_bt) := by
        rw [List.drop_zero, Nat.sub_zero, List.take_left' (by simp)]
      rw [← e]
      exact B5.other W6 b5x
theorem d_sis_0 : decode jdk_42_method_53_code 0 = .ok (.aload_n 0, 1) := by decide +kernel
theorem d_sis_1 : decode jdk_42_method_53_code 1 = .ok (.aload_n 1, 1) := by decide +kernel
theorem d_sis_2 : decode jdk_42_method_53_code 2 = .ok (.aconst_null, 1) := by decide +kernel
theorem d_sis_3 : decode jdk_42_method_53_code 3 = .ok (.invokespecial 489, 3) := by decide +kernel
theorem d_sis_6 : decode jdk_42_method_53_code 6 = .ok (.return_, 1) := by decide +kernel
abbrev M_sis : own_Mi := ((⟨"java/lang/String", "<init>", "(Ljava/lang/StringBuilder;)V"⟩ : MethodName), jdk_42_method_53_code, 2, (Option.none : Option FieldType), ({ frames := 4, cells := 1, slots := 12, locals := 87 } : Room))
theorem pn_sis : plainFor (own_Mi.y M_sis) = true := plainFor_of_name (by first | (simp [plainName, overriddenIn]; done) | decide +kernel)
set_option maxRecDepth 65536 in
set_option maxHeartbeats 40000000 in
theorem c_sis (K : own_Cx) (a0 : Array Value) (hw : ∀ d ∈ tables_1, d.before a0 K.Z = true) (g : Int32) (SC : Sta K.Z K.Z.heap own_sC "COMPACT_STRINGS" "Z" (.int g)) (hg : ¬ g = 0) (x t b : Addr) (cs : List Int32) (cap : Nat) (h : Heap) (T : own_SB K.Z h t b cs cap) (hlt : cs.length < cap) (hcb : 2 * cap ≤ 12) (E : Exa K.Z h x own_sC) (FV : Fld K.Z h x own_sC "value" "[B" .null) (FC : Fld K.Z h x own_sC "coder" "B" (.int 0)) (hbx : b ≠ x) :
    own_Met K M_sis #[.ref x, .ref t] [x] h (own_void fun h' _ => Keep h h' [x] ∧ own_Str K.Z h' x cs) := by
  refine own_met_2_0 (M := M_sis) pn_sis rfl (by first | rfl | exact own_cat (by assumption)) (by first | rfl | exact own_cat (by assumption)) ?_
  refine own_aload_n (pc' := 1) rfl d_sis_0 rfl (by first | rfl | assumption) ?_
  refine own_aload_n (pc' := 2) rfl d_sis_1 rfl (by first | rfl | assumption) ?_
  refine own_aconst_null (pc' := 3) rfl d_sis_2 ?_
  refine own_special2n (M' := M_sia) d_sis_3 (pc' := 6) rfl rfl rfl (tw_187 hw) (tw_188 hw) (tw_7 hw) (tw_189 hw) (by decide) rfl (own_lenOf pd_26 rfl) rfl rfl rfl rfl (c_sia K a0 hw g SC hg x t b cs cap h T hlt hcb E FV FC hbx) (by simp) ?_
  rintro h1 xs q
  refine own_return rfl d_sis_6 rfl rfl ?_
  exact q
theorem d_tos_0 : decode jdk_67_method_42_code 0 = .ok (.new 18, 3) := by decide +kernel
theorem d_tos_3 : decode jdk_67_method_42_code 3 = .ok (.dup, 1) := by decide +kernel
theorem d_tos_4 : decode jdk_67_method_42_code 4 = .ok (.aload_n 0, 1) := by decide +kernel
theorem d_tos_5 : decode jdk_67_method_42_code 5 = .ok (.invokespecial 137, 3) := by decide +kernel
theorem d_tos_8 : decode jdk_67_method_42_code 8 = .ok (.areturn, 1) := by decide +kernel
abbrev M_tos : own_Mi := ((⟨"java/lang/StringBuilder", "toString", "()Ljava/lang/String;"⟩ : MethodName), jdk_67_method_42_code, 1, (Option.some (FieldType.object "java/lang/String")), ({ frames := 5, cells := 2, slots := 16, locals := 102 } : Room))
theorem pn_tos : plainFor (own_Mi.y M_tos) = true := plainFor_of_name (by first | (simp [plainName, overriddenIn]; done) | decide +kernel)
set_option maxRecDepth 65536 in
set_option maxHeartbeats 40000000 in
theorem c_tos (K : own_Cx) (a0 : Array Value) (hw : ∀ d ∈ tables_1, d.before a0 K.Z = true) (g : Int32) (SC : Sta K.Z K.Z.heap own_sC "COMPACT_STRINGS" "Z" (.int g)) (hg : ¬ g = 0) (t b : Addr) (cs : List Int32) (cap : Nat) (h : Heap) (T : own_SB K.Z h t b cs cap) (hlt : cs.length < cap) (hcb : 2 * cap ≤ 12) :
    own_Met K M_tos #[.ref t] [] h (own_ret fun w h' _ => ∃ x : Addr, w = .ref x ∧ Ext h h' ∧ h.size ≤ x ∧ own_Str K.Z h' x cs) := by
  have lb := T.ltb
  refine own_met_1_0 (M := M_tos) pn_tos rfl (by first | rfl | exact own_cat (by assumption)) ?_
  refine own_new (pc' := 3) rfl d_tos_0 (tw_183 hw) (tw_6 hw) (tw_7 hw) rfl rfl ?_
  intro x h1 ex E1 X1 D1
  have FV := D1 (Or.inr (tw_33 hw)) (ty := .array .byte) (by decide)
  have FC := D1 (Or.inr (tw_31 hw)) (ty := .byte) (by decide)
  refine own_dup (pc' := 4) rfl d_tos_3 (by first | rfl | assumption) ?_
  refine own_aload_n (pc' := 5) rfl d_tos_4 rfl (by first | rfl | assumption) ?_
  refine own_special1n (M' := M_sis) d_tos_5 (pc' := 8) rfl rfl rfl (tw_184 hw) (tw_185 hw) (tw_7 hw) (tw_186 hw) (by decide) rfl (own_lenOf pd_27 rfl) rfl rfl rfl rfl (c_sis K a0 hw g SC hg x t b cs cap h1 (T.ext E1) hlt hcb X1 FV FC (own_ne (by omega))) (by simp) ?_
  rintro h2 xs ⟨k2, S2⟩
  refine own_areturn rfl rfl (by first | rfl | assumption) d_tos_8 rfl rfl ?_
  exact ⟨x, rfl, own_ext_keep E1 k2 (by intro z hz; cases List.mem_singleton.mp hz; omega), by omega, S2⟩
/-! StringBuilder.append(CharSequence, int, int) of a String: behind sbu.wp; needs S_CHAR, S_VALC, acopy, super -/
theorem own_two_cut : ∀ (ds : List Int32) (F N : Nat), ((own_two ds).drop (2 * F)).take (2 * N) = own_two ((ds.drop F).take N) := by
  have hd : ∀ (ds : List Int32) (F : Nat), (own_two ds).drop (2 * F) = own_two (ds.drop F) := by
    intro ds
    induction ds with
    | nil => intro F; simp [own_two]
    | cons c r ih =>
      intro F
      cases F with
      | zero => rfl
      | succ F =>
        have e : own_two (c :: r) = own_bt c :: own_hb c :: own_two r := rfl
        rw [e, show 2 * (F + 1) = 2 * F + 1 + 1 by omega, List.drop_succ_cons, List.drop_succ_cons, List.drop_succ_cons]
        exact ih F
  have ht : ∀ (ds : List Int32) (N : Nat), (own_two ds).take (2 * N) = own_two (ds.take N) := by
    intro ds
    induction ds with
    | nil => intro N; simp [own_two]
    | cons c r ih =>
      intro N
      cases N with
      | zero => rfl
      | succ N =>
        have e : own_two (c :: r) = own_bt c :: own_hb c :: own_two r := rfl
        rw [e, show 2 * (N + 1) = 2 * N + 1 + 1 by omega, List.take_succ_cons, List.take_succ_cons, List.take_succ_cons, ih N]
        rfl
  intro ds F N
  rw [hd, ht]
theorem own_put_mid {L R : List Value} {z : Value} {n : Nat} (q : R.length ≤ n) : (L ++ List.replicate n z).take L.length ++ R ++ (L ++ List.replicate n z).drop (L.length + R.length) = L ++ R ++ List.replicate (n - R.length) z := by
  simp [List.drop_append, List.drop_replicate]
theorem own_cut_snoc {ds : List Int32} {F I : Nat} {c : Int32} (hFI : F ≤ I) (hc : ds[I]? = some c) : (ds.drop F).take (I + 1 - F) = (ds.drop F).take (I - F) ++ [c] := by
  rw [show I + 1 - F = (I - F) + 1 by omega, List.take_add_one, List.getElem?_drop, show F + (I - F) = I by omega, hc]
  rfl
theorem own_cut_app (ds : List Int32) {F I E : Nat} (h1 : F ≤ I) (h2 : I ≤ E) : (ds.drop F).take (E - F) = (ds.drop F).take (I - F) ++ (ds.drop I).take (E - I) := by
  have e : (ds.drop F).drop (I - F) = ds.drop I := by rw [List.drop_drop]; congr 1; omega
  rw [show E - F = (I - F) + (E - I) by omega, List.take_add, e]
theorem own_two_app (a b : List Int32) : own_two (a ++ b) = own_two a ++ own_two b := by simp [own_two]
theorem own_lat_cut {ds : List Int32} (q : own_lat ds = true) (F N : Nat) : own_lat ((ds.drop F).take N) = true :=
  List.all_eq_true.mpr fun c hc => List.all_eq_true.mp q c (List.mem_of_mem_drop (List.mem_of_mem_take hc))
theorem own_chs_cut {ds : List Int32} (q : own_Chs ds) (F N : Nat) : own_Chs ((ds.drop F).take N) := fun c hc => q c (List.mem_of_mem_drop (List.mem_of_mem_take hc))
theorem d_svl_0 : decode jdk_42_method_153_code 0 = .ok (.aload_n 0, 1) := by decide +kernel
theorem d_svl_1 : decode jdk_42_method_153_code 1 = .ok (.getfield 9, 3) := by decide +kernel
theorem d_svl_4 : decode jdk_42_method_153_code 4 = .ok (.areturn, 1) := by decide +kernel
abbrev M_svl : own_Mi := ((⟨"java/lang/String", "value", "()[B"⟩ : MethodName), jdk_42_method_153_code, 1, (Option.some (FieldType.array FieldType.byte)), ({ frames := 0, cells := 0, slots := 0, locals := 0 } : Room))
theorem pn_svl : plainFor (own_Mi.y M_svl) = true := plainFor_of_name (by first | (simp [plainName, overriddenIn]; done) | decide +kernel)
set_option maxRecDepth 65536 in
set_option maxHeartbeats 40000000 in
theorem c_svl (K : own_Cx) (a0 : Array Value) (hw : ∀ d ∈ tables_1, d.before a0 K.Z = true) (x b : Addr) (h : Heap) (F : Fld K.Z h x own_sC "value" "[B" (.ref b)) :
    own_Met K M_svl #[.ref x] [] h (own_ret fun w h' _ => w = .ref b ∧ h' = h) := by
  refine own_met_1_0 (M := M_svl) pn_svl rfl (by first | rfl | exact own_cat (by assumption)) ?_
  refine own_aload_n (pc' := 1) rfl d_svl_0 rfl (by first | rfl | assumption) ?_
  refine own_getF (pc' := 4) rfl d_svl_1 (tw_32 hw) Via.refl F ?_
  refine own_areturn rfl rfl (by first | rfl | assumption) d_svl_4 rfl rfl ?_
  exact ⟨rfl, rfl⟩
theorem d_apc_0 : decode jdk_68_method_75_code 0 = .ok (.aload_n 0, 1) := by decide +kernel
theorem d_apc_1 : decode jdk_68_method_75_code 1 = .ok (.invokevirtual 83, 3) := by decide +kernel
theorem d_apc_4 : decode jdk_68_method_75_code 4 = .ok (.ifCond .eq 141, 3) := by decide +kernel
theorem d_apc_7 : decode jdk_68_method_75_code 7 = .ok (.aload_n 1, 1) := by decide +kernel
theorem d_apc_8 : decode jdk_68_method_75_code 8 = .ok (.invokevirtual 400, 3) := by decide +kernel
theorem d_apc_11 : decode jdk_68_method_75_code 11 = .ok (.ifCond .eq 25, 3) := by decide +kernel
theorem d_apc_14 : decode jdk_68_method_75_code 14 = .ok (.aload_n 1, 1) := by decide +kernel
theorem d_apc_15 : decode jdk_68_method_75_code 15 = .ok (.invokevirtual 401, 3) := by decide +kernel
theorem d_apc_18 : decode jdk_68_method_75_code 18 = .ok (.iload_n 2, 1) := by decide +kernel
theorem d_apc_19 : decode jdk_68_method_75_code 19 = .ok (.aload_n 0, 1) := by decide +kernel
theorem d_apc_20 : decode jdk_68_method_75_code 20 = .ok (.getfield 15, 3) := by decide +kernel
theorem d_apc_23 : decode jdk_68_method_75_code 23 = .ok (.aload_n 0, 1) := by decide +kernel
theorem d_apc_24 : decode jdk_68_method_75_code 24 = .ok (.getfield 79, 3) := by decide +kernel
theorem d_apc_27 : decode jdk_68_method_75_code 27 = .ok (.iload_n 3, 1) := by decide +kernel
theorem d_apc_28 : decode jdk_68_method_75_code 28 = .ok (.iload_n 2, 1) := by decide +kernel
theorem d_apc_29 : decode jdk_68_method_75_code 29 = .ok (.isub, 1) := by decide +kernel
theorem d_apc_30 : decode jdk_68_method_75_code 30 = .ok (.invokestatic 309, 3) := by decide +kernel
theorem d_apc_33 : decode jdk_68_method_75_code 33 = .ok (.goto 161, 3) := by decide +kernel
theorem d_apc_36 : decode jdk_68_method_75_code 36 = .ok (.aload_n 0, 1) := by decide +kernel
theorem d_apc_37 : decode jdk_68_method_75_code 37 = .ok (.getfield 15, 3) := by decide +kernel
theorem d_apc_40 : decode jdk_68_method_75_code 40 = .ok (.astore 4, 2) := by decide +kernel
theorem d_apc_42 : decode jdk_68_method_75_code 42 = .ok (.iload_n 2, 1) := by decide +kernel
theorem d_apc_43 : decode jdk_68_method_75_code 43 = .ok (.istore 5, 2) := by decide +kernel
theorem d_apc_45 : decode jdk_68_method_75_code 45 = .ok (.aload_n 0, 1) := by decide +kernel
theorem d_apc_46 : decode jdk_68_method_75_code 46 = .ok (.getfield 79, 3) := by decide +kernel
theorem d_apc_49 : decode jdk_68_method_75_code 49 = .ok (.istore 6, 2) := by decide +kernel
theorem d_apc_51 : decode jdk_68_method_75_code 51 = .ok (.iload 5, 2) := by decide +kernel
theorem d_apc_53 : decode jdk_68_method_75_code 53 = .ok (.iload_n 3, 1) := by decide +kernel
theorem d_apc_54 : decode jdk_68_method_75_code 54 = .ok (.if_icmp .ge 88, 3) := by decide +kernel
theorem d_apc_57 : decode jdk_68_method_75_code 57 = .ok (.aload_n 1, 1) := by decide +kernel
theorem d_apc_58 : decode jdk_68_method_75_code 58 = .ok (.iload 5, 2) := by decide +kernel
theorem d_apc_60 : decode jdk_68_method_75_code 60 = .ok (.invokevirtual 404, 3) := by decide +kernel
theorem d_apc_63 : decode jdk_68_method_75_code 63 = .ok (.istore 7, 2) := by decide +kernel
theorem d_apc_65 : decode jdk_68_method_75_code 65 = .ok (.iload 7, 2) := by decide +kernel
theorem d_apc_67 : decode jdk_68_method_75_code 67 = .ok (.invokestatic 191, 3) := by decide +kernel
theorem d_apc_70 : decode jdk_68_method_75_code 70 = .ok (.ifCond .eq 17, 3) := by decide +kernel
theorem d_apc_73 : decode jdk_68_method_75_code 73 = .ok (.aload 4, 2) := by decide +kernel
theorem d_apc_75 : decode jdk_68_method_75_code 75 = .ok (.iload 6, 2) := by decide +kernel
theorem d_apc_77 : decode jdk_68_method_75_code 77 = .ok (.iinc 6 1, 3) := by decide +kernel
theorem d_apc_80 : decode jdk_68_method_75_code 80 = .ok (.iload 7, 2) := by decide +kernel
theorem d_apc_82 : decode jdk_68_method_75_code 82 = .ok (.i2b, 1) := by decide +kernel
theorem d_apc_83 : decode jdk_68_method_75_code 83 = .ok (.bastore, 1) := by decide +kernel
theorem d_apc_84 : decode jdk_68_method_75_code 84 = .ok (.goto 52, 3) := by decide +kernel
theorem d_apc_87 : decode jdk_68_method_75_code 87 = .ok (.aload_n 0, 1) := by decide +kernel
theorem d_apc_88 : decode jdk_68_method_75_code 88 = .ok (.iload 6, 2) := by decide +kernel
theorem d_apc_90 : decode jdk_68_method_75_code 90 = .ok (.putfield 79, 3) := by decide +kernel
theorem d_apc_93 : decode jdk_68_method_75_code 93 = .ok (.aload_n 0, 1) := by decide +kernel
theorem d_apc_94 : decode jdk_68_method_75_code 94 = .ok (.invokevirtual 195, 3) := by decide +kernel
theorem d_apc_97 : decode jdk_68_method_75_code 97 = .ok (.aload_n 1, 1) := by decide +kernel
theorem d_apc_98 : decode jdk_68_method_75_code 98 = .ok (.invokevirtual 401, 3) := by decide +kernel
theorem d_apc_101 : decode jdk_68_method_75_code 101 = .ok (.iload 5, 2) := by decide +kernel
theorem d_apc_103 : decode jdk_68_method_75_code 103 = .ok (.iconst 1, 1) := by decide +kernel
theorem d_apc_104 : decode jdk_68_method_75_code 104 = .ok (.ishl, 1) := by decide +kernel
theorem d_apc_105 : decode jdk_68_method_75_code 105 = .ok (.aload_n 0, 1) := by decide +kernel
theorem d_apc_106 : decode jdk_68_method_75_code 106 = .ok (.getfield 15, 3) := by decide +kernel
theorem d_apc_109 : decode jdk_68_method_75_code 109 = .ok (.iload 6, 2) := by decide +kernel
theorem d_apc_111 : decode jdk_68_method_75_code 111 = .ok (.iconst 1, 1) := by decide +kernel
theorem d_apc_112 : decode jdk_68_method_75_code 112 = .ok (.ishl, 1) := by decide +kernel
theorem d_apc_113 : decode jdk_68_method_75_code 113 = .ok (.iload_n 3, 1) := by decide +kernel
theorem d_apc_114 : decode jdk_68_method_75_code 114 = .ok (.iload 5, 2) := by decide +kernel
theorem d_apc_116 : decode jdk_68_method_75_code 116 = .ok (.isub, 1) := by decide +kernel
theorem d_apc_117 : decode jdk_68_method_75_code 117 = .ok (.iconst 1, 1) := by decide +kernel
theorem d_apc_118 : decode jdk_68_method_75_code 118 = .ok (.ishl, 1) := by decide +kernel
theorem d_apc_119 : decode jdk_68_method_75_code 119 = .ok (.invokestatic 309, 3) := by decide +kernel
theorem d_apc_122 : decode jdk_68_method_75_code 122 = .ok (.aload_n 0, 1) := by decide +kernel
theorem d_apc_123 : decode jdk_68_method_75_code 123 = .ok (.dup, 1) := by decide +kernel
theorem d_apc_124 : decode jdk_68_method_75_code 124 = .ok (.getfield 79, 3) := by decide +kernel
theorem d_apc_127 : decode jdk_68_method_75_code 127 = .ok (.iload_n 3, 1) := by decide +kernel
theorem d_apc_128 : decode jdk_68_method_75_code 128 = .ok (.iload 5, 2) := by decide +kernel
theorem d_apc_130 : decode jdk_68_method_75_code 130 = .ok (.isub, 1) := by decide +kernel
theorem d_apc_131 : decode jdk_68_method_75_code 131 = .ok (.iadd, 1) := by decide +kernel
theorem d_apc_132 : decode jdk_68_method_75_code 132 = .ok (.putfield 79, 3) := by decide +kernel
theorem d_apc_135 : decode jdk_68_method_75_code 135 = .ok (.return_, 1) := by decide +kernel
theorem d_apc_136 : decode jdk_68_method_75_code 136 = .ok (.iinc 5 1, 3) := by decide +kernel
theorem d_apc_139 : decode jdk_68_method_75_code 139 = .ok (.goto (-88), 3) := by decide +kernel
theorem d_apc_142 : decode jdk_68_method_75_code 142 = .ok (.goto 52, 3) := by decide +kernel
theorem d_apc_145 : decode jdk_68_method_75_code 145 = .ok (.aload_n 1, 1) := by decide +kernel
theorem d_apc_146 : decode jdk_68_method_75_code 146 = .ok (.invokevirtual 400, 3) := by decide +kernel
theorem d_apc_149 : decode jdk_68_method_75_code 149 = .ok (.ifCond .eq 20, 3) := by decide +kernel
theorem d_apc_169 : decode jdk_68_method_75_code 169 = .ok (.aload_n 1, 1) := by decide +kernel
theorem d_apc_170 : decode jdk_68_method_75_code 170 = .ok (.invokevirtual 401, 3) := by decide +kernel
theorem d_apc_173 : decode jdk_68_method_75_code 173 = .ok (.iload_n 2, 1) := by decide +kernel
theorem d_apc_174 : decode jdk_68_method_75_code 174 = .ok (.iconst 1, 1) := by decide +kernel
theorem d_apc_175 : decode jdk_68_method_75_code 175 = .ok (.ishl, 1) := by decide +kernel
theorem d_apc_176 : decode jdk_68_method_75_code 176 = .ok (.aload_n 0, 1) := by decide +kernel
theorem d_apc_177 : decode jdk_68_method_75_code 177 = .ok (.getfield 15, 3) := by decide +kernel
theorem d_apc_180 : decode jdk_68_method_75_code 180 = .ok (.aload_n 0, 1) := by decide +kernel
theorem d_apc_181 : decode jdk_68_method_75_code 181 = .ok (.getfield 79, 3) := by decide +kernel
theorem d_apc_184 : decode jdk_68_method_75_code 184 = .ok (.iconst 1, 1) := by decide +kernel
theorem d_apc_185 : decode jdk_68_method_75_code 185 = .ok (.ishl, 1) := by decide +kernel
theorem d_apc_186 : decode jdk_68_method_75_code 186 = .ok (.iload_n 3, 1) := by decide +kernel
theorem d_apc_187 : decode jdk_68_method_75_code 187 = .ok (.iload_n 2, 1) := by decide +kernel
theorem d_apc_188 : decode jdk_68_method_75_code 188 = .ok (.isub, 1) := by decide +kernel
theorem d_apc_189 : decode jdk_68_method_75_code 189 = .ok (.iconst 1, 1) := by decide +kernel
theorem d_apc_190 : decode jdk_68_method_75_code 190 = .ok (.ishl, 1) := by decide +kernel
theorem d_apc_191 : decode jdk_68_method_75_code 191 = .ok (.invokestatic 309, 3) := by decide +kernel
theorem d_apc_194 : decode jdk_68_method_75_code 194 = .ok (.aload_n 0, 1) := by decide +kernel
theorem d_apc_195 : decode jdk_68_method_75_code 195 = .ok (.dup, 1) := by decide +kernel
theorem d_apc_196 : decode jdk_68_method_75_code 196 = .ok (.getfield 79, 3) := by decide +kernel
theorem d_apc_199 : decode jdk_68_method_75_code 199 = .ok (.iload_n 3, 1) := by decide +kernel
theorem d_apc_200 : decode jdk_68_method_75_code 200 = .ok (.iload_n 2, 1) := by decide +kernel
theorem d_apc_201 : decode jdk_68_method_75_code 201 = .ok (.isub, 1) := by decide +kernel
theorem d_apc_202 : decode jdk_68_method_75_code 202 = .ok (.iadd, 1) := by decide +kernel
theorem d_apc_203 : decode jdk_68_method_75_code 203 = .ok (.putfield 79, 3) := by decide +kernel
theorem d_apc_206 : decode jdk_68_method_75_code 206 = .ok (.return_, 1) := by decide +kernel
abbrev M_apc : own_Mi := ((⟨"java/lang/AbstractStringBuilder", "appendChars", "(Ljava/lang/String;II)V"⟩ : MethodName), jdk_68_method_75_code, 8, (Option.none : Option FieldType), ({ frames := 6, cells := 1, slots := 12, locals := 92 } : Room))
theorem pn_apc : plainFor (own_Mi.y M_apc) = true := plainFor_of_name (by first | (simp [plainName, overriddenIn]; done) | decide +kernel)
def Q_apc (K : own_Cx) (t b : Addr) (fs : List Int32) (cap : Nat) (h : Heap) : Heap → List Addr → Prop := fun h' xs => Keep h h' [t, b] ∧ ∃ b' : Addr, (b' = b ∨ (b' ∈ xs ∧ h.size ≤ b')) ∧ own_SB K.Z h' t b' fs cap
set_option maxRecDepth 65536 in
set_option maxHeartbeats 40000000 in
theorem c_apc (K : own_Cx) (a0 : Array Value) (hw : ∀ d ∈ tables_1, d.before a0 K.Z = true) (hU : own_U16 K) (rf : Value) (hrf : rf.isRef = true) (SF : Sta K.Z K.Z.heap "jdk/internal/util/Preconditions" "SIOOBE_FORMATTER" "Ljava/util/function/BiFunction;" rf) (g : Int32) (SC : Sta K.Z K.Z.heap own_sC "COMPACT_STRINGS" "Z" (.int g)) (hg : ¬ g = 0) (t b x : Addr) (cs ds : List Int32) (cap : Nat) (f e : Int32) (F E : Nat) (h : Heap) (T : own_SB K.Z h t b cs cap) (S : own_Str K.Z h x ds) (hc : cap ≤ 6) (tb : b ≠ t) (xb : ∀ b0, Fld K.Z h x own_sC "value" "[B" (.ref b0) → b0 ≠ b) (hf : f.toInt = F) (he : e.toInt = E) (hFE : F ≤ E) (hE : E ≤ ds.length) (hdl : ds.length < 2 ^ 20) (hn : cs.length + (E - F) ≤ cap) (hco : own_lat cs = false → own_lat ds = false) :
    own_Met K M_apc #[.ref t, .ref x, .int f, .int e] [t, b] h (own_void (Q_apc K t b (cs ++ (ds.drop F).take (E - F)) cap h)) := by
  have T' := T
  have S' := S
  obtain ⟨E0, hcs, hle, hcap, hlat, F1, F2, F3, F4, B⟩ := T
  obtain ⟨ES, hds, -, b0, FV, FC, B0⟩ := S
  have hb0 := xb b0 FV
  obtain ⟨⟨s12, s13, s23⟩, s41, s42, s43⟩ := own_sslots hw
  have ltt : @LT.lt Nat _ _ _ := E0.lt
  have hzc : (cs.length.toInt32).toInt = cs.length := own_lit _ (by omega)
  have hef : (e - f).toInt = ((E - F : Nat) : Int) := by rw [own_sub he hf] <;> omega
  have hseg : ((ds.drop F).take (E - F)).length = E - F := by rw [List.length_take, List.length_drop]; omega
  have hza := own_nadd hzc hef (by omega)
  have eL : (cs ++ (ds.drop F).take (E - F)).length = cs.length + (E - F) := by rw [List.length_append, hseg]
  have chc : own_Chs (cs ++ (ds.drop F).take (E - F)) := own_chs_app hcs (own_chs_cut hds F (E - F))
  -- the common end: the count
  have fin : ∀ (h3 : Heap) (sf : List Addr) (o4 o5 o6 o7 : Slot), Keep h h3 [b] → t ∈ sf → (!own_lat (cs ++ (ds.drop F).take (E - F))) = (!own_lat cs) → own_Ary K.Z h3 b .byte (own_ints (own_sbv (!own_lat cs) (cs ++ (ds.drop F).take (E - F))) ++ List.replicate (own_uw (!own_lat cs) * (cap - (cs.length + (E - F)))) (.int 0)) → own_WP K M_apc (own_void (Q_apc K t b (cs ++ (ds.drop F).take (E - F)) cap h)) 194 [.val (.ref t), .val (.ref x), .val (.int f), .val (.int e), o4, o5, o6, o7] [] sf h3 0 0 := by
    intro h3 sf o4 o5 o6 o7 k3 hts eu B3
    have nb : t ∉ [b] := ninS (Ne.symm tb) nin0
    refine own_aload_n (pc' := 195) rfl d_apc_194 rfl (by first | rfl | assumption) ?_
    refine own_dup (pc' := 196) rfl d_apc_195 (by first | rfl | assumption) ?_
    refine own_getF (pc' := 199) rfl d_apc_196 (tw_150 hw) Via.refl (F3.keep k3 nb) ?_
    refine own_iload_n (pc' := 200) rfl d_apc_199 rfl ?_
    refine own_iload_n (pc' := 201) rfl d_apc_200 rfl ?_
    refine own_isub (pc' := 202) rfl d_apc_201 ?_
    refine own_iadd (pc' := 203) rfl d_apc_202 ?_
    rw [hza]
    refine own_putF (pc' := 206) rfl d_apc_203 (tw_150 hw) Via.refl (Or.inl (tw_151 hw)) (tw_111 hw) (ty := .int) (by decide) rfl rfl (F3.keep k3 nb) (E0.keep k3) hts ?_
    intro h4 W4
    refine own_return rfl d_apc_206 rfl rfl ?_
    refine ⟨((Keep.refl _ [t, b]).trans k3 (fun z hz => Or.inl (by cases List.mem_singleton.mp hz; simp))).wr W4 (Or.inl (by simp)), b, Or.inl rfl, (E0.keep k3).wr W4, chc, by omega, hcap, (fun q => by cases z : own_lat (cs ++ (ds.drop F).take (E - F)) <;> simp_all), (F1.keep k3 nb).other W4 (Or.inr s13), ?_, ?_, (F4.keep k3 nb).other W4 (Or.inr s43), ?_⟩
    · rw [eu]; exact (F2.keep k3 nb).other W4 (Or.inr s23)
    · rw [eL]; exact (F3.keep k3 nb).same W4
    · rw [eu, eL]; exact B3.other W4 tb
  refine own_met_4_4 (M := M_apc) pn_apc rfl (by first | rfl | exact own_cat (by assumption)) (by first | rfl | exact own_cat (by assumption)) (by first | rfl | exact own_cat (by assumption)) (by first | rfl | exact own_cat (by assumption)) ?_
  refine own_aload_n (pc' := 1) rfl d_apc_0 rfl (by first | rfl | assumption) ?_
  refine own_virtual0v (M' := M_ail) d_apc_1 (pc' := 4) rfl (tw_163 hw) (tw_164 hw) (tw_166 hw) (tw_165 hw) (tw_120 hw) (tw_167 hw) (by decide) rfl (own_lenOf pd_13 rfl) rfl rfl rfl rfl E0 (c_ail K a0 hw g SC hg t _ h F2) (by simp) ?_
  rintro w h1 xs1 ⟨rfl, rfl⟩
  cases ql : own_lat cs
  · -- the builder holds chars above 255: so does the text
    have qd := hco ql
    have B0u := B0
    rw [(own_enc_utf qd).1] at B0u
    have Bu := B
    rw [ql] at Bu
    have Bu : own_Ary K.Z h1 b .byte (own_ints (own_two cs) ++ List.replicate (2 * (cap - cs.length)) (.int 0)) := Bu
    have sf2 := own_shl1 hf (by omega)
    have sc2 := own_shl1 hzc (by omega)
    have se2 := own_shl1 hef (by omega)
    have qa : own_lat (cs ++ (ds.drop F).take (E - F)) = false := by rw [own_lat_app, ql]; rfl
    refine own_ifeq (pcT := 145) (pcF := 7) d_apc_4 (by decide) (by decide) rfl (fun q => ?_) (fun q => ?_)
    rotate_left 1
    · exact absurd rfl q
    refine own_aload_n (pc' := 146) rfl d_apc_145 rfl (by first | rfl | assumption) ?_
    refine own_virtual0v (M' := M_isl) d_apc_146 (pc' := 149) rfl (tw_168 hw) (tw_63 hw) (tw_65 hw) (tw_64 hw) (tw_7 hw) (tw_66 hw) (by decide) rfl (own_lenOf pd_13 rfl) rfl rfl rfl rfl ES (c_isl K a0 hw g SC hg x ds _ S') (by simp) ?_
    rintro w h2 xs2 ⟨rfl, rfl⟩
    rw [qd]
    refine own_ifeq (pcT := 169) (pcF := 152) d_apc_149 (by decide) (by decide) rfl (fun q2 => ?_) (fun q2 => ?_)
    rotate_left 1
    · exact absurd (by simp) q2
    refine own_aload_n (pc' := 170) rfl d_apc_169 rfl (by first | rfl | assumption) ?_
    refine own_virtual0v (M' := M_svl) d_apc_170 (pc' := 173) rfl (tw_169 hw) (tw_170 hw) (tw_172 hw) (tw_171 hw) (tw_7 hw) (tw_173 hw) (by decide) rfl (own_lenOf pd_25 rfl) rfl rfl rfl rfl ES (c_svl K a0 hw x b0 _ FV) (by simp) ?_
    rintro w h3 xs3 ⟨rfl, rfl⟩
    refine own_iload_n (pc' := 174) rfl d_apc_173 rfl ?_
    refine own_iconst (v := (1 : Int32)) (pc' := 175) rfl d_apc_174 rfl ?_
    refine own_ishl (pc' := 176) rfl d_apc_175 ?_
    refine own_aload_n (pc' := 177) rfl d_apc_176 rfl (by first | rfl | assumption) ?_
    refine own_getF (pc' := 180) rfl d_apc_177 (tw_124 hw) Via.refl F1 ?_
    refine own_aload_n (pc' := 181) rfl d_apc_180 rfl (by first | rfl | assumption) ?_
    refine own_getF (pc' := 184) rfl d_apc_181 (tw_150 hw) Via.refl F3 ?_
    refine own_iconst (v := (1 : Int32)) (pc' := 185) rfl d_apc_184 rfl ?_
    refine own_ishl (pc' := 186) rfl d_apc_185 ?_
    refine own_iload_n (pc' := 187) rfl d_apc_186 rfl ?_
    refine own_iload_n (pc' := 188) rfl d_apc_187 rfl ?_
    refine own_isub (pc' := 189) rfl d_apc_188 ?_
    refine own_iconst (v := (1 : Int32)) (pc' := 190) rfl d_apc_189 rfl ?_
    refine own_ishl (pc' := 191) rfl d_apc_190 ?_
    refine own_acopy (pc' := 194) rfl d_apc_191 (tw_174 hw) (tw_177 hw) (tw_175 hw) (tw_176 hw) rfl rfl rfl rfl B0u Bu (own_Bys.two ds) ((own_Bys.two cs).app (own_Bys.zero _)) (S := (2 * F)) (D := (2 * cs.length)) (N := (2 * (E - F))) sf2 sc2 se2 (by simp [own_two_len]; omega) (by simp [own_two_len]; omega) (by simp) ?_
    intro h4 k4 B4
    refine own_weak (fin h4 _ _ _ _ _ k4 (by simp) (by rw [qa, ql]) ?_) (fun x hx => hx) (by exact Nat.le_of_ble_eq_true rfl) (by exact Nat.le_of_ble_eq_true rfl)
    rw [ql]
    have e1 : ((own_ints (own_two ds)).drop (2 * F)).take (2 * (E - F)) = own_ints (own_two ((ds.drop F).take (E - F))) := by
      rw [← own_two_cut]; simp [own_ints, List.map_drop, List.map_take]
    have hl2 : (own_ints (own_two ((ds.drop F).take (E - F)))).length = 2 * (E - F) := by simp only [List.length_map, own_two_len, hseg]
    have hl3 : (own_ints (own_two cs)).length = 2 * cs.length := by simp [own_two_len]
    have e2 := own_put_mid (L := own_ints (own_two cs)) (R := own_ints (own_two ((ds.drop F).take (E - F)))) (z := .int 0) (n := 2 * (cap - cs.length)) (by rw [hl2]; omega)
    rw [hl2, hl3] at e2
    rw [e1, e2] at B4
    have e3 : own_ints (own_sbv (!false) (cs ++ (ds.drop F).take (E - F))) ++ List.replicate (own_uw (!false) * (cap - (cs.length + (E - F)))) (Value.int 0) = own_ints (own_two cs) ++ own_ints (own_two ((ds.drop F).take (E - F))) ++ List.replicate (2 * (cap - cs.length) - 2 * (E - F)) (.int 0) := by
      rw [own_sbv_app, show 2 * (cap - cs.length) - 2 * (E - F) = 2 * (cap - (cs.length + (E - F))) by omega]
      simp [own_ints, own_sbv, own_uw]
    rw [e3]
    exact B4
  · have Bl := B
    rw [ql] at Bl
    have Bl : own_Ary K.Z h1 b .byte (own_ints (cs.map own_bt) ++ List.replicate (1 * (cap - cs.length)) (.int 0)) := Bl
    rw [Nat.one_mul] at Bl
    refine own_ifeq (pcT := 145) (pcF := 7) d_apc_4 (by decide) (by decide) rfl (fun q => ?_) (fun q => ?_)
    · exact absurd q (by decide)
    refine own_aload_n (pc' := 8) rfl d_apc_7 rfl (by first | rfl | assumption) ?_
    refine own_virtual0v (M' := M_isl) d_apc_8 (pc' := 11) rfl (tw_168 hw) (tw_63 hw) (tw_65 hw) (tw_64 hw) (tw_7 hw) (tw_66 hw) (by decide) rfl (own_lenOf pd_13 rfl) rfl rfl rfl rfl ES (c_isl K a0 hw g SC hg x ds _ S') (by simp) ?_
    rintro w h2 xs2 ⟨rfl, rfl⟩
    cases qd : own_lat ds
    · skip
      refine own_ifeq (pcT := 36) (pcF := 14) d_apc_11 (by decide) (by decide) rfl (fun q2 => ?_) (fun q2 => ?_)
      rotate_left 1
      · exact absurd (by simp) q2
      have xbo : x ≠ b := fun z => by obtain ⟨cA, hA, -⟩ := B; exact ne_arr ES (tw_6 hw) hA z
      have b0t : b0 ≠ t := fun z => by obtain ⟨cA, hA, -⟩ := B0; exact ne_arr E0 (tw_111 hw) hA z.symm
      have xt : x ≠ t := ne_exa ES E0 (by decide)
      have nb : t ∉ [b] := ninS (Ne.symm tb) nin0
      have v1 : (1 : Int32).toInt = 1 := rfl
      have B0u := B0
      rw [(own_enc_utf qd).1] at B0u
      refine own_aload_n (pc' := 37) rfl d_apc_36 rfl (by first | rfl | assumption) ?_
      refine own_getF (pc' := 40) rfl d_apc_37 (tw_124 hw) Via.refl F1 ?_
      refine own_astore_4 (pc' := 42) rfl d_apc_40 (by first | exact One.u | exact One.val rfl | assumption | exact One.val (by assumption)) (by first | rfl | assumption) ?_
      refine own_iload_n (pc' := 43) rfl d_apc_42 rfl ?_
      refine own_istore_5 (pc' := 45) rfl d_apc_43 (by first | exact One.u | exact One.val rfl | assumption | exact One.val (by assumption)) ?_
      refine own_aload_n (pc' := 46) rfl d_apc_45 rfl (by first | rfl | assumption) ?_
      refine own_getF (pc' := 49) rfl d_apc_46 (tw_150 hw) Via.refl F3 ?_
      refine own_istore_6 (pc' := 51) rfl d_apc_49 (by first | exact One.u | exact One.val rfl | assumption | exact One.val (by assumption)) ?_
      suffices key : ∀ (k I : Nat) (i j : Int32) (o7 : Slot) (h3 : Heap) (sf : List Addr), I + k = E → F ≤ I → i.toInt = I → j.toInt = ((cs.length + (I - F) : Nat) : Int) → One o7 → t ∈ sf → b ∈ sf → Keep h2 h3 [b] → own_lat ((ds.drop F).take (I - F)) = true → own_Ary K.Z h3 b .byte (own_ints ((cs ++ (ds.drop F).take (I - F)).map own_bt) ++ List.replicate (cap - (cs.length + (I - F))) (.int 0)) → own_WP K M_apc (own_void (Q_apc K t b (cs ++ (ds.drop F).take (E - F)) cap h2)) 51 [.val (.ref t), .val (.ref x), .val (.int f), .val (.int e), .val (.ref b), .val (.int i), .val (.int j), o7] [] sf h3 0 0 from
        own_weak (key (E - F) F f _ .unset h2 _ (by omega) (Nat.le_refl _) hf (by rw [hzc]; simp) One.u (by simp) (by simp) (Keep.refl _ _) (by simp [own_lat]) (by simpa using Bl)) (fun x hx => hx) (by exact Nat.le_of_ble_eq_true rfl) (by exact Nat.le_of_ble_eq_true rfl)
      intro k
      induction k with
      | zero =>
        intro I i j o7 h3 sf hik hFI hi hj h7 hts hbs k3 hl3 B3
        have eI : I = E := by omega
        subst eI
        have qa : own_lat (cs ++ (ds.drop F).take (I - F)) = true := by rw [own_lat_app, ql, hl3]; rfl
        refine own_iload (pc' := 53) rfl d_apc_51 rfl ?_
        refine own_iload_n (pc' := 54) rfl d_apc_53 rfl ?_
        refine own_icmpge (pcT := 142) (pcF := 57) d_apc_54 (by decide) (by decide) rfl (fun q3 => ?_) (fun q3 => ?_)
        rotate_left 1
        · rw [Int32.lt_iff_toInt_lt] at q3
          omega
        refine own_goto (pc' := 194) d_apc_142 (by decide) (by decide) ?_
        refine fin h3 sf _ _ _ _ k3 hts (by rw [qa, ql]) ?_
        rw [ql]
        show own_Ary K.Z h3 b .byte (own_ints ((cs ++ (ds.drop F).take (I - F)).map own_bt) ++ List.replicate (1 * (cap - (cs.length + (I - F)))) (.int 0))
        rw [Nat.one_mul]
        exact B3
      | succ k ih =>
        intro I i j o7 h3 sf hik hFI hi hj ho7 hts hbs k3 hl3 B3
        have hId : I < ds.length := by omega
        have hIE : I ≤ E := by omega
        obtain ⟨c, hcI⟩ : ∃ c, ds[I]? = some c := ⟨ds[I], by simp [hId]⟩
        have hsg : ((ds.drop F).take (I - F)).length = I - F := by rw [List.length_take, List.length_drop]; omega
        have eL1 : (cs ++ (ds.drop F).take (I - F)).length = cs.length + (I - F) := by rw [List.length_append, hsg]
        have S3 : own_Str K.Z h3 x ds := ⟨ES.keep k3, hds, by omega, b0, FV.keep k3 (ninS xbo nin0), FC.keep k3 (ninS xbo nin0), B0.keep k3 (ninS hb0 nin0)⟩
        have hi1 : (i + 1).toInt = ((I + 1 : Nat) : Int) := by rw [own_add hi v1] <;> omega
        have hj1 : (j + 1).toInt = ((cs.length + (I + 1 - F) : Nat) : Int) := by rw [own_add hj v1] <;> omega
        refine own_iload (pc' := 53) rfl d_apc_51 rfl ?_
        refine own_iload_n (pc' := 54) rfl d_apc_53 rfl ?_
        refine own_icmpge (pcT := 142) (pcF := 57) d_apc_54 (by decide) (by decide) rfl (fun q3 => ?_) (fun q3 => ?_)
        · exact absurd (by rw [Int32.lt_iff_toInt_lt]; omega) q3
        refine own_aload_n (pc' := 58) rfl d_apc_57 rfl (by first | rfl | assumption) ?_
        refine own_iload (pc' := 60) rfl d_apc_58 rfl ?_
        refine own_virtual1v (M' := M_sca) d_apc_60 (pc' := 63) rfl (tw_264 hw) (tw_58 hw) (tw_60 hw) (tw_59 hw) (tw_7 hw) (tw_61 hw) (by decide) rfl (own_lenOf pd_28 rfl) rfl rfl rfl rfl S3.1 (c_sca K a0 hw hU g SC hg rf hrf SF x ds i I c _ S3 (by omega) hi hcI) (by simp) ?_
        rintro w h4 xs4 ⟨rfl, rfl⟩
        refine own_istore_7 (pc' := 65) rfl d_apc_63 (by first | exact One.u | exact One.val rfl | assumption | exact One.val (by assumption)) ?_
        refine own_iload (pc' := 67) rfl d_apc_65 rfl ?_
        refine own_static1v (M' := M_cen) d_apc_67 (pc' := 70) rfl (tw_265 hw) (tw_266 hw) (tw_69 hw) (tw_267 hw) (by decide) rfl (own_lenOf pd_29 rfl) rfl rfl rfl rfl (c_cen K a0 hw c _) (by simp) ?_
        rintro w h5 xs5 ⟨rfl, rfl⟩
        by_cases hl : c.toInt < 256
        · rw [if_pos hl]
          have e0 : cap - (cs.length + (I - F)) = cap - (cs.length + (I + 1 - F)) + 1 := by omega
          rw [e0] at B3
          refine own_ifeq (pcT := 87) (pcF := 73) d_apc_70 (by decide) (by decide) rfl (fun q4 => ?_) (fun q4 => ?_)
          · exact absurd q4 (by decide)
          refine own_aload (pc' := 75) rfl d_apc_73 rfl (by first | rfl | assumption) ?_
          refine own_iload (pc' := 77) rfl d_apc_75 rfl ?_
          refine own_iinc_6 (z := (1 : Int32)) (pc' := 80) rfl d_apc_77 rfl ?_
          refine own_iload (pc' := 82) rfl d_apc_80 rfl ?_
          refine own_i2b (pc' := 83) rfl d_apc_82 ?_
          refine own_bastore (pc' := 84) rfl d_apc_83 B3 (i := (cs.length + (I - F))) hj (by rw [List.length_append, List.length_replicate]; simp only [List.length_map, eL1]; omega) (own_bt_nar c) (by simp [hbs]) ?_
          intro h6 k6 B6
          refine own_goto (pc' := 136) d_apc_84 (by decide) (by decide) ?_
          refine own_iinc_5 (z := (1 : Int32)) (pc' := 139) rfl d_apc_136 rfl ?_
          refine own_goto (pc' := 51) d_apc_139 (by decide) (by decide) ?_
          refine own_weak (ih (I + 1) (i + 1) (j + 1) _ h6 _ (by omega) (by omega) hi1 hj1 (One.val rfl) (by simp [hts]) (by simp [hbs]) (k3.trans k6 (fun z hz => Or.inl hz)) ?_ ?_) (fun x hx => hx) (by exact Nat.le_of_ble_eq_true rfl) (by exact Nat.le_of_ble_eq_true rfl)
          · rw [own_cut_snoc hFI hcI, own_lat_app, hl3]; simp [own_lat, hl]
          · have e := own_setmid (own_ints ((cs ++ (ds.drop F).take (I - F)).map own_bt)) (Value.int 0) (.int (own_bt c)) (cap - (cs.length + (I + 1 - F)))
            rw [show (own_ints ((cs ++ (ds.drop F).take (I - F)).map own_bt)).length = cs.length + (I - F) by simp only [List.length_map, eL1]] at e
            rw [e] at B6
            have e2 : own_ints ((cs ++ (ds.drop F).take (I + 1 - F)).map own_bt) = own_ints ((cs ++ (ds.drop F).take (I - F)).map own_bt) ++ [.int (own_bt c)] := by rw [own_cut_snoc hFI hcI]; simp [own_ints]
            rw [e2]
            exact B6
        · rw [if_neg hl]
          have ej : j = (cs.length + (I - F)).toInt32 := Int32.toInt_inj.mp (by rw [hj, own_lit _ (by omega)])
          subst ej
          have hei : (e - i).toInt = ((E - I : Nat) : Int) := by rw [own_sub he hi] <;> omega
          have si2 := own_shl1 hi (by omega)
          have sj2 := own_shl1 hj (by omega)
          have se3 := own_shl1 hei (by omega)
          have hza2 := own_nadd hj hei (by omega)
          rw [show cs.length + (I - F) + (E - I) = cs.length + (E - F) by omega] at hza2
          refine own_ifeq (pcT := 87) (pcF := 73) d_apc_70 (by decide) (by decide) rfl (fun q4 => ?_) (fun q4 => ?_)
          rotate_left 1
          · exact absurd rfl q4
          refine own_aload_n (pc' := 88) rfl d_apc_87 rfl (by first | rfl | assumption) ?_
          refine own_iload (pc' := 90) rfl d_apc_88 rfl ?_
          refine own_putF (pc' := 93) rfl d_apc_90 (tw_150 hw) Via.refl (Or.inl (tw_151 hw)) (tw_111 hw) (ty := .int) (by decide) rfl rfl (F3.keep k3 nb) (E0.keep k3) (by simp [hts]) ?_
          intro h6 W6
          have T6 : own_SBx K.Z h6 t b false (cs ++ (ds.drop F).take (I - F)) cap := by
            refine ⟨(E0.keep k3).wr W6, own_chs_app hcs (own_chs_cut hds F (I - F)), by omega, hcap, (fun _ => by rw [own_lat_app, ql, hl3]; rfl), (F1.keep k3 nb).other W6 (Or.inr s13), ?_, ?_, (F4.keep k3 nb).other W6 (Or.inr s43), ?_⟩
            · have F2' := F2
              rw [ql] at F2'
              exact (F2'.keep k3 nb).other W6 (Or.inr s23)
            · rw [eL1]; exact (F3.keep k3 nb).same W6
            · rw [eL1]
              show own_Ary K.Z h6 b .byte (own_ints ((cs ++ (ds.drop F).take (I - F)).map own_bt) ++ List.replicate (1 * (cap - (cs.length + (I - F)))) (.int 0))
              rw [Nat.one_mul]
              exact B3.other W6 tb
          have FV6 := (FV.keep k3 (ninS xbo nin0)).other W6 (Or.inl xt)
          have B06 := (B0u.keep k3 (ninS hb0 nin0)).other W6 b0t
          have X6 := (ES.keep k3).wr W6
          have lt6 : @LT.lt Nat _ _ _ := T6.1.lt
          refine own_aload_n (pc' := 94) rfl d_apc_93 rfl (by first | rfl | assumption) ?_
          refine own_virtual0n (M' := M_ainf) d_apc_94 (pc' := 97) rfl (tw_268 hw) (own_decl (tw_269 hw) (tw_272 hw)) (tw_271 hw) (tw_269 hw) (tw_120 hw) (tw_272 hw) (by decide) rfl (own_lenOf pd_30 rfl) rfl rfl rfl rfl T6.1 (c_ainf K a0 hw hU rf hrf SF g SC hg t b false _ cap h6 T6 hc tb) (by intro z hz; cases List.mem_singleton.mp hz; simp [hts]) ?_
          rintro h7 xs7 ⟨k7, b', hb', T7⟩
          have bt : b' ≠ t := by
            rcases hb' with rfl | ⟨-, z⟩
            · exact tb
            · exact own_ne (by omega)
          obtain ⟨E7, -, -, -, -, G1, G2, G3, G4, B7⟩ := T7
          have B7 : own_Ary K.Z h7 b' .byte (own_ints (own_two (cs ++ (ds.drop F).take (I - F))) ++ List.replicate (2 * (cap - (cs ++ (ds.drop F).take (I - F)).length)) (.int 0)) := B7
          rw [eL1] at B7 G3
          have FV7 := FV6.keep k7 (ninS xt nin0)
          have B07 := B06.keep k7 (ninS b0t nin0)
          have X7 := X6.keep k7
          have hb'm : b' = b ∨ b' ∈ xs7 := hb'.imp id And.left
          have hb'z : b' ∈ [t, b] ∨ h2.size ≤ b' := hb'.elim (fun e => Or.inl (by rw [e]; simp)) (fun q => Or.inr (Nat.le_trans k3.1 (Nat.le_trans (Nat.le_of_eq W6.size.symm) q.2)))
          have nb' : t ∉ [b'] := ninS (Ne.symm bt) nin0
          refine own_aload_n (pc' := 98) rfl d_apc_97 rfl (by first | rfl | assumption) ?_
          refine own_virtual0v (M' := M_svl) d_apc_98 (pc' := 101) rfl (tw_169 hw) (tw_170 hw) (tw_172 hw) (tw_171 hw) (tw_7 hw) (tw_173 hw) (by decide) rfl (own_lenOf pd_25 rfl) rfl rfl rfl rfl X7 (c_svl K a0 hw x b0 _ FV7) (by simp) ?_
          rintro w h8 xs8 ⟨rfl, rfl⟩
          refine own_iload (pc' := 103) rfl d_apc_101 rfl ?_
          refine own_iconst (v := (1 : Int32)) (pc' := 104) rfl d_apc_103 rfl ?_
          refine own_ishl (pc' := 105) rfl d_apc_104 ?_
          refine own_aload_n (pc' := 106) rfl d_apc_105 rfl (by first | rfl | assumption) ?_
          refine own_getF (pc' := 109) rfl d_apc_106 (tw_124 hw) Via.refl G1 ?_
          refine own_iload (pc' := 111) rfl d_apc_109 rfl ?_
          refine own_iconst (v := (1 : Int32)) (pc' := 112) rfl d_apc_111 rfl ?_
          refine own_ishl (pc' := 113) rfl d_apc_112 ?_
          refine own_iload_n (pc' := 114) rfl d_apc_113 rfl ?_
          refine own_iload (pc' := 116) rfl d_apc_114 rfl ?_
          refine own_isub (pc' := 117) rfl d_apc_116 ?_
          refine own_iconst (v := (1 : Int32)) (pc' := 118) rfl d_apc_117 rfl ?_
          refine own_ishl (pc' := 119) rfl d_apc_118 ?_
          refine own_acopy (pc' := 122) rfl d_apc_119 (tw_174 hw) (tw_177 hw) (tw_175 hw) (tw_176 hw) rfl rfl rfl rfl B07 B7 (own_Bys.two ds) ((own_Bys.two _).app (own_Bys.zero _)) (S := (2 * I)) (D := (2 * (cs.length + (I - F)))) (N := (2 * (E - I))) si2 sj2 se3 (by simp only [List.length_map, own_two_len]; omega) (by rw [List.length_append, List.length_replicate]; simp only [List.length_map, own_two_len, eL1]; omega) (by rcases hb'm with z | z <;> simp [z, hbs]) ?_
          intro h9 k9 B9
          have hsg2 : ((ds.drop I).take (E - I)).length = E - I := by rw [List.length_take, List.length_drop]; omega
          have e1 : ((own_ints (own_two ds)).drop (2 * I)).take (2 * (E - I)) = own_ints (own_two ((ds.drop I).take (E - I))) := by
            rw [← own_two_cut]; simp [own_ints, List.map_drop, List.map_take]
          have hl2 : (own_ints (own_two ((ds.drop I).take (E - I)))).length = 2 * (E - I) := by simp only [List.length_map, own_two_len, hsg2]
          have hl3' : (own_ints (own_two (cs ++ (ds.drop F).take (I - F)))).length = 2 * (cs.length + (I - F)) := by simp only [List.length_map, own_two_len, eL1]
          have e2 := own_put_mid (L := own_ints (own_two (cs ++ (ds.drop F).take (I - F)))) (R := own_ints (own_two ((ds.drop I).take (E - I)))) (z := .int 0) (n := 2 * (cap - (cs.length + (I - F)))) (by rw [hl2]; omega)
          rw [hl2, hl3'] at e2
          rw [e1, e2] at B9
          have hcut : ((ds.drop F).take (E - F))[I - F]? = some c := by
            rw [List.getElem?_take_of_lt (by omega), List.getElem?_drop, show F + (I - F) = I by omega, hcI]
          have qa : own_lat (cs ++ (ds.drop F).take (E - F)) = false := by
            rw [own_lat_app, ql, Bool.true_and]
            exact Bool.eq_false_iff.mpr fun z => hl (own_lat_get z hcut)
          refine own_aload_n (pc' := 123) rfl d_apc_122 rfl (by first | rfl | assumption) ?_
          refine own_dup (pc' := 124) rfl d_apc_123 (by first | rfl | assumption) ?_
          refine own_getF (pc' := 127) rfl d_apc_124 (tw_150 hw) Via.refl (G3.keep k9 nb') ?_
          refine own_iload_n (pc' := 128) rfl d_apc_127 rfl ?_
          refine own_iload (pc' := 130) rfl d_apc_128 rfl ?_
          refine own_isub (pc' := 131) rfl d_apc_130 ?_
          refine own_iadd (pc' := 132) rfl d_apc_131 ?_
          rw [hza2]
          refine own_putF (pc' := 135) rfl d_apc_132 (tw_150 hw) Via.refl (Or.inl (tw_151 hw)) (tw_111 hw) (ty := .int) (by decide) rfl rfl (G3.keep k9 nb') (E7.keep k9) (by simp [hts]) ?_
          intro h10 W10
          refine own_return rfl d_apc_135 rfl rfl ?_
          refine ⟨((((((Keep.refl _ [t, b]).trans k3 (fun z hz => Or.inl (by cases List.mem_singleton.mp hz; simp))).wr W6 (Or.inl (by simp))).trans k7 (fun z hz => Or.inl (by cases List.mem_singleton.mp hz; simp))).trans k9 (fun z hz => by cases List.mem_singleton.mp hz; exact hb'z)).wr W10 (Or.inl (by simp))), b', hb'.imp id fun z => ⟨by simp [z.1], Nat.le_trans k3.1 (Nat.le_trans (Nat.le_of_eq W6.size.symm) z.2)⟩, (E7.keep k9).wr W10, chc, by omega, hcap, (fun q => by rw [qa] at q; cases q), (G1.keep k9 nb').other W10 (Or.inr s13), ?_, ?_, (G4.keep k9 nb').other W10 (Or.inr s43), ?_⟩
          · rw [qa]; exact (G2.keep k9 nb').other W10 (Or.inr s23)
          · rw [eL]; exact (G3.keep k9 nb').same W10
          · rw [qa, eL]
            have e3 : own_ints (own_two (cs ++ (ds.drop F).take (E - F))) ++ List.replicate (2 * (cap - (cs.length + (E - F)))) (Value.int 0) = own_ints (own_two (cs ++ (ds.drop F).take (I - F))) ++ own_ints (own_two ((ds.drop I).take (E - I))) ++ List.replicate (2 * (cap - (cs.length + (I - F))) - 2 * (E - I)) (.int 0) := by
              rw [own_cut_app ds hFI hIE, ← List.append_assoc, own_two_app (cs ++ (ds.drop F).take (I - F)) ((ds.drop I).take (E - I)), show 2 * (cap - (cs.length + (I - F))) - 2 * (E - I) = 2 * (cap - (cs.length + (E - F))) by omega]
              simp only [own_ints, List.map_append]
            show own_Ary K.Z h10 b' .byte (own_ints (own_two (cs ++ (ds.drop F).take (E - F))) ++ List.replicate (2 * (cap - (cs.length + (E - F)))) (.int 0))
            rw [e3]
            exact B9.other W10 bt
    · have B0l := B0
      rw [(own_enc_lat qd).1] at B0l
      have qa : own_lat (cs ++ (ds.drop F).take (E - F)) = true := by rw [own_lat_app, ql, own_lat_cut qd]; rfl
      refine own_ifeq (pcT := 36) (pcF := 14) d_apc_11 (by decide) (by decide) rfl (fun q2 => ?_) (fun q2 => ?_)
      · exact absurd q2 (by simp)
      refine own_aload_n (pc' := 15) rfl d_apc_14 rfl (by first | rfl | assumption) ?_
      refine own_virtual0v (M' := M_svl) d_apc_15 (pc' := 18) rfl (tw_169 hw) (tw_170 hw) (tw_172 hw) (tw_171 hw) (tw_7 hw) (tw_173 hw) (by decide) rfl (own_lenOf pd_25 rfl) rfl rfl rfl rfl ES (c_svl K a0 hw x b0 _ FV) (by simp) ?_
      rintro w h3 xs3 ⟨rfl, rfl⟩
      refine own_iload_n (pc' := 19) rfl d_apc_18 rfl ?_
      refine own_aload_n (pc' := 20) rfl d_apc_19 rfl (by first | rfl | assumption) ?_
      refine own_getF (pc' := 23) rfl d_apc_20 (tw_124 hw) Via.refl F1 ?_
      refine own_aload_n (pc' := 24) rfl d_apc_23 rfl (by first | rfl | assumption) ?_
      refine own_getF (pc' := 27) rfl d_apc_24 (tw_150 hw) Via.refl F3 ?_
      refine own_iload_n (pc' := 28) rfl d_apc_27 rfl ?_
      refine own_iload_n (pc' := 29) rfl d_apc_28 rfl ?_
      refine own_isub (pc' := 30) rfl d_apc_29 ?_
      refine own_acopy (pc' := 33) rfl d_apc_30 (tw_174 hw) (tw_177 hw) (tw_175 hw) (tw_176 hw) rfl rfl rfl rfl B0l Bl (own_Bys.lat ds) ((own_Bys.lat cs).app (own_Bys.zero _)) (S := F) (D := cs.length) (N := (E - F)) hf hzc hef (by simp; omega) (by simp; omega) (by simp) ?_
      intro h4 k4 B4
      refine own_goto (pc' := 194) d_apc_33 (by decide) (by decide) ?_
      refine own_weak (fin h4 _ _ _ _ _ k4 (by simp) (by rw [qa, ql]) ?_) (fun x hx => hx) (by exact Nat.le_of_ble_eq_true rfl) (by exact Nat.le_of_ble_eq_true rfl)
      rw [ql]
      have e1 : ((own_ints (ds.map own_bt)).drop F).take (E - F) = own_ints (((ds.drop F).take (E - F)).map own_bt) := by
        simp [own_ints, List.map_drop, List.map_take]
      have hl2 : (own_ints (((ds.drop F).take (E - F)).map own_bt)).length = E - F := by simp only [List.length_map, hseg]
      have hl3 : (own_ints (cs.map own_bt)).length = cs.length := by simp
      have e2 := own_put_mid (L := own_ints (cs.map own_bt)) (R := own_ints (((ds.drop F).take (E - F)).map own_bt)) (z := .int 0) (n := cap - cs.length) (by rw [hl2]; omega)
      rw [hl2, hl3] at e2
      rw [e1, e2] at B4
      have e3 : own_ints (own_sbv (!true) (cs ++ (ds.drop F).take (E - F))) ++ List.replicate (own_uw (!true) * (cap - (cs.length + (E - F)))) (Value.int 0) = own_ints (cs.map own_bt) ++ own_ints (((ds.drop F).take (E - F)).map own_bt) ++ List.replicate (cap - cs.length - (E - F)) (.int 0) := by
        rw [own_sbv_app, Nat.sub_sub]
        simp [own_ints, own_sbv, own_uw]
      rw [e3]
      exact B4
theorem d_asq_0 : decode jdk_68_method_27_code 0 = .ok (.aload_n 1, 1) := by decide +kernel
theorem d_asq_1 : decode jdk_68_method_27_code 1 = .ok (.ifnonnull 6, 3) := by decide +kernel
theorem d_asq_7 : decode jdk_68_method_27_code 7 = .ok (.iload_n 2, 1) := by decide +kernel
theorem d_asq_8 : decode jdk_68_method_27_code 8 = .ok (.iload_n 3, 1) := by decide +kernel
theorem d_asq_9 : decode jdk_68_method_27_code 9 = .ok (.aload_n 1, 1) := by decide +kernel
theorem d_asq_10 : decode jdk_68_method_27_code 10 = .ok (.invokeinterface 47 1, 5) := by decide +kernel
theorem d_asq_15 : decode jdk_68_method_27_code 15 = .ok (.getstatic 183, 3) := by decide +kernel
theorem d_asq_18 : decode jdk_68_method_27_code 18 = .ok (.invokestatic 161, 3) := by decide +kernel
theorem d_asq_21 : decode jdk_68_method_27_code 21 = .ok (.pop, 1) := by decide +kernel
theorem d_asq_22 : decode jdk_68_method_27_code 22 = .ok (.iload_n 3, 1) := by decide +kernel
theorem d_asq_23 : decode jdk_68_method_27_code 23 = .ok (.iload_n 2, 1) := by decide +kernel
theorem d_asq_24 : decode jdk_68_method_27_code 24 = .ok (.isub, 1) := by decide +kernel
theorem d_asq_25 : decode jdk_68_method_27_code 25 = .ok (.istore 4, 2) := by decide +kernel
theorem d_asq_27 : decode jdk_68_method_27_code 27 = .ok (.aload_n 0, 1) := by decide +kernel
theorem d_asq_28 : decode jdk_68_method_27_code 28 = .ok (.aload_n 0, 1) := by decide +kernel
theorem d_asq_29 : decode jdk_68_method_27_code 29 = .ok (.getfield 79, 3) := by decide +kernel
theorem d_asq_32 : decode jdk_68_method_27_code 32 = .ok (.iload 4, 2) := by decide +kernel
theorem d_asq_34 : decode jdk_68_method_27_code 34 = .ok (.iadd, 1) := by decide +kernel
theorem d_asq_35 : decode jdk_68_method_27_code 35 = .ok (.invokevirtual 100, 3) := by decide +kernel
theorem d_asq_38 : decode jdk_68_method_27_code 38 = .ok (.aload_n 1, 1) := by decide +kernel
theorem d_asq_39 : decode jdk_68_method_27_code 39 = .ok (.instanceof 1, 3) := by decide +kernel
theorem d_asq_42 : decode jdk_68_method_27_code 42 = .ok (.ifCond .eq 16, 3) := by decide +kernel
theorem d_asq_45 : decode jdk_68_method_27_code 45 = .ok (.aload_n 0, 1) := by decide +kernel
theorem d_asq_46 : decode jdk_68_method_27_code 46 = .ok (.aload_n 1, 1) := by decide +kernel
theorem d_asq_47 : decode jdk_68_method_27_code 47 = .ok (.checkcast 1, 3) := by decide +kernel
theorem d_asq_50 : decode jdk_68_method_27_code 50 = .ok (.iload_n 2, 1) := by decide +kernel
theorem d_asq_51 : decode jdk_68_method_27_code 51 = .ok (.iload_n 3, 1) := by decide +kernel
theorem d_asq_52 : decode jdk_68_method_27_code 52 = .ok (.invokevirtual 232, 3) := by decide +kernel
theorem d_asq_55 : decode jdk_68_method_27_code 55 = .ok (.goto 10, 3) := by decide +kernel
theorem d_asq_65 : decode jdk_68_method_27_code 65 = .ok (.aload_n 0, 1) := by decide +kernel
theorem d_asq_66 : decode jdk_68_method_27_code 66 = .ok (.areturn, 1) := by decide +kernel
abbrev M_asq : own_Mi := ((⟨"java/lang/AbstractStringBuilder", "append", "(Ljava/lang/CharSequence;II)Ljava/lang/AbstractStringBuilder;"⟩ : MethodName), jdk_68_method_27_code, 5, (Option.some (FieldType.object "java/lang/AbstractStringBuilder")), ({ frames := 7, cells := 1, slots := 12, locals := 111 } : Room))
theorem pn_asq : plainFor (own_Mi.y M_asq) = true := plainFor_of_name (by first | (simp [plainName, overriddenIn]; done) | decide +kernel)
set_option maxRecDepth 65536 in
set_option maxHeartbeats 40000000 in
theorem c_asq (K : own_Cx) (a0 : Array Value) (hw : ∀ d ∈ tables_1, d.before a0 K.Z = true) (hU : own_U16 K) (rf : Value) (hrf : rf.isRef = true) (SF : Sta K.Z K.Z.heap "jdk/internal/util/Preconditions" "SIOOBE_FORMATTER" "Ljava/util/function/BiFunction;" rf) (rg : Value) (hrg : rg.isRef = true) (SG : Sta K.Z K.Z.heap "jdk/internal/util/Preconditions" "IOOBE_FORMATTER" "Ljava/util/function/BiFunction;" rg) (g : Int32) (SC : Sta K.Z K.Z.heap own_sC "COMPACT_STRINGS" "Z" (.int g)) (hg : ¬ g = 0) (t b x : Addr) (cs ds : List Int32) (cap : Nat) (f e : Int32) (F E : Nat) (h : Heap) (T : own_SB K.Z h t b cs cap) (S : own_Str K.Z h x ds) (hc : cap ≤ 6) (tb : b ≠ t) (xb : ∀ b0, Fld K.Z h x own_sC "value" "[B" (.ref b0) → b0 ≠ b) (hf : f.toInt = F) (he : e.toInt = E) (hFE : F ≤ E) (hE : E ≤ ds.length) (hdl : ds.length < 2 ^ 20) (hn : cs.length + (E - F) ≤ cap) (hco : own_lat cs = false → own_lat ds = false) :
    own_Met K M_asq #[.ref t, .ref x, .int f, .int e] [t, b] h (own_ret fun w h' xs => w = .ref t ∧ Q_apc K t b (cs ++ (ds.drop F).take (E - F)) cap h h' xs) := by
  have T' := T
  obtain ⟨E0, hcs, hle, hcap, hlat, F1, F2, F3, F4, B⟩ := T
  have hzc : (cs.length.toInt32).toInt = cs.length := own_lit _ (by omega)
  have hzd : (ds.length.toInt32).toInt = ds.length := own_lit _ (by omega)
  have hef : (e - f).toInt = ((E - F : Nat) : Int) := by rw [own_sub he hf] <;> omega
  have hza := own_nadd hzc hef (by omega)
  have hzs : ((cs.length + (E - F)).toInt32).toInt = ((cs.length + (E - F) : Nat) : Int) := own_lit _ (by omega)
  refine own_met_4_1 (M := M_asq) pn_asq rfl (by first | rfl | exact own_cat (by assumption)) (by first | rfl | exact own_cat (by assumption)) (by first | rfl | exact own_cat (by assumption)) (by first | rfl | exact own_cat (by assumption)) ?_
  refine own_aload_n (pc' := 1) rfl d_asq_0 rfl (by first | rfl | assumption) ?_
  refine own_ifnonnull_y (pc' := 7) d_asq_1 (by decide) (by decide) ?_
  refine own_iload_n (pc' := 8) rfl d_asq_7 rfl ?_
  refine own_iload_n (pc' := 9) rfl d_asq_8 rfl ?_
  refine own_aload_n (pc' := 10) rfl d_asq_9 rfl (by first | rfl | assumption) ?_
  refine own_fc0v (M' := M_sl) d_asq_10 (pc' := 15) rfl (tw_138 hw) (tw_139 hw) (tw_140 hw) rfl (tw_141 hw) (tw_49 hw) (tw_142 hw) (tw_143 hw) (tw_144 hw) (tw_7 hw) (tw_51 hw) (by decide) rfl (own_lenOf pd_21 rfl) rfl rfl rfl rfl S.1 (c_sl K a0 hw g SC hg x ds h S) (by simp) ?_
  rintro w h1 xs1 ⟨rfl, rfl⟩
  refine own_getS (pc' := 18) rfl d_asq_15 (tw_145 hw) Via.refl SG ?_
  refine own_static4v (M' := M_pft) d_asq_18 (pc' := 21) rfl (tw_147 hw) (tw_148 hw) (tw_75 hw) (tw_149 hw) (by decide) rfl (own_lenOf pd_18 rfl) rfl rfl rfl rfl (c_pft K a0 hw rg hrg f e _ _ (by omega) (by omega) (by rw [hzd]; omega)) (by simp) ?_
  rintro w h2 xs2 ⟨rfl, rfl⟩
  refine own_pop (pc' := 22) rfl d_asq_21 (by first | rfl | assumption) ?_
  refine own_iload_n (pc' := 23) rfl d_asq_22 rfl ?_
  refine own_iload_n (pc' := 24) rfl d_asq_23 rfl ?_
  refine own_isub (pc' := 25) rfl d_asq_24 ?_
  refine own_istore_4 (pc' := 27) rfl d_asq_25 (by first | exact One.u | exact One.val rfl | assumption | exact One.val (by assumption)) ?_
  refine own_aload_n (pc' := 28) rfl d_asq_27 rfl (by first | rfl | assumption) ?_
  refine own_aload_n (pc' := 29) rfl d_asq_28 rfl (by first | rfl | assumption) ?_
  refine own_getF (pc' := 32) rfl d_asq_29 (tw_150 hw) Via.refl F3 ?_
  refine own_iload (pc' := 34) rfl d_asq_32 rfl ?_
  refine own_iadd (pc' := 35) rfl d_asq_34 ?_
  rw [hza]
  refine own_virtual1n (M' := M_ens) d_asq_35 (pc' := 38) rfl (tw_152 hw) (own_decl (tw_153 hw) (tw_156 hw)) (tw_155 hw) (tw_153 hw) (tw_120 hw) (tw_156 hw) (by decide) rfl (own_lenOf pd_22 rfl) rfl rfl rfl rfl E0 (c_ens K a0 hw t b _ cs cap _ _ T' (by rw [hzs]; omega) (by rw [hzs]; omega)) (by simp) ?_
  rintro h3 xs3 rfl
  refine own_aload_n (pc' := 39) rfl d_asq_38 rfl (by first | rfl | assumption) ?_
  refine own_instY (pc' := 42) rfl d_asq_39 (tw_157 hw) (Ins.self S.1) ?_
  refine own_ifeq (pcT := 58) (pcF := 45) d_asq_42 (by decide) (by decide) rfl (fun q => ?_) (fun q => ?_)
  · exact absurd q (by decide)
  refine own_aload_n (pc' := 46) rfl d_asq_45 rfl (by first | rfl | assumption) ?_
  refine own_aload_n (pc' := 47) rfl d_asq_46 rfl (by first | rfl | assumption) ?_
  refine own_castY (pc' := 50) rfl d_asq_47 (tw_157 hw) (Ins.self S.1) ?_
  refine own_iload_n (pc' := 51) rfl d_asq_50 rfl ?_
  refine own_iload_n (pc' := 52) rfl d_asq_51 rfl ?_
  refine own_virtual3n (M' := M_apc) d_asq_52 (pc' := 55) rfl (tw_158 hw) (own_decl (tw_159 hw) (tw_162 hw)) (tw_161 hw) (tw_159 hw) (tw_120 hw) (tw_162 hw) (by decide) rfl (own_lenOf pd_31 rfl) rfl rfl rfl rfl E0 (c_apc K a0 hw hU rf hrf SF g SC hg t b x cs ds cap f e F E _ T' S hc tb xb hf he hFE hE hdl hn hco) (by simp) ?_
  rintro h4 xs4 ⟨k4, b', hb', T4⟩
  refine own_goto (pc' := 65) d_asq_55 (by decide) (by decide) ?_
  refine own_aload_n (pc' := 66) rfl d_asq_65 rfl (by first | rfl | assumption) ?_
  refine own_areturn rfl rfl (by first | rfl | assumption) d_asq_66 rfl rfl ?_
  exact ⟨rfl, k4, b', hb'.imp id fun z => ⟨by simp [z.1], z.2⟩, T4⟩
theorem d_sbq_0 : decode jdk_67_method_10_code 0 = .ok (.aload_n 0, 1) := by decide +kernel
theorem d_sbq_1 : decode jdk_67_method_10_code 1 = .ok (.aload_n 1, 1) := by decide +kernel
theorem d_sbq_2 : decode jdk_67_method_10_code 2 = .ok (.iload_n 2, 1) := by decide +kernel
theorem d_sbq_3 : decode jdk_67_method_10_code 3 = .ok (.iload_n 3, 1) := by decide +kernel
theorem d_sbq_4 : decode jdk_67_method_10_code 4 = .ok (.invokespecial 38, 3) := by decide +kernel
theorem d_sbq_7 : decode jdk_67_method_10_code 7 = .ok (.pop, 1) := by decide +kernel
theorem d_sbq_8 : decode jdk_67_method_10_code 8 = .ok (.aload_n 0, 1) := by decide +kernel
theorem d_sbq_9 : decode jdk_67_method_10_code 9 = .ok (.areturn, 1) := by decide +kernel
abbrev M_sbq : own_Mi := ((⟨"java/lang/StringBuilder", "append", "(Ljava/lang/CharSequence;II)Ljava/lang/StringBuilder;"⟩ : MethodName), jdk_67_method_10_code, 4, (Option.some (FieldType.object "java/lang/StringBuilder")), ({ frames := 8, cells := 1, slots := 12, locals := 127 } : Room))
theorem pn_sbq : plainFor (own_Mi.y M_sbq) = true := plainFor_of_name (by first | (simp [plainName, overriddenIn]; done) | decide +kernel)
set_option maxRecDepth 65536 in
set_option maxHeartbeats 40000000 in
theorem c_sbq (K : own_Cx) (a0 : Array Value) (hw : ∀ d ∈ tables_1, d.before a0 K.Z = true) (hU : own_U16 K) (rf : Value) (hrf : rf.isRef = true) (SF : Sta K.Z K.Z.heap "jdk/internal/util/Preconditions" "SIOOBE_FORMATTER" "Ljava/util/function/BiFunction;" rf) (rg : Value) (hrg : rg.isRef = true) (SG : Sta K.Z K.Z.heap "jdk/internal/util/Preconditions" "IOOBE_FORMATTER" "Ljava/util/function/BiFunction;" rg) (g : Int32) (SC : Sta K.Z K.Z.heap own_sC "COMPACT_STRINGS" "Z" (.int g)) (hg : ¬ g = 0) (t b x : Addr) (cs ds : List Int32) (cap : Nat) (f e : Int32) (F E : Nat) (h : Heap) (T : own_SB K.Z h t b cs cap) (S : own_Str K.Z h x ds) (hc : cap ≤ 6) (tb : b ≠ t) (xb : ∀ b0, Fld K.Z h x own_sC "value" "[B" (.ref b0) → b0 ≠ b) (hf : f.toInt = F) (he : e.toInt = E) (hFE : F ≤ E) (hE : E ≤ ds.length) (hdl : ds.length < 2 ^ 20) (hn : cs.length + (E - F) ≤ cap) (hco : own_lat cs = false → own_lat ds = false) :
    own_Met K M_sbq #[.ref t, .ref x, .int f, .int e] [t, b] h (own_ret fun w h' xs => w = .ref t ∧ Q_apc K t b (cs ++ (ds.drop F).take (E - F)) cap h h' xs) := by
  refine own_met_4_0 (M := M_sbq) pn_sbq rfl (by first | rfl | exact own_cat (by assumption)) (by first | rfl | exact own_cat (by assumption)) (by first | rfl | exact own_cat (by assumption)) (by first | rfl | exact own_cat (by assumption)) ?_
  refine own_aload_n (pc' := 1) rfl d_sbq_0 rfl (by first | rfl | assumption) ?_
  refine own_aload_n (pc' := 2) rfl d_sbq_1 rfl (by first | rfl | assumption) ?_
  refine own_iload_n (pc' := 3) rfl d_sbq_2 rfl ?_
  refine own_iload_n (pc' := 4) rfl d_sbq_3 rfl ?_
  refine own_up3v (M' := M_asq) d_sbq_4 (pc' := 7) rfl (by decide) (tw_133 hw) (tw_135 hw) (tw_155 hw) rfl (tw_134 hw) (tw_120 hw) (tw_137 hw) (by decide) rfl (own_lenOf pd_32 rfl) rfl rfl rfl rfl (Ins.self T.1) (c_asq K a0 hw hU rf hrf SF rg hrg SG g SC hg t b x cs ds cap f e F E h T S hc tb xb hf he hFE hE hdl hn hco) (by simp) ?_
  rintro w h1 xs ⟨rfl, k1, b', hb', T1⟩
  refine own_pop (pc' := 8) rfl d_sbq_7 (by first | rfl | assumption) ?_
  refine own_aload_n (pc' := 9) rfl d_sbq_8 rfl (by first | rfl | assumption) ?_
  refine own_areturn rfl rfl (by first | rfl | assumption) d_sbq_9 rfl rfl ?_
  exact ⟨rfl, k1, b', hb'.imp id fun z => ⟨by simp [z.1], z.2⟩, T1⟩
theorem own_ble {a b : Nat} (h : a ≤ b) : Nat.ble a b = true := Nat.ble_eq_true_of_le h
/-! the plain law: states, what is kept -/
def own_ws (c : Int32) : Bool := decide (c = 32) || decide (c = 10) || decide (c = 13) || decide (c = 9)
def own_kp (s c : Int32) : Bool := !decide (s = 0) || !own_ws c
def own_nx (s c : Int32) : Int32 := if s = 0 then (if c = 34 then 1 else 0) else if s = 2 then 1 else if c = 92 then 2 else if c = 34 then 0 else 1
def own_st (cs : List Int32) : Nat → Int32
  | 0 => 0
  | k + 1 => match cs[k]? with
    | none => own_st cs k
    | some c => own_nx (own_st cs k) c
def own_k1 (cs : List Int32) (k : Nat) : List Int32 := match cs[k]? with
  | none => []
  | some c => if own_kp (own_st cs k) c then [c] else []
def own_kpd (cs : List Int32) : Nat → List Int32
  | 0 => []
  | k + 1 => own_kpd cs k ++ own_k1 cs k
theorem own_st_s {cs : List Int32} {k : Nat} {c : Int32} (hc : cs[k]? = some c) : own_st cs (k + 1) = own_nx (own_st cs k) c := by simp only [own_st, hc]
theorem own_k1_y {cs : List Int32} {k : Nat} {c : Int32} (hc : cs[k]? = some c) (q : own_kp (own_st cs k) c = true) : own_kpd cs (k + 1) = own_kpd cs k ++ [c] := by
  show own_kpd cs k ++ own_k1 cs k = _
  simp [own_k1, hc, q]
theorem own_k1_n {cs : List Int32} {k : Nat} {c : Int32} (hc : cs[k]? = some c) (q : own_kp (own_st cs k) c = false) : own_kpd cs (k + 1) = own_kpd cs k := by
  show own_kpd cs k ++ own_k1 cs k = _
  simp [own_k1, hc, q]
theorem own_k1_le (cs : List Int32) (k : Nat) : (own_k1 cs k).length ≤ 1 := by
  unfold own_k1
  split
  · simp
  · split <;> simp
theorem own_kpd_le (cs : List Int32) : ∀ k, (own_kpd cs k).length ≤ k
  | 0 => by simp [own_kpd]
  | k + 1 => by
    have h1 := own_kpd_le cs k
    have h2 := own_k1_le cs k
    simp only [own_kpd, List.length_append]
    omega
theorem own_k1_mem {cs : List Int32} {k : Nat} {d : Int32} (hd : d ∈ own_k1 cs k) : d ∈ cs := by
  unfold own_k1 at hd
  split at hd
  · cases hd
  · rename_i c hc
    split at hd
    · cases List.mem_singleton.mp hd; exact List.mem_of_getElem? hc
    · cases hd
theorem own_kpd_mem {cs : List Int32} {d : Int32} : ∀ {k}, d ∈ own_kpd cs k → d ∈ cs
  | 0, hd => by simp [own_kpd] at hd
  | k + 1, hd => (List.mem_append.mp (show d ∈ own_kpd cs k ++ own_k1 cs k from hd)).elim own_kpd_mem own_k1_mem
theorem own_kpd_lat {cs : List Int32} {k : Nat} (q : own_lat (own_kpd cs k) = false) : own_lat cs = false := by
  cases z : own_lat cs
  · rfl
  · have : own_lat (own_kpd cs k) = true := List.all_eq_true.mpr fun c hc => List.all_eq_true.mp z c (own_kpd_mem hc)
    rw [this] at q; cases q
def own_ok (cs : List Int32) (i j : Nat) : Prop := ∀ k, i ≤ k → k < j → ∀ c, cs[k]? = some c → own_kp (own_st cs k) c = true
theorem own_kpd_cut {cs : List Int32} {i : Nat} : ∀ n, own_ok cs i (i + n) → own_kpd cs (i + n) = own_kpd cs i ++ (cs.drop i).take n
  | 0, _ => by simp
  | n + 1, h => by
    have ih := own_kpd_cut n fun k h1 h2 => h k h1 (by omega)
    cases hc : cs[i + n]? with
    | none =>
      have e : own_kpd cs (i + n + 1) = own_kpd cs (i + n) := by
        show own_kpd cs (i + n) ++ own_k1 cs (i + n) = _
        simp [own_k1, hc]
      have hl := List.getElem?_eq_none_iff.mp hc
      have t1 : (cs.drop i).take n = cs.drop i := List.take_of_length_le (by rw [List.length_drop]; omega)
      have t2 : (cs.drop i).take (n + 1) = cs.drop i := List.take_of_length_le (by rw [List.length_drop]; omega)
      rw [show i + (n + 1) = i + n + 1 by omega, e, ih, t1, t2]
    | some c =>
      rw [show i + (n + 1) = i + n + 1 by omega, own_k1_y hc (h (i + n) (by omega) (by omega) c hc), ih, List.append_assoc, List.take_add_one, List.getElem?_drop, hc]
      rfl
theorem own_kpd_cut' {cs : List Int32} {i j : Nat} (q : i ≤ j) (h : own_ok cs i j) : own_kpd cs j = own_kpd cs i ++ (cs.drop i).take (j - i) := by
  have := own_kpd_cut (cs := cs) (i := i) (j - i) (by rw [show i + (j - i) = j by omega]; exact h)
  rw [show i + (j - i) = j by omega] at this
  exact this
theorem own_ok.mono {cs : List Int32} {i j j' : Nat} (h : own_ok cs i j) (q : j' ≤ j) : own_ok cs i j' := fun k h1 h2 => h k h1 (by omega)
theorem own_ok.snoc {cs : List Int32} {i j : Nat} {c : Int32} (h : own_ok cs i j) (hc : cs[j]? = some c) (q : own_kp (own_st cs j) c = true) : own_ok cs i (j + 1) := by
  intro k h1 h2 d hd
  by_cases e : k = j
  · subst e; cases hc.symm.trans hd; exact q
  · exact h k h1 (by omega) d hd
/-! the next place of a char, or the end -/
def own_Nx (cs : List Int32) (ch : Int32) (F R : Nat) : Prop := R ≤ cs.length ∧ (∀ j, F ≤ j → j < R → cs[j]? ≠ some ch) ∧ (R = cs.length ∨ (F ≤ R ∧ cs[R]? = some ch))
theorem own_Nx.dn {cs : List Int32} {ch : Int32} {F R : Nat} (q : cs[F]? ≠ some ch) (N : own_Nx cs ch (F + 1) R) : own_Nx cs ch F R := by
  refine ⟨N.1, fun j h1 h2 => ?_, N.2.2.imp id fun z => ⟨by omega, z.2⟩⟩
  by_cases e : j = F
  · rw [e]; exact q
  · exact N.2.1 j (by omega) h2
theorem own_Nx.fin {cs : List Int32} {ch : Int32} {F : Nat} (q : cs.length ≤ F) : own_Nx cs ch F cs.length := ⟨Nat.le_refl _, fun j h1 h2 => absurd h2 (by omega), Or.inl rfl⟩
theorem own_Nx.up {cs : List Int32} {ch : Int32} {F F' R : Nat} (N : own_Nx cs ch F R) (q : F ≤ F') (q2 : F' ≤ R) : own_Nx cs ch F' R := ⟨N.1, fun j h1 h2 => N.2.1 j (by omega) h2, N.2.2.imp id fun z => ⟨q2, z.2⟩⟩
theorem own_Nx.one {cs : List Int32} {ch d : Int32} {F R : Nat} (N : own_Nx cs ch F R) (hc : cs[F]? = some d) (q : d ≠ ch) : own_Nx cs ch (F + 1) R := by
  refine ⟨N.1, fun j h1 h2 => N.2.1 j (by omega) h2, N.2.2.imp id fun z => ⟨?_, z.2⟩⟩
  by_cases e : R = F
  · rw [e, hc] at z; exact absurd (Option.some.inj z.2) q
  · omega
theorem own_ixf_nx (cs : List Int32) (ch : Int32) : ∀ k i, i + k = cs.length → (own_ixf cs ch k i = -1 ∧ own_Nx cs ch i cs.length) ∨ ∃ R : Nat, own_ixf cs ch k i = (R : Int) ∧ own_Nx cs ch i R
  | 0, i, h => Or.inl ⟨rfl, own_Nx.fin (by omega)⟩
  | k + 1, i, h => by
    by_cases hc : cs[i]? = some ch
    · refine Or.inr ⟨i, by simp [own_ixf, hc], by omega, fun j h1 h2 => absurd h2 (by omega), Or.inr ⟨Nat.le_refl _, hc⟩⟩
    · have e : own_ixf cs ch (k + 1) i = own_ixf cs ch k (i + 1) := by simp [own_ixf, hc]
      rw [e]
      rcases own_ixf_nx cs ch k (i + 1) (by omega) with ⟨q1, q2⟩ | ⟨R, q1, q2⟩
      · exact Or.inl ⟨q1, q2.dn hc⟩
      · exact Or.inr ⟨R, q1, q2.dn hc⟩
def own_Bi (cs : List Int32) (b : Int32) (I : Nat) : Prop := b.toInt < I ∨ ∃ R : Nat, b.toInt = R ∧ own_Nx cs 92 I R
theorem own_Bi.up {cs : List Int32} {b : Int32} {I I' : Nat} (h : own_Bi cs b I) (q : I ≤ I') : own_Bi cs b I' := by
  rcases h with h | ⟨R, h1, h2⟩
  · exact Or.inl (by omega)
  · by_cases z : R < I'
    · exact Or.inl (by omega)
    · exact Or.inr ⟨R, h1, h2.up q (by omega)⟩
/-! inside a string: I is the opening quote, P the place that is looked at next, no escape pending -/
def own_Sc (cs : List Int32) (I P : Nat) : Prop := I < P ∧ (∀ j, I < j → j < P → j < cs.length → own_st cs j ≠ 0) ∧ (P ≤ cs.length → own_st cs P = 1)
theorem own_sc0 {cs : List Int32} {I : Nat} (hc : cs[I]? = some 34) (hs : own_st cs I = 0) : own_Sc cs I (I + 1) := by
  refine ⟨by omega, fun j h1 h2 => absurd h2 (by omega), fun _ => ?_⟩
  rw [own_st_s hc, hs]; decide
theorem own_run {cs : List Int32} {P X : Nat} (hs : own_st cs P = 1) (hX : X ≤ cs.length) (h : ∀ j, P ≤ j → j < X → cs[j]? ≠ some 92 ∧ cs[j]? ≠ some 34) : ∀ n, P + n ≤ X → own_st cs (P + n) = 1
  | 0, _ => hs
  | n + 1, q => by
    have ih := own_run hs hX h n (by omega)
    obtain ⟨c, hc⟩ : ∃ c, cs[P + n]? = some c := ⟨cs[P + n]'(by omega), by simp [show P + n < cs.length by omega]⟩
    have hh := h (P + n) (by omega) (by omega)
    have h1 : ¬ c = 92 := fun z => hh.1 (by rw [hc, z])
    have h2 : ¬ c = 34 := fun z => hh.2 (by rw [hc, z])
    rw [show P + (n + 1) = P + n + 1 by omega, own_st_s hc, ih]
    unfold own_nx
    rw [if_neg (by decide), if_neg (by decide), if_neg h1, if_neg h2]
theorem own_sc_step {cs : List Int32} {I P B E : Nat} (h : own_Sc cs I P) (hB : own_Nx cs 92 P B) (hE : own_Nx cs 34 P E) (q : B < E) : P ≤ B ∧ own_Sc cs I (B + 2) := by
  have q1 := hE.1
  obtain ⟨hPB, hcB⟩ : P ≤ B ∧ cs[B]? = some 92 := hB.2.2.elim (fun z => by omega) id
  have r := own_run (h.2.2 (by omega)) (X := B) (by omega) fun j h1 h2 => ⟨hB.2.1 j h1 h2, hE.2.1 j h1 (by omega)⟩
  have r' : ∀ j, P ≤ j → j ≤ B → own_st cs j = 1 := fun j h1 h2 => by
    have := r (j - P) (by omega)
    rw [show P + (j - P) = j by omega] at this
    exact this
  have s1 : own_st cs (B + 1) = 2 := by rw [own_st_s hcB, r' B hPB (Nat.le_refl _)]; decide
  refine ⟨hPB, by have := h.1; omega, fun j h1 h2 h3 => ?_, fun q2 => ?_⟩
  · by_cases e : j < P
    · exact h.2.1 j h1 e h3
    · by_cases e2 : j ≤ B
      · rw [r' j (by omega) e2]; decide
      · rw [show j = B + 1 by omega, s1]; decide
  · obtain ⟨c, hc⟩ : ∃ c, cs[B + 1]? = some c := ⟨cs[B + 1]'(by omega), by simp [show B + 1 < cs.length by omega]⟩
    rw [own_st_s hc, s1]
    unfold own_nx
    rw [if_neg (by decide), if_pos rfl]
theorem own_sc_out {cs : List Int32} {I P B E : Nat} (hI : I < cs.length) (h : own_Sc cs I P) (hB : own_Nx cs 92 P B) (hE : own_Nx cs 34 P E) (q : E ≤ B) : I < E + 1 ∧ (E + 1 ≤ cs.length → own_st cs (E + 1) = 0) ∧ ∀ j, I < j → j < E + 1 → j < cs.length → own_st cs j ≠ 0 := by
  have q0 := h.1
  have q1 := hE.1
  have r' : ∀ j, P ≤ j → j ≤ E → own_st cs j = 1 := fun j h1 h2 => by
    have := own_run (h.2.2 (by omega)) (X := E) (by omega) (fun j h1 h2 => ⟨hB.2.1 j h1 (by omega), hE.2.1 j h1 h2⟩) (j - P) (by omega)
    rw [show P + (j - P) = j by omega] at this
    exact this
  refine ⟨hE.2.2.elim (fun z => by omega) (fun z => by have := z.1; omega), fun q2 => ?_, fun j h1 h2 h3 => ?_⟩
  · obtain ⟨z1, z2⟩ : P ≤ E ∧ cs[E]? = some 34 := hE.2.2.elim (fun z => by omega) id
    rw [own_st_s z2, r' E z1 (Nat.le_refl _)]; decide
  · by_cases e : j < P
    · exact h.2.1 j h1 e h3
    · rw [r' j (by omega) (by omega)]; decide
theorem own_bi_out {cs : List Int32} {b : Int32} {P B E : Nat} (hb : b.toInt = B) (hB : own_Nx cs 92 P B) (hE : own_Nx cs 34 P E) : own_Bi cs b (E + 1) := by
  rcases hE.2.2 with z | ⟨z, -⟩
  · exact Or.inl (by have := hB.1; omega)
  · exact own_Bi.up (Or.inr ⟨B, hb, hB⟩) (by omega)
theorem own_ok_str {cs : List Int32} {S I J : Nat} (h : own_ok cs S I) (hc : cs[I]? = some 34) (r : ∀ j, I < j → j < J → j < cs.length → own_st cs j ≠ 0) : own_ok cs S J := by
  intro k h1 h2 c hk
  by_cases e : k < I
  · exact h k h1 e c hk
  · by_cases e2 : k = I
    · subst e2
      cases hc.symm.trans hk
      unfold own_kp
      rw [show own_ws 34 = false by decide]
      simp
    · have := r k (by omega) h2 (List.getElem?_eq_some_iff.mp hk).1
      simp [own_kp, this]
theorem d_drw_0 : decode method_2_code 0 = .ok (.iload_n 0, 1) := by decide +kernel
theorem d_drw_1 : decode method_2_code 1 = .ok (.bipush 7, 2) := by decide +kernel
theorem d_drw_3 : decode method_2_code 3 = .ok (.iand, 1) := by decide +kernel
theorem d_drw_4 : decode method_2_code 4 = .ok (.istore_n 1, 1) := by decide +kernel
theorem d_drw_5 : decode method_2_code 5 = .ok (.iload_n 1, 1) := by decide +kernel
theorem d_drw_6 : decode method_2_code 6 = .ok (.ifCond .ne 6, 3) := by decide +kernel
theorem d_drw_9 : decode method_2_code 9 = .ok (.bipush 34, 2) := by decide +kernel
theorem d_drw_11 : decode method_2_code 11 = .ok (.ireturn, 1) := by decide +kernel
theorem d_drw_12 : decode method_2_code 12 = .ok (.iload_n 1, 1) := by decide +kernel
theorem d_drw_13 : decode method_2_code 13 = .ok (.iconst 1, 1) := by decide +kernel
theorem d_drw_14 : decode method_2_code 14 = .ok (.if_icmp .ne 6, 3) := by decide +kernel
theorem d_drw_17 : decode method_2_code 17 = .ok (.bipush 92, 2) := by decide +kernel
theorem d_drw_19 : decode method_2_code 19 = .ok (.ireturn, 1) := by decide +kernel
theorem d_drw_20 : decode method_2_code 20 = .ok (.iload_n 1, 1) := by decide +kernel
theorem d_drw_21 : decode method_2_code 21 = .ok (.iconst 2, 1) := by decide +kernel
theorem d_drw_22 : decode method_2_code 22 = .ok (.if_icmp .ne 6, 3) := by decide +kernel
theorem d_drw_25 : decode method_2_code 25 = .ok (.bipush 32, 2) := by decide +kernel
theorem d_drw_27 : decode method_2_code 27 = .ok (.ireturn, 1) := by decide +kernel
theorem d_drw_28 : decode method_2_code 28 = .ok (.iload_n 1, 1) := by decide +kernel
theorem d_drw_29 : decode method_2_code 29 = .ok (.iconst 3, 1) := by decide +kernel
theorem d_drw_30 : decode method_2_code 30 = .ok (.if_icmp .ne 6, 3) := by decide +kernel
theorem d_drw_33 : decode method_2_code 33 = .ok (.bipush 10, 2) := by decide +kernel
theorem d_drw_35 : decode method_2_code 35 = .ok (.ireturn, 1) := by decide +kernel
theorem d_drw_36 : decode method_2_code 36 = .ok (.iload_n 1, 1) := by decide +kernel
theorem d_drw_37 : decode method_2_code 37 = .ok (.iconst 4, 1) := by decide +kernel
theorem d_drw_38 : decode method_2_code 38 = .ok (.if_icmp .ne 6, 3) := by decide +kernel
theorem d_drw_41 : decode method_2_code 41 = .ok (.bipush 13, 2) := by decide +kernel
theorem d_drw_43 : decode method_2_code 43 = .ok (.ireturn, 1) := by decide +kernel
theorem d_drw_44 : decode method_2_code 44 = .ok (.iload_n 1, 1) := by decide +kernel
theorem d_drw_45 : decode method_2_code 45 = .ok (.iconst 5, 1) := by decide +kernel
theorem d_drw_46 : decode method_2_code 46 = .ok (.if_icmp .ne 6, 3) := by decide +kernel
theorem d_drw_49 : decode method_2_code 49 = .ok (.bipush 9, 2) := by decide +kernel
theorem d_drw_51 : decode method_2_code 51 = .ok (.ireturn, 1) := by decide +kernel
theorem d_drw_52 : decode method_2_code 52 = .ok (.iload_n 1, 1) := by decide +kernel
theorem d_drw_53 : decode method_2_code 53 = .ok (.bipush 6, 2) := by decide +kernel
theorem d_drw_55 : decode method_2_code 55 = .ok (.if_icmp .ne 6, 3) := by decide +kernel
theorem d_drw_58 : decode method_2_code 58 = .ok (.bipush 97, 2) := by decide +kernel
theorem d_drw_60 : decode method_2_code 60 = .ok (.ireturn, 1) := by decide +kernel
theorem d_drw_61 : decode method_2_code 61 = .ok (.iload_n 0, 1) := by decide +kernel
theorem d_drw_62 : decode method_2_code 62 = .ok (.iconst 3, 1) := by decide +kernel
theorem d_drw_63 : decode method_2_code 63 = .ok (.iushr, 1) := by decide +kernel
theorem d_drw_64 : decode method_2_code 64 = .ok (.ldc 7, 2) := by decide +kernel
theorem d_drw_66 : decode method_2_code 66 = .ok (.iand, 1) := by decide +kernel
theorem d_drw_67 : decode method_2_code 67 = .ok (.i2c, 1) := by decide +kernel
theorem d_drw_68 : decode method_2_code 68 = .ok (.ireturn, 1) := by decide +kernel
abbrev M_drw : own_Mi := ((⟨"com/example/selgen/selgen/CompactJsonOfPinLaw", "draw", "(I)C"⟩ : MethodName), method_2_code, 2, (Option.some FieldType.char), ({ frames := 0, cells := 0, slots := 0, locals := 0 } : Room))
theorem pn_drw : plainFor (own_Mi.y M_drw) = true := plainFor_of_name (by first | (simp [plainName, overriddenIn]; done) | decide +kernel)
set_option maxRecDepth 65536 in
set_option maxHeartbeats 40000000 in
theorem c_drw (K : own_Cx) (a0 : Array Value) (hw : ∀ d ∈ tables_1, d.before a0 K.Z = true) (p : Int32) (h : Heap) :
    own_Met K M_drw #[.int p] [] h (own_ret fun w h' _ => ∃ c : Int32, w = .int c ∧ 0 ≤ c.toInt ∧ c.toInt < 65536 ∧ h' = h) := by
  refine own_met_1_1 (M := M_drw) pn_drw rfl (by first | rfl | exact own_cat (by assumption)) ?_
  refine own_iload_n (pc' := 1) rfl d_drw_0 rfl ?_
  refine own_bipush (v := (7 : Int32)) (pc' := 3) rfl d_drw_1 rfl ?_
  refine own_iand (pc' := 4) rfl d_drw_3 ?_
  refine own_istore_n1 (pc' := 5) rfl d_drw_4 (by first | exact One.u | exact One.val rfl | assumption | exact One.val (by assumption)) ?_
  refine own_iload_n (pc' := 6) rfl d_drw_5 rfl ?_
  refine own_ifne (pcT := 12) (pcF := 9) d_drw_6 (by decide) (by decide) rfl (fun q0 => ?_) (fun q0 => ?_)
  rotate_left 1
  · skip
    refine own_bipush (v := (34 : Int32)) (pc' := 11) rfl d_drw_9 rfl ?_
    refine own_ireturnN (t := .char) rfl (by simp) (by first | exact own_nb0 | exact own_nb1 | rfl) d_drw_11 rfl rfl ?_
    exact ⟨_, rfl, by decide, by decide, rfl⟩
  refine own_iload_n (pc' := 13) rfl d_drw_12 rfl ?_
  refine own_iconst (v := (1 : Int32)) (pc' := 14) rfl d_drw_13 rfl ?_
  refine own_icmpne (pcT := 20) (pcF := 17) d_drw_14 (by decide) (by decide) rfl (fun q1 => ?_) (fun q1 => ?_)
  rotate_left 1
  · skip
    refine own_bipush (v := (92 : Int32)) (pc' := 19) rfl d_drw_17 rfl ?_
    refine own_ireturnN (t := .char) rfl (by simp) (by first | exact own_nb0 | exact own_nb1 | rfl) d_drw_19 rfl rfl ?_
    exact ⟨_, rfl, by decide, by decide, rfl⟩
  refine own_iload_n (pc' := 21) rfl d_drw_20 rfl ?_
  refine own_iconst (v := (2 : Int32)) (pc' := 22) rfl d_drw_21 rfl ?_
  refine own_icmpne (pcT := 28) (pcF := 25) d_drw_22 (by decide) (by decide) rfl (fun q2 => ?_) (fun q2 => ?_)
  rotate_left 1
  · skip
    refine own_bipush (v := (32 : Int32)) (pc' := 27) rfl d_drw_25 rfl ?_
    refine own_ireturnN (t := .char) rfl (by simp) (by first | exact own_nb0 | exact own_nb1 | rfl) d_drw_27 rfl rfl ?_
    exact ⟨_, rfl, by decide, by decide, rfl⟩
  refine own_iload_n (pc' := 29) rfl d_drw_28 rfl ?_
  refine own_iconst (v := (3 : Int32)) (pc' := 30) rfl d_drw_29 rfl ?_
  refine own_icmpne (pcT := 36) (pcF := 33) d_drw_30 (by decide) (by decide) rfl (fun q3 => ?_) (fun q3 => ?_)
  rotate_left 1
  · skip
    refine own_bipush (v := (10 : Int32)) (pc' := 35) rfl d_drw_33 rfl ?_
    refine own_ireturnN (t := .char) rfl (by simp) (by first | exact own_nb0 | exact own_nb1 | rfl) d_drw_35 rfl rfl ?_
    exact ⟨_, rfl, by decide, by decide, rfl⟩
  refine own_iload_n (pc' := 37) rfl d_drw_36 rfl ?_
  refine own_iconst (v := (4 : Int32)) (pc' := 38) rfl d_drw_37 rfl ?_
  refine own_icmpne (pcT := 44) (pcF := 41) d_drw_38 (by decide) (by decide) rfl (fun q4 => ?_) (fun q4 => ?_)
  rotate_left 1
  · skip
    refine own_bipush (v := (13 : Int32)) (pc' := 43) rfl d_drw_41 rfl ?_
    refine own_ireturnN (t := .char) rfl (by simp) (by first | exact own_nb0 | exact own_nb1 | rfl) d_drw_43 rfl rfl ?_
    exact ⟨_, rfl, by decide, by decide, rfl⟩
  refine own_iload_n (pc' := 45) rfl d_drw_44 rfl ?_
  refine own_iconst (v := (5 : Int32)) (pc' := 46) rfl d_drw_45 rfl ?_
  refine own_icmpne (pcT := 52) (pcF := 49) d_drw_46 (by decide) (by decide) rfl (fun q5 => ?_) (fun q5 => ?_)
  rotate_left 1
  · skip
    refine own_bipush (v := (9 : Int32)) (pc' := 51) rfl d_drw_49 rfl ?_
    refine own_ireturnN (t := .char) rfl (by simp) (by first | exact own_nb0 | exact own_nb1 | rfl) d_drw_51 rfl rfl ?_
    exact ⟨_, rfl, by decide, by decide, rfl⟩
  refine own_iload_n (pc' := 53) rfl d_drw_52 rfl ?_
  refine own_bipush (v := (6 : Int32)) (pc' := 55) rfl d_drw_53 rfl ?_
  refine own_icmpne (pcT := 61) (pcF := 58) d_drw_55 (by decide) (by decide) rfl (fun q6 => ?_) (fun q6 => ?_)
  rotate_left 1
  · skip
    refine own_bipush (v := (97 : Int32)) (pc' := 60) rfl d_drw_58 rfl ?_
    refine own_ireturnN (t := .char) rfl (by simp) (by first | exact own_nb0 | exact own_nb1 | rfl) d_drw_60 rfl rfl ?_
    exact ⟨_, rfl, by decide, by decide, rfl⟩
  refine own_iload_n (pc' := 62) rfl d_drw_61 rfl ?_
  refine own_iconst (v := (3 : Int32)) (pc' := 63) rfl d_drw_62 rfl ?_
  refine own_iushr (pc' := 64) rfl d_drw_63 ?_
  refine own_ldcI (pc' := 66) rfl d_drw_64 (tw_109 hw) ?_
  refine own_iand (pc' := 67) rfl d_drw_66 ?_
  refine own_i2c (pc' := 68) rfl d_drw_67 ?_
  refine own_ireturnN (t := .char) rfl (by simp) (own_ch_nar _) d_drw_68 rfl rfl ?_
  exact ⟨_, rfl, (own_ch_r _).1, (own_ch_r _).2, rfl⟩
theorem d_lws_0 : decode method_3_code 0 = .ok (.iload_n 0, 1) := by decide +kernel
theorem d_lws_1 : decode method_3_code 1 = .ok (.bipush 32, 2) := by decide +kernel
theorem d_lws_3 : decode method_3_code 3 = .ok (.if_icmp .eq 21, 3) := by decide +kernel
theorem d_lws_6 : decode method_3_code 6 = .ok (.iload_n 0, 1) := by decide +kernel
theorem d_lws_7 : decode method_3_code 7 = .ok (.bipush 10, 2) := by decide +kernel
theorem d_lws_9 : decode method_3_code 9 = .ok (.if_icmp .eq 15, 3) := by decide +kernel
theorem d_lws_12 : decode method_3_code 12 = .ok (.iload_n 0, 1) := by decide +kernel
theorem d_lws_13 : decode method_3_code 13 = .ok (.bipush 13, 2) := by decide +kernel
theorem d_lws_15 : decode method_3_code 15 = .ok (.if_icmp .eq 9, 3) := by decide +kernel
theorem d_lws_18 : decode method_3_code 18 = .ok (.iload_n 0, 1) := by decide +kernel
theorem d_lws_19 : decode method_3_code 19 = .ok (.bipush 9, 2) := by decide +kernel
theorem d_lws_21 : decode method_3_code 21 = .ok (.if_icmp .ne 7, 3) := by decide +kernel
theorem d_lws_24 : decode method_3_code 24 = .ok (.iconst 1, 1) := by decide +kernel
theorem d_lws_25 : decode method_3_code 25 = .ok (.goto 4, 3) := by decide +kernel
theorem d_lws_28 : decode method_3_code 28 = .ok (.iconst 0, 1) := by decide +kernel
theorem d_lws_29 : decode method_3_code 29 = .ok (.ireturn, 1) := by decide +kernel
abbrev M_lws : own_Mi := ((⟨"com/example/selgen/selgen/CompactJsonOfPinLaw", "ws", "(C)Z"⟩ : MethodName), method_3_code, 1, (Option.some FieldType.boolean), ({ frames := 0, cells := 0, slots := 0, locals := 0 } : Room))
theorem pn_lws : plainFor (own_Mi.y M_lws) = true := plainFor_of_name (by first | (simp [plainName, overriddenIn]; done) | decide +kernel)
set_option maxRecDepth 65536 in
set_option maxHeartbeats 40000000 in
theorem c_lws (K : own_Cx) (a0 : Array Value) (hw : ∀ d ∈ tables_1, d.before a0 K.Z = true) (c : Int32) (h : Heap) :
    own_Met K M_lws #[.int c] [] h (own_ret fun w h' _ => w = .int (if own_ws c then 1 else 0) ∧ h' = h) := by
  have yes : own_ws c = true → own_WP K M_lws (own_ret fun w h' _ => w = .int (if own_ws c then 1 else 0) ∧ h' = h) 24 [.val (.int c)] [] [] h 0 0 := by
    intro q
    refine own_iconst (v := (1 : Int32)) (pc' := 25) rfl d_lws_24 rfl ?_
    refine own_goto (pc' := 29) d_lws_25 (by decide) (by decide) ?_
    refine own_ireturnN (t := .boolean) rfl (by simp) (by first | exact own_nb0 | exact own_nb1 | rfl) d_lws_29 rfl rfl ?_
    exact ⟨by rw [q]; rfl, rfl⟩
  refine own_met_1_0 (M := M_lws) pn_lws rfl (by first | rfl | exact own_cat (by assumption)) ?_
  refine own_iload_n (pc' := 1) rfl d_lws_0 rfl ?_
  refine own_bipush (v := (32 : Int32)) (pc' := 3) rfl d_lws_1 rfl ?_
  refine own_icmpeq (pcT := 24) (pcF := 6) d_lws_3 (by decide) (by decide) rfl (fun q1 => ?_) (fun q1 => ?_)
  · exact yes (by simp [own_ws, q1])
  refine own_iload_n (pc' := 7) rfl d_lws_6 rfl ?_
  refine own_bipush (v := (10 : Int32)) (pc' := 9) rfl d_lws_7 rfl ?_
  refine own_icmpeq (pcT := 24) (pcF := 12) d_lws_9 (by decide) (by decide) rfl (fun q2 => ?_) (fun q2 => ?_)
  · exact yes (by simp [own_ws, q2])
  refine own_iload_n (pc' := 13) rfl d_lws_12 rfl ?_
  refine own_bipush (v := (13 : Int32)) (pc' := 15) rfl d_lws_13 rfl ?_
  refine own_icmpeq (pcT := 24) (pcF := 18) d_lws_15 (by decide) (by decide) rfl (fun q3 => ?_) (fun q3 => ?_)
  · exact yes (by simp [own_ws, q3])
  refine own_iload_n (pc' := 19) rfl d_lws_18 rfl ?_
  refine own_bipush (v := (9 : Int32)) (pc' := 21) rfl d_lws_19 rfl ?_
  refine own_icmpne (pcT := 28) (pcF := 24) d_lws_21 (by decide) (by decide) rfl (fun q4 => ?_) (fun q4 => ?_)
  · skip
    refine own_iconst (v := (0 : Int32)) (pc' := 29) rfl d_lws_28 rfl ?_
    refine own_ireturnN (t := .boolean) rfl (by simp) (by first | exact own_nb0 | exact own_nb1 | rfl) d_lws_29 rfl rfl ?_
    exact ⟨by rw [show own_ws c = false by simp [own_ws, q1, q2, q3, q4]]; rfl, rfl⟩
  · exact yes (by simp [own_ws, q4])
theorem d_kep_0 : decode method_5_code 0 = .ok (.iload_n 0, 1) := by decide +kernel
theorem d_kep_1 : decode method_5_code 1 = .ok (.ifCond .ne 10, 3) := by decide +kernel
theorem d_kep_4 : decode method_5_code 4 = .ok (.iload_n 1, 1) := by decide +kernel
theorem d_kep_5 : decode method_5_code 5 = .ok (.invokestatic 8, 3) := by decide +kernel
theorem d_kep_8 : decode method_5_code 8 = .ok (.ifCond .ne 7, 3) := by decide +kernel
theorem d_kep_11 : decode method_5_code 11 = .ok (.iconst 1, 1) := by decide +kernel
theorem d_kep_12 : decode method_5_code 12 = .ok (.goto 4, 3) := by decide +kernel
theorem d_kep_15 : decode method_5_code 15 = .ok (.iconst 0, 1) := by decide +kernel
theorem d_kep_16 : decode method_5_code 16 = .ok (.ireturn, 1) := by decide +kernel
abbrev M_kep : own_Mi := ((⟨"com/example/selgen/selgen/CompactJsonOfPinLaw", "keep", "(IC)Z"⟩ : MethodName), method_5_code, 2, (Option.some FieldType.boolean), ({ frames := 1, cells := 0, slots := 0, locals := 12 } : Room))
theorem pn_kep : plainFor (own_Mi.y M_kep) = true := plainFor_of_name (by first | (simp [plainName, overriddenIn]; done) | decide +kernel)
set_option maxRecDepth 65536 in
set_option maxHeartbeats 40000000 in
theorem c_kep (K : own_Cx) (a0 : Array Value) (hw : ∀ d ∈ tables_1, d.before a0 K.Z = true) (s c : Int32) (h : Heap) :
    own_Met K M_kep #[.int s, .int c] [] h (own_ret fun w h' _ => w = .int (if own_kp s c then 1 else 0) ∧ h' = h) := by
  refine own_met_2_0 (M := M_kep) pn_kep rfl (by first | rfl | exact own_cat (by assumption)) (by first | rfl | exact own_cat (by assumption)) ?_
  refine own_iload_n (pc' := 1) rfl d_kep_0 rfl ?_
  refine own_ifne (pcT := 11) (pcF := 4) d_kep_1 (by decide) (by decide) rfl (fun q1 => ?_) (fun q1 => ?_)
  · skip
    refine own_iconst (v := (1 : Int32)) (pc' := 12) rfl d_kep_11 rfl ?_
    refine own_goto (pc' := 16) d_kep_12 (by decide) (by decide) ?_
    refine own_ireturnN (t := .boolean) rfl (by simp) (by first | exact own_nb0 | exact own_nb1 | rfl) d_kep_16 rfl rfl ?_
    exact ⟨by rw [show own_kp s c = true by simp [own_kp, q1]]; rfl, rfl⟩
  refine own_iload_n (pc' := 5) rfl d_kep_4 rfl ?_
  refine own_static1v (M' := M_lws) d_kep_5 (pc' := 8) rfl (tw_37 hw) (tw_38 hw) (tw_3 hw) (tw_39 hw) (by decide) rfl (own_lenOf pd_29 rfl) rfl rfl rfl rfl (c_lws K a0 hw c h) (by simp) ?_
  rintro w h1 xs1 ⟨rfl, rfl⟩
  cases q : own_ws c
  · skip
    refine own_ifne (pcT := 15) (pcF := 11) d_kep_8 (by decide) (by decide) rfl (fun q2 => ?_) (fun q2 => ?_)
    · exact absurd (by simp) q2
    refine own_iconst (v := (1 : Int32)) (pc' := 12) rfl d_kep_11 rfl ?_
    refine own_goto (pc' := 16) d_kep_12 (by decide) (by decide) ?_
    refine own_ireturnN (t := .boolean) rfl (by simp) (by first | exact own_nb0 | exact own_nb1 | rfl) d_kep_16 rfl rfl ?_
    exact ⟨by rw [show own_kp s c = true by simp [own_kp, q]]; rfl, rfl⟩
  · skip
    refine own_ifne (pcT := 15) (pcF := 11) d_kep_8 (by decide) (by decide) rfl (fun q2 => ?_) (fun q2 => ?_)
    rotate_left 1
    · exact absurd q2 (by simp)
    refine own_iconst (v := (0 : Int32)) (pc' := 16) rfl d_kep_15 rfl ?_
    refine own_ireturnN (t := .boolean) rfl (by simp) (by first | exact own_nb0 | exact own_nb1 | rfl) d_kep_16 rfl rfl ?_
    exact ⟨by rw [show own_kp s c = false by simp [own_kp, q, q1]]; rfl, rfl⟩
theorem d_nxt_0 : decode method_4_code 0 = .ok (.iload_n 0, 1) := by decide +kernel
theorem d_nxt_1 : decode method_4_code 1 = .ok (.ifCond .ne 15, 3) := by decide +kernel
theorem d_nxt_4 : decode method_4_code 4 = .ok (.iload_n 1, 1) := by decide +kernel
theorem d_nxt_5 : decode method_4_code 5 = .ok (.bipush 34, 2) := by decide +kernel
theorem d_nxt_7 : decode method_4_code 7 = .ok (.if_icmp .ne 7, 3) := by decide +kernel
theorem d_nxt_10 : decode method_4_code 10 = .ok (.iconst 1, 1) := by decide +kernel
theorem d_nxt_11 : decode method_4_code 11 = .ok (.goto 4, 3) := by decide +kernel
theorem d_nxt_14 : decode method_4_code 14 = .ok (.iconst 0, 1) := by decide +kernel
theorem d_nxt_15 : decode method_4_code 15 = .ok (.ireturn, 1) := by decide +kernel
theorem d_nxt_16 : decode method_4_code 16 = .ok (.iload_n 0, 1) := by decide +kernel
theorem d_nxt_17 : decode method_4_code 17 = .ok (.iconst 2, 1) := by decide +kernel
theorem d_nxt_18 : decode method_4_code 18 = .ok (.if_icmp .ne 5, 3) := by decide +kernel
theorem d_nxt_21 : decode method_4_code 21 = .ok (.iconst 1, 1) := by decide +kernel
theorem d_nxt_22 : decode method_4_code 22 = .ok (.ireturn, 1) := by decide +kernel
theorem d_nxt_23 : decode method_4_code 23 = .ok (.iload_n 1, 1) := by decide +kernel
theorem d_nxt_24 : decode method_4_code 24 = .ok (.bipush 92, 2) := by decide +kernel
theorem d_nxt_26 : decode method_4_code 26 = .ok (.if_icmp .ne 5, 3) := by decide +kernel
theorem d_nxt_29 : decode method_4_code 29 = .ok (.iconst 2, 1) := by decide +kernel
theorem d_nxt_30 : decode method_4_code 30 = .ok (.ireturn, 1) := by decide +kernel
theorem d_nxt_31 : decode method_4_code 31 = .ok (.iload_n 1, 1) := by decide +kernel
theorem d_nxt_32 : decode method_4_code 32 = .ok (.bipush 34, 2) := by decide +kernel
theorem d_nxt_34 : decode method_4_code 34 = .ok (.if_icmp .ne 5, 3) := by decide +kernel
theorem d_nxt_37 : decode method_4_code 37 = .ok (.iconst 0, 1) := by decide +kernel
theorem d_nxt_38 : decode method_4_code 38 = .ok (.ireturn, 1) := by decide +kernel
theorem d_nxt_39 : decode method_4_code 39 = .ok (.iconst 1, 1) := by decide +kernel
theorem d_nxt_40 : decode method_4_code 40 = .ok (.ireturn, 1) := by decide +kernel
abbrev M_nxt : own_Mi := ((⟨"com/example/selgen/selgen/CompactJsonOfPinLaw", "next", "(IC)I"⟩ : MethodName), method_4_code, 2, (Option.some FieldType.int), ({ frames := 0, cells := 0, slots := 0, locals := 0 } : Room))
theorem pn_nxt : plainFor (own_Mi.y M_nxt) = true := plainFor_of_name (by first | (simp [plainName, overriddenIn]; done) | decide +kernel)
set_option maxRecDepth 65536 in
set_option maxHeartbeats 40000000 in
theorem c_nxt (K : own_Cx) (a0 : Array Value) (hw : ∀ d ∈ tables_1, d.before a0 K.Z = true) (s c : Int32) (h : Heap) :
    own_Met K M_nxt #[.int s, .int c] [] h (own_ret fun w h' _ => w = .int (own_nx s c) ∧ h' = h) := by
  refine own_met_2_0 (M := M_nxt) pn_nxt rfl (by first | rfl | exact own_cat (by assumption)) (by first | rfl | exact own_cat (by assumption)) ?_
  refine own_iload_n (pc' := 1) rfl d_nxt_0 rfl ?_
  refine own_ifne (pcT := 16) (pcF := 4) d_nxt_1 (by decide) (by decide) rfl (fun q1 => ?_) (fun q1 => ?_)
  rotate_left 1
  · skip
    refine own_iload_n (pc' := 5) rfl d_nxt_4 rfl ?_
    refine own_bipush (v := (34 : Int32)) (pc' := 7) rfl d_nxt_5 rfl ?_
    refine own_icmpne (pcT := 14) (pcF := 10) d_nxt_7 (by decide) (by decide) rfl (fun q2 => ?_) (fun q2 => ?_)
    · skip
      refine own_iconst (v := (0 : Int32)) (pc' := 15) rfl d_nxt_14 rfl ?_
      refine own_ireturn rfl d_nxt_15 rfl rfl ?_
      exact ⟨by unfold own_nx; rw [if_pos q1, if_neg q2], rfl⟩
    · skip
      refine own_iconst (v := (1 : Int32)) (pc' := 11) rfl d_nxt_10 rfl ?_
      refine own_goto (pc' := 15) d_nxt_11 (by decide) (by decide) ?_
      refine own_ireturn rfl d_nxt_15 rfl rfl ?_
      exact ⟨by unfold own_nx; rw [if_pos q1, if_pos q2], rfl⟩
  refine own_iload_n (pc' := 17) rfl d_nxt_16 rfl ?_
  refine own_iconst (v := (2 : Int32)) (pc' := 18) rfl d_nxt_17 rfl ?_
  refine own_icmpne (pcT := 23) (pcF := 21) d_nxt_18 (by decide) (by decide) rfl (fun q2 => ?_) (fun q2 => ?_)
  rotate_left 1
  · skip
    refine own_iconst (v := (1 : Int32)) (pc' := 22) rfl d_nxt_21 rfl ?_
    refine own_ireturn rfl d_nxt_22 rfl rfl ?_
    exact ⟨by unfold own_nx; rw [if_neg q1, if_pos q2], rfl⟩
  refine own_iload_n (pc' := 24) rfl d_nxt_23 rfl ?_
  refine own_bipush (v := (92 : Int32)) (pc' := 26) rfl d_nxt_24 rfl ?_
  refine own_icmpne (pcT := 31) (pcF := 29) d_nxt_26 (by decide) (by decide) rfl (fun q3 => ?_) (fun q3 => ?_)
  rotate_left 1
  · skip
    refine own_iconst (v := (2 : Int32)) (pc' := 30) rfl d_nxt_29 rfl ?_
    refine own_ireturn rfl d_nxt_30 rfl rfl ?_
    exact ⟨by unfold own_nx; rw [if_neg q1, if_neg q2, if_pos q3], rfl⟩
  refine own_iload_n (pc' := 32) rfl d_nxt_31 rfl ?_
  refine own_bipush (v := (34 : Int32)) (pc' := 34) rfl d_nxt_32 rfl ?_
  refine own_icmpne (pcT := 39) (pcF := 37) d_nxt_34 (by decide) (by decide) rfl (fun q4 => ?_) (fun q4 => ?_)
  · skip
    refine own_iconst (v := (1 : Int32)) (pc' := 40) rfl d_nxt_39 rfl ?_
    refine own_ireturn rfl d_nxt_40 rfl rfl ?_
    exact ⟨by unfold own_nx; rw [if_neg q1, if_neg q2, if_neg q3, if_neg q4], rfl⟩
  · skip
    refine own_iconst (v := (0 : Int32)) (pc' := 38) rfl d_nxt_37 rfl ?_
    refine own_ireturn rfl d_nxt_38 rfl rfl ?_
    exact ⟨by unfold own_nx; rw [if_neg q1, if_neg q2, if_neg q3, if_pos q4], rfl⟩
theorem d_atx_0 : decode method_6_code 0 = .ok (.iload_n 1, 1) := by decide +kernel
theorem d_atx_1 : decode method_6_code 1 = .ok (.iload_n 2, 1) := by decide +kernel
theorem d_atx_2 : decode method_6_code 2 = .ok (.if_icmp .ge 14, 3) := by decide +kernel
theorem d_atx_5 : decode method_6_code 5 = .ok (.aload_n 0, 1) := by decide +kernel
theorem d_atx_6 : decode method_6_code 6 = .ok (.iload_n 1, 1) := by decide +kernel
theorem d_atx_7 : decode method_6_code 7 = .ok (.invokevirtual 14, 3) := by decide +kernel
theorem d_atx_10 : decode method_6_code 10 = .ok (.aload_n 3, 1) := by decide +kernel
theorem d_atx_11 : decode method_6_code 11 = .ok (.iload_n 1, 1) := by decide +kernel
theorem d_atx_12 : decode method_6_code 12 = .ok (.caload, 1) := by decide +kernel
theorem d_atx_13 : decode method_6_code 13 = .ok (.if_icmp .ne 7, 3) := by decide +kernel
theorem d_atx_16 : decode method_6_code 16 = .ok (.iconst 1, 1) := by decide +kernel
theorem d_atx_17 : decode method_6_code 17 = .ok (.goto 4, 3) := by decide +kernel
theorem d_atx_21 : decode method_6_code 21 = .ok (.ireturn, 1) := by decide +kernel
abbrev M_atx : own_Mi := ((⟨"com/example/selgen/selgen/CompactJsonOfPinLaw", "at", "(Ljava/lang/String;II[C)Z"⟩ : MethodName), method_6_code, 4, (Option.some FieldType.boolean), ({ frames := 5, cells := 0, slots := 0, locals := 70 } : Room))
theorem pn_atx : plainFor (own_Mi.y M_atx) = true := plainFor_of_name (by first | (simp [plainName, overriddenIn]; done) | decide +kernel)
set_option maxRecDepth 65536 in
set_option maxHeartbeats 40000000 in
theorem c_atx (K : own_Cx) (a0 : Array Value) (hw : ∀ d ∈ tables_1, d.before a0 K.Z = true) (hU : own_U16 K) (g : Int32) (SC : Sta K.Z K.Z.heap own_sC "COMPACT_STRINGS" "Z" (.int g)) (hg : ¬ g = 0) (rf : Value) (hrf : rf.isRef = true) (SF : Sta K.Z K.Z.heap "jdk/internal/util/Preconditions" "SIOOBE_FORMATTER" "Ljava/util/function/BiFunction;" rf) (x a : Addr) (O : List Int32) (ws : List Value) (len i : Int32) (I : Nat) (h : Heap) (S : own_Str K.Z h x O) (A : own_Ary K.Z h a .char (own_ints O ++ ws)) (hO : O.length ≤ 6) (hl : len.toInt = O.length) (hi : i.toInt = I) :
    own_Met K M_atx #[.ref x, .int i, .int len, .ref a] [] h (own_ret fun w h' _ => w = .int 1 ∧ h' = h) := by
  have fin : ∀ sf : List Addr, own_WP K M_atx (own_ret fun w h' _ => w = .int 1 ∧ h' = h) 16 [.val (.ref x), .val (.int i), .val (.int len), .val (.ref a)] [] sf h 0 0 := by
    intro sf
    refine own_iconst (v := (1 : Int32)) (pc' := 17) rfl d_atx_16 rfl ?_
    refine own_goto (pc' := 21) d_atx_17 (by decide) (by decide) ?_
    refine own_ireturnN (t := .boolean) rfl (by simp) (by first | exact own_nb0 | exact own_nb1 | rfl) d_atx_21 rfl rfl ?_
    exact ⟨rfl, rfl⟩
  refine own_met_4_0 (M := M_atx) pn_atx rfl (by first | rfl | exact own_cat (by assumption)) (by first | rfl | exact own_cat (by assumption)) (by first | rfl | exact own_cat (by assumption)) (by first | rfl | exact own_cat (by assumption)) ?_
  refine own_iload_n (pc' := 1) rfl d_atx_0 rfl ?_
  refine own_iload_n (pc' := 2) rfl d_atx_1 rfl ?_
  refine own_icmpge (pcT := 16) (pcF := 5) d_atx_2 (by decide) (by decide) rfl (fun q => ?_) (fun q => ?_)
  · exact fin _
  rw [Int32.lt_iff_toInt_lt] at q
  obtain ⟨c, hc⟩ : ∃ c, O[I]? = some c := ⟨O[I]'(by omega), by simp [show I < O.length by omega]⟩
  refine own_aload_n (pc' := 6) rfl d_atx_5 rfl (by first | rfl | assumption) ?_
  refine own_iload_n (pc' := 7) rfl d_atx_6 rfl ?_
  refine own_virtual1v (M' := M_sca) d_atx_7 (pc' := 10) rfl (tw_108 hw) (tw_58 hw) (tw_60 hw) (tw_59 hw) (tw_7 hw) (tw_61 hw) (by decide) rfl (own_lenOf pd_28 rfl) rfl rfl rfl rfl S.1 (c_sca K a0 hw hU g SC hg rf hrf SF x O i I c h S (by omega) hi hc) (by simp) ?_
  rintro w h1 xs1 ⟨rfl, rfl⟩
  refine own_aload_n (pc' := 11) rfl d_atx_10 rfl (by first | rfl | assumption) ?_
  refine own_iload_n (pc' := 12) rfl d_atx_11 rfl ?_
  refine own_caload (pc' := 13) rfl d_atx_12 A (i := I) hi (by rw [List.getElem?_append_left (by simpa using (show I < O.length by omega))]; exact own_ints_get hc) ?_
  refine own_icmpne (pcT := 20) (pcF := 16) d_atx_13 (by decide) (by decide) rfl (fun q2 => ?_) (fun q2 => ?_)
  · exact absurd rfl q2
  exact own_weak (fin _) (fun x hx => hx) (by exact Nat.le_of_ble_eq_true rfl) (by exact Nat.le_of_ble_eq_true rfl)
theorem d_noe_0 : decode prog_3_method_3_code 0 = .ok (.iload_n 2, 1) := by decide +kernel
theorem d_noe_1 : decode prog_3_method_3_code 1 = .ok (.aload_n 0, 1) := by decide +kernel
theorem d_noe_2 : decode prog_3_method_3_code 2 = .ok (.invokevirtual 7, 3) := by decide +kernel
theorem d_noe_5 : decode prog_3_method_3_code 5 = .ok (.if_icmp .ge 12, 3) := by decide +kernel
theorem d_noe_8 : decode prog_3_method_3_code 8 = .ok (.aload_n 0, 1) := by decide +kernel
theorem d_noe_9 : decode prog_3_method_3_code 9 = .ok (.iload_n 1, 1) := by decide +kernel
theorem d_noe_10 : decode prog_3_method_3_code 10 = .ok (.iload_n 2, 1) := by decide +kernel
theorem d_noe_11 : decode prog_3_method_3_code 11 = .ok (.invokevirtual 36, 3) := by decide +kernel
theorem d_noe_14 : decode prog_3_method_3_code 14 = .ok (.goto 4, 3) := by decide +kernel
theorem d_noe_17 : decode prog_3_method_3_code 17 = .ok (.iconst (-1), 1) := by decide +kernel
theorem d_noe_18 : decode prog_3_method_3_code 18 = .ok (.istore_n 3, 1) := by decide +kernel
theorem d_noe_19 : decode prog_3_method_3_code 19 = .ok (.iload_n 3, 1) := by decide +kernel
theorem d_noe_20 : decode prog_3_method_3_code 20 = .ok (.ifCond .ge 10, 3) := by decide +kernel
theorem d_noe_23 : decode prog_3_method_3_code 23 = .ok (.aload_n 0, 1) := by decide +kernel
theorem d_noe_24 : decode prog_3_method_3_code 24 = .ok (.invokevirtual 7, 3) := by decide +kernel
theorem d_noe_27 : decode prog_3_method_3_code 27 = .ok (.goto 4, 3) := by decide +kernel
theorem d_noe_30 : decode prog_3_method_3_code 30 = .ok (.iload_n 3, 1) := by decide +kernel
theorem d_noe_31 : decode prog_3_method_3_code 31 = .ok (.ireturn, 1) := by decide +kernel
abbrev M_noe : own_Mi := ((⟨"com/example/selgen/selgen/CompactJson", "nextOrEnd", "(Ljava/lang/String;CI)I"⟩ : MethodName), prog_3_method_3_code, 4, (Option.some FieldType.int), ({ frames := 6, cells := 0, slots := 0, locals := 87 } : Room))
theorem pn_noe : plainFor (own_Mi.y M_noe) = true := plainFor_of_name (by first | (simp [plainName, overriddenIn]; done) | decide +kernel)
set_option maxRecDepth 65536 in
set_option maxHeartbeats 40000000 in
theorem c_noe (K : own_Cx) (a0 : Array Value) (hw : ∀ d ∈ tables_1, d.before a0 K.Z = true) (hU : own_U16 K) (g : Int32) (SC : Sta K.Z K.Z.heap own_sC "COMPACT_STRINGS" "Z" (.int g)) (hg : ¬ g = 0) (rf : Value) (hrf : rf.isRef = true) (SF : Sta K.Z K.Z.heap "jdk/internal/util/Preconditions" "SIOOBE_FORMATTER" "Ljava/util/function/BiFunction;" rf) (x : Addr) (cs : List Int32) (ch f : Int32) (F : Nat) (h : Heap) (S : own_Str K.Z h x cs) (hl : cs.length < 100) (c0 : 0 ≤ ch.toInt) (c1 : ch.toInt < 256) (hf : f.toInt = F) :
    own_Met K M_noe #[.ref x, .int ch, .int f] [] h (own_ret fun w h' _ => ∃ (r : Int32) (R : Nat), w = .int r ∧ r.toInt = R ∧ own_Nx cs ch F R ∧ h' = h) := by
  have v0 : (0 : Int32).toInt = 0 := rfl
  have hn : (cs.length.toInt32).toInt = cs.length := own_lit _ (by omega)
  refine own_met_3_1 (M := M_noe) pn_noe rfl (by first | rfl | exact own_cat (by assumption)) (by first | rfl | exact own_cat (by assumption)) (by first | rfl | exact own_cat (by assumption)) ?_
  refine own_iload_n (pc' := 1) rfl d_noe_0 rfl ?_
  refine own_aload_n (pc' := 2) rfl d_noe_1 rfl (by first | rfl | assumption) ?_
  refine own_virtual0v (M' := M_sl) d_noe_2 (pc' := 5) rfl (tw_47 hw) (tw_48 hw) (tw_50 hw) (tw_49 hw) (tw_7 hw) (tw_51 hw) (by decide) rfl (own_lenOf pd_21 rfl) rfl rfl rfl rfl S.1 (c_sl K a0 hw g SC hg x cs h S) (by simp) ?_
  rintro w h1 xs1 ⟨rfl, rfl⟩
  refine own_icmpge (pcT := 17) (pcF := 8) d_noe_5 (by decide) (by decide) rfl (fun q => ?_) (fun q => ?_)
  · rw [Int32.lt_iff_toInt_lt] at q
    refine own_iconst (v := (-1 : Int32)) (pc' := 18) rfl d_noe_17 rfl ?_
    refine own_istore_n3 (pc' := 19) rfl d_noe_18 (by first | exact One.u | exact One.val rfl | assumption | exact One.val (by assumption)) ?_
    refine own_iload_n (pc' := 20) rfl d_noe_19 rfl ?_
    refine own_ifge (pcT := 30) (pcF := 23) d_noe_20 (by decide) (by decide) rfl (fun q2 => ?_) (fun q2 => ?_)
    · exact absurd (by decide) q2
    refine own_aload_n (pc' := 24) rfl d_noe_23 rfl (by first | rfl | assumption) ?_
    refine own_virtual0v (M' := M_sl) d_noe_24 (pc' := 27) rfl (tw_47 hw) (tw_48 hw) (tw_50 hw) (tw_49 hw) (tw_7 hw) (tw_51 hw) (by decide) rfl (own_lenOf pd_21 rfl) rfl rfl rfl rfl S.1 (c_sl K a0 hw g SC hg x cs _ S) (by simp) ?_
    rintro w h2 xs2 ⟨rfl, rfl⟩
    refine own_goto (pc' := 31) d_noe_27 (by decide) (by decide) ?_
    refine own_ireturn rfl d_noe_31 rfl rfl ?_
    exact ⟨_, cs.length, rfl, hn, own_Nx.fin (by omega), rfl⟩
  rw [Int32.lt_iff_toInt_lt] at q
  refine own_aload_n (pc' := 9) rfl d_noe_8 rfl (by first | rfl | assumption) ?_
  refine own_iload_n (pc' := 10) rfl d_noe_9 rfl ?_
  refine own_iload_n (pc' := 11) rfl d_noe_10 rfl ?_
  refine own_virtual2v (M' := M_six) d_noe_11 (pc' := 14) rfl (tw_82 hw) (tw_83 hw) (tw_85 hw) (tw_84 hw) (tw_7 hw) (tw_86 hw) (by decide) rfl (own_lenOf pd_14 rfl) rfl rfl rfl rfl S.1 (c_six K a0 hw hU rf hrf SF g SC hg x cs ch f F _ S (by omega) c0 c1 hf (by omega)) (by simp) ?_
  rintro w h2 xs2 ⟨r, rfl, hr, rfl⟩
  refine own_goto (pc' := 18) d_noe_14 (by decide) (by decide) ?_
  refine own_istore_n3 (pc' := 19) rfl d_noe_18 (by first | exact One.u | exact One.val rfl | assumption | exact One.val (by assumption)) ?_
  refine own_iload_n (pc' := 20) rfl d_noe_19 rfl ?_
  rcases own_ixf_nx cs ch (cs.length - F) F (by omega) with ⟨e, hN⟩ | ⟨R, e, hN⟩
  · have hr1 : r.toInt = -1 := by rw [hr]; exact e
    refine own_ifge (pcT := 30) (pcF := 23) d_noe_20 (by decide) (by decide) rfl (fun q2 => ?_) (fun q2 => ?_)
    · exact absurd (by rw [Int32.lt_iff_toInt_lt]; omega) q2
    refine own_aload_n (pc' := 24) rfl d_noe_23 rfl (by first | rfl | assumption) ?_
    refine own_virtual0v (M' := M_sl) d_noe_24 (pc' := 27) rfl (tw_47 hw) (tw_48 hw) (tw_50 hw) (tw_49 hw) (tw_7 hw) (tw_51 hw) (by decide) rfl (own_lenOf pd_21 rfl) rfl rfl rfl rfl S.1 (c_sl K a0 hw g SC hg x cs _ S) (by simp) ?_
    rintro w h3 xs3 ⟨rfl, rfl⟩
    refine own_goto (pc' := 31) d_noe_27 (by decide) (by decide) ?_
    refine own_ireturn rfl d_noe_31 rfl rfl ?_
    exact ⟨_, cs.length, rfl, hn, hN, rfl⟩
  · have hr1 : r.toInt = (R : Int) := by rw [hr]; exact e
    refine own_ifge (pcT := 30) (pcF := 23) d_noe_20 (by decide) (by decide) rfl (fun q2 => ?_) (fun q2 => ?_)
    rotate_left 1
    · rw [Int32.lt_iff_toInt_lt] at q2
      omega
    refine own_iload_n (pc' := 31) rfl d_noe_30 rfl ?_
    refine own_ireturn rfl d_noe_31 rfl rfl ?_
    exact ⟨r, R, rfl, hr1, hN, rfl⟩
theorem d_of_0 : decode prog_3_method_2_code 0 = .ok (.aload_n 0, 1) := by decide +kernel
theorem d_of_1 : decode prog_3_method_2_code 1 = .ok (.invokevirtual 7, 3) := by decide +kernel
theorem d_of_4 : decode prog_3_method_2_code 4 = .ok (.istore_n 1, 1) := by decide +kernel
theorem d_of_5 : decode prog_3_method_2_code 5 = .ok (.aconst_null, 1) := by decide +kernel
theorem d_of_6 : decode prog_3_method_2_code 6 = .ok (.astore_n 2, 1) := by decide +kernel
theorem d_of_7 : decode prog_3_method_2_code 7 = .ok (.iconst 0, 1) := by decide +kernel
theorem d_of_8 : decode prog_3_method_2_code 8 = .ok (.istore_n 3, 1) := by decide +kernel
theorem d_of_9 : decode prog_3_method_2_code 9 = .ok (.iconst (-1), 1) := by decide +kernel
theorem d_of_10 : decode prog_3_method_2_code 10 = .ok (.istore 4, 2) := by decide +kernel
theorem d_of_12 : decode prog_3_method_2_code 12 = .ok (.iconst 0, 1) := by decide +kernel
theorem d_of_13 : decode prog_3_method_2_code 13 = .ok (.istore 5, 2) := by decide +kernel
theorem d_of_15 : decode prog_3_method_2_code 15 = .ok (.iload 5, 2) := by decide +kernel
theorem d_of_17 : decode prog_3_method_2_code 17 = .ok (.iload_n 1, 1) := by decide +kernel
theorem d_of_18 : decode prog_3_method_2_code 18 = .ok (.if_icmp .ge 155, 3) := by decide +kernel
theorem d_of_21 : decode prog_3_method_2_code 21 = .ok (.aload_n 0, 1) := by decide +kernel
theorem d_of_22 : decode prog_3_method_2_code 22 = .ok (.iload 5, 2) := by decide +kernel
theorem d_of_24 : decode prog_3_method_2_code 24 = .ok (.invokevirtual 13, 3) := by decide +kernel
theorem d_of_27 : decode prog_3_method_2_code 27 = .ok (.istore 6, 2) := by decide +kernel
theorem d_of_29 : decode prog_3_method_2_code 29 = .ok (.iload 6, 2) := by decide +kernel
theorem d_of_31 : decode prog_3_method_2_code 31 = .ok (.bipush 34, 2) := by decide +kernel
theorem d_of_33 : decode prog_3_method_2_code 33 = .ok (.if_icmp .ne 75, 3) := by decide +kernel
theorem d_of_36 : decode prog_3_method_2_code 36 = .ok (.iload 4, 2) := by decide +kernel
theorem d_of_38 : decode prog_3_method_2_code 38 = .ok (.iload 5, 2) := by decide +kernel
theorem d_of_40 : decode prog_3_method_2_code 40 = .ok (.if_icmp .ge 13, 3) := by decide +kernel
theorem d_of_43 : decode prog_3_method_2_code 43 = .ok (.aload_n 0, 1) := by decide +kernel
theorem d_of_44 : decode prog_3_method_2_code 44 = .ok (.bipush 92, 2) := by decide +kernel
theorem d_of_46 : decode prog_3_method_2_code 46 = .ok (.iload 5, 2) := by decide +kernel
theorem d_of_48 : decode prog_3_method_2_code 48 = .ok (.invokestatic 17, 3) := by decide +kernel
theorem d_of_51 : decode prog_3_method_2_code 51 = .ok (.istore 4, 2) := by decide +kernel
theorem d_of_53 : decode prog_3_method_2_code 53 = .ok (.aload_n 0, 1) := by decide +kernel
theorem d_of_54 : decode prog_3_method_2_code 54 = .ok (.bipush 34, 2) := by decide +kernel
theorem d_of_56 : decode prog_3_method_2_code 56 = .ok (.iload 5, 2) := by decide +kernel
theorem d_of_58 : decode prog_3_method_2_code 58 = .ok (.iconst 1, 1) := by decide +kernel
theorem d_of_59 : decode prog_3_method_2_code 59 = .ok (.iadd, 1) := by decide +kernel
theorem d_of_60 : decode prog_3_method_2_code 60 = .ok (.invokestatic 17, 3) := by decide +kernel
theorem d_of_63 : decode prog_3_method_2_code 63 = .ok (.istore 7, 2) := by decide +kernel
theorem d_of_65 : decode prog_3_method_2_code 65 = .ok (.iload 4, 2) := by decide +kernel
theorem d_of_67 : decode prog_3_method_2_code 67 = .ok (.iload 7, 2) := by decide +kernel
theorem d_of_69 : decode prog_3_method_2_code 69 = .ok (.if_icmp .ge 30, 3) := by decide +kernel
theorem d_of_72 : decode prog_3_method_2_code 72 = .ok (.aload_n 0, 1) := by decide +kernel
theorem d_of_73 : decode prog_3_method_2_code 73 = .ok (.bipush 34, 2) := by decide +kernel
theorem d_of_75 : decode prog_3_method_2_code 75 = .ok (.iload 4, 2) := by decide +kernel
theorem d_of_77 : decode prog_3_method_2_code 77 = .ok (.iconst 2, 1) := by decide +kernel
theorem d_of_78 : decode prog_3_method_2_code 78 = .ok (.iadd, 1) := by decide +kernel
theorem d_of_79 : decode prog_3_method_2_code 79 = .ok (.invokestatic 17, 3) := by decide +kernel
theorem d_of_82 : decode prog_3_method_2_code 82 = .ok (.istore 7, 2) := by decide +kernel
theorem d_of_84 : decode prog_3_method_2_code 84 = .ok (.aload_n 0, 1) := by decide +kernel
theorem d_of_85 : decode prog_3_method_2_code 85 = .ok (.bipush 92, 2) := by decide +kernel
theorem d_of_87 : decode prog_3_method_2_code 87 = .ok (.iload 4, 2) := by decide +kernel
theorem d_of_89 : decode prog_3_method_2_code 89 = .ok (.iconst 2, 1) := by decide +kernel
theorem d_of_90 : decode prog_3_method_2_code 90 = .ok (.iadd, 1) := by decide +kernel
theorem d_of_91 : decode prog_3_method_2_code 91 = .ok (.invokestatic 17, 3) := by decide +kernel
theorem d_of_94 : decode prog_3_method_2_code 94 = .ok (.istore 4, 2) := by decide +kernel
theorem d_of_96 : decode prog_3_method_2_code 96 = .ok (.goto (-31), 3) := by decide +kernel
theorem d_of_99 : decode prog_3_method_2_code 99 = .ok (.iload 7, 2) := by decide +kernel
theorem d_of_101 : decode prog_3_method_2_code 101 = .ok (.iconst 1, 1) := by decide +kernel
theorem d_of_102 : decode prog_3_method_2_code 102 = .ok (.iadd, 1) := by decide +kernel
theorem d_of_103 : decode prog_3_method_2_code 103 = .ok (.istore 5, 2) := by decide +kernel
theorem d_of_105 : decode prog_3_method_2_code 105 = .ok (.goto 65, 3) := by decide +kernel
theorem d_of_108 : decode prog_3_method_2_code 108 = .ok (.iload 6, 2) := by decide +kernel
theorem d_of_110 : decode prog_3_method_2_code 110 = .ok (.bipush 32, 2) := by decide +kernel
theorem d_of_112 : decode prog_3_method_2_code 112 = .ok (.if_icmp .eq 24, 3) := by decide +kernel
theorem d_of_115 : decode prog_3_method_2_code 115 = .ok (.iload 6, 2) := by decide +kernel
theorem d_of_117 : decode prog_3_method_2_code 117 = .ok (.bipush 10, 2) := by decide +kernel
theorem d_of_119 : decode prog_3_method_2_code 119 = .ok (.if_icmp .eq 17, 3) := by decide +kernel
theorem d_of_122 : decode prog_3_method_2_code 122 = .ok (.iload 6, 2) := by decide +kernel
theorem d_of_124 : decode prog_3_method_2_code 124 = .ok (.bipush 13, 2) := by decide +kernel
theorem d_of_126 : decode prog_3_method_2_code 126 = .ok (.if_icmp .eq 10, 3) := by decide +kernel
theorem d_of_129 : decode prog_3_method_2_code 129 = .ok (.iload 6, 2) := by decide +kernel
theorem d_of_131 : decode prog_3_method_2_code 131 = .ok (.bipush 9, 2) := by decide +kernel
theorem d_of_133 : decode prog_3_method_2_code 133 = .ok (.if_icmp .ne 34, 3) := by decide +kernel
theorem d_of_136 : decode prog_3_method_2_code 136 = .ok (.aload_n 2, 1) := by decide +kernel
theorem d_of_137 : decode prog_3_method_2_code 137 = .ok (.ifnonnull 12, 3) := by decide +kernel
theorem d_of_140 : decode prog_3_method_2_code 140 = .ok (.new 23, 3) := by decide +kernel
theorem d_of_143 : decode prog_3_method_2_code 143 = .ok (.dup, 1) := by decide +kernel
theorem d_of_144 : decode prog_3_method_2_code 144 = .ok (.iload_n 1, 1) := by decide +kernel
theorem d_of_145 : decode prog_3_method_2_code 145 = .ok (.invokespecial 25, 3) := by decide +kernel
theorem d_of_148 : decode prog_3_method_2_code 148 = .ok (.astore_n 2, 1) := by decide +kernel
theorem d_of_149 : decode prog_3_method_2_code 149 = .ok (.aload_n 2, 1) := by decide +kernel
theorem d_of_150 : decode prog_3_method_2_code 150 = .ok (.aload_n 0, 1) := by decide +kernel
theorem d_of_151 : decode prog_3_method_2_code 151 = .ok (.iload_n 3, 1) := by decide +kernel
theorem d_of_152 : decode prog_3_method_2_code 152 = .ok (.iload 5, 2) := by decide +kernel
theorem d_of_154 : decode prog_3_method_2_code 154 = .ok (.invokevirtual 28, 3) := by decide +kernel
theorem d_of_157 : decode prog_3_method_2_code 157 = .ok (.pop, 1) := by decide +kernel
theorem d_of_158 : decode prog_3_method_2_code 158 = .ok (.iinc 5 1, 3) := by decide +kernel
theorem d_of_161 : decode prog_3_method_2_code 161 = .ok (.iload 5, 2) := by decide +kernel
theorem d_of_163 : decode prog_3_method_2_code 163 = .ok (.istore_n 3, 1) := by decide +kernel
theorem d_of_164 : decode prog_3_method_2_code 164 = .ok (.goto 6, 3) := by decide +kernel
theorem d_of_167 : decode prog_3_method_2_code 167 = .ok (.iinc 5 1, 3) := by decide +kernel
theorem d_of_170 : decode prog_3_method_2_code 170 = .ok (.goto (-155), 3) := by decide +kernel
theorem d_of_173 : decode prog_3_method_2_code 173 = .ok (.aload_n 2, 1) := by decide +kernel
theorem d_of_174 : decode prog_3_method_2_code 174 = .ok (.ifnonnull 7, 3) := by decide +kernel
theorem d_of_177 : decode prog_3_method_2_code 177 = .ok (.aload_n 0, 1) := by decide +kernel
theorem d_of_178 : decode prog_3_method_2_code 178 = .ok (.goto 13, 3) := by decide +kernel
theorem d_of_181 : decode prog_3_method_2_code 181 = .ok (.aload_n 2, 1) := by decide +kernel
theorem d_of_182 : decode prog_3_method_2_code 182 = .ok (.aload_n 0, 1) := by decide +kernel
theorem d_of_183 : decode prog_3_method_2_code 183 = .ok (.iload_n 3, 1) := by decide +kernel
theorem d_of_184 : decode prog_3_method_2_code 184 = .ok (.iload_n 1, 1) := by decide +kernel
theorem d_of_185 : decode prog_3_method_2_code 185 = .ok (.invokevirtual 28, 3) := by decide +kernel
theorem d_of_188 : decode prog_3_method_2_code 188 = .ok (.invokevirtual 32, 3) := by decide +kernel
theorem d_of_191 : decode prog_3_method_2_code 191 = .ok (.areturn, 1) := by decide +kernel
abbrev M_of : own_Mi := ((⟨"com/example/selgen/selgen/CompactJson", "of", "(Ljava/lang/String;)Ljava/lang/String;"⟩ : MethodName), prog_3_method_2_code, 8, (Option.some (FieldType.object "java/lang/String")), ({ frames := 9, cells := 11, slots := 110, locals := 142 } : Room))
theorem pn_of : plainFor (own_Mi.y M_of) = true := plainFor_of_name (by first | (simp [plainName, overriddenIn]; done) | decide +kernel)
def Q_of (K : own_Cx) (cs : List Int32) (x : Addr) (h : Heap) : Value → Heap → List Addr → Prop := fun w h' _ => ∃ z : Addr, w = .ref z ∧ Ext h h' ∧ own_Str K.Z h' z (own_kpd cs cs.length) ∧ ((own_kpd cs cs.length).length = cs.length → z = x)
set_option maxRecDepth 65536 in
set_option maxHeartbeats 40000000 in
theorem c_ofs (K : own_Cx) (a0 : Array Value) (hw : ∀ d ∈ tables_1, d.before a0 K.Z = true) (hU : own_U16 K) (g : Int32) (SC : Sta K.Z K.Z.heap own_sC "COMPACT_STRINGS" "Z" (.int g)) (hg : ¬ g = 0) (rf : Value) (hrf : rf.isRef = true) (SF : Sta K.Z K.Z.heap "jdk/internal/util/Preconditions" "SIOOBE_FORMATTER" "Ljava/util/function/BiFunction;" rf) (Q : own_Q) (x : Addr) (cs : List Int32) (hl : cs.length ≤ 6) (n : Int32) (o2 : Slot) (s b i : Int32) (o7 : Slot) (S0 I : Nat) (hh : Heap) (sf : List Addr) (cc ss : Nat) (hcc : cc ≤ 8) (hss : ss ≤ 82) (ho7 : One o7) (hi : i.toInt = I) (hcI : cs[I]? = some 34) (hst : own_st cs I = 0) (hok : own_ok cs S0 I) (hbi : own_Bi cs b I) (SS : own_Str K.Z hh x cs)
    (kk : ∀ (b' i' : Int32) (o7' : Slot) (I' : Nat), One o7' → i'.toInt = I' → I < I' → (I' ≤ cs.length → own_st cs I' = 0) → own_ok cs S0 I' → own_Bi cs b' I' → own_WP K M_of Q 15 [.val (.ref x), .val (.int n), o2, .val (.int s), .val (.int b'), .val (.int i'), .val (.int 34), o7'] [] sf hh cc ss) :
    own_WP K M_of Q 36 [.val (.ref x), .val (.int n), o2, .val (.int s), .val (.int b), .val (.int i), .val (.int 34), o7] [] sf hh cc ss := by
  have v1 : (1 : Int32).toInt = 1 := rfl
  have v2 : (2 : Int32).toInt = 2 := rfl
  have hIl : I < cs.length := (List.getElem?_eq_some_iff.mp hcI).1
  have hi1 : (i + 1).toInt = ((I + 1 : Nat) : Int) := by rw [own_add hi v1] <;> omega
  have out : ∀ (P B E : Nat) (b e : Int32), own_Sc cs I P → b.toInt = B → own_Nx cs 92 P B → e.toInt = E → own_Nx cs 34 P E → E ≤ B → own_WP K M_of Q 65 [.val (.ref x), .val (.int n), o2, .val (.int s), .val (.int b), .val (.int i), .val (.int 34), .val (.int e)] [] sf hh cc ss := by
    intro P B E b e hP hb hB he hE q
    obtain ⟨r1, r2, r3⟩ := own_sc_out hIl hP hB hE q
    have q1 := hE.1
    have he1 : (e + 1).toInt = ((E + 1 : Nat) : Int) := by rw [own_add he v1] <;> omega
    refine own_iload (pc' := 67) rfl d_of_65 rfl ?_
    refine own_iload (pc' := 69) rfl d_of_67 rfl ?_
    refine own_icmpge (pcT := 99) (pcF := 72) d_of_69 (by decide) (by decide) rfl (fun z => ?_) (fun z => ?_)
    rotate_left 1
    · rw [Int32.lt_iff_toInt_lt] at z
      omega
    refine own_iload (pc' := 101) rfl d_of_99 rfl ?_
    refine own_iconst (v := (1 : Int32)) (pc' := 102) rfl d_of_101 rfl ?_
    refine own_iadd (pc' := 103) rfl d_of_102 ?_
    refine own_istore_5 (pc' := 105) rfl d_of_103 (by first | exact One.u | exact One.val rfl | assumption | exact One.val (by assumption)) ?_
    refine own_goto (pc' := 170) d_of_105 (by decide) (by decide) ?_
    refine own_goto (pc' := 15) d_of_170 (by decide) (by decide) ?_
    exact kk b (e + 1) _ (E + 1) (One.val rfl) he1 r1 r2 (own_ok_str hok hcI r3) (own_bi_out hb hB hE)
  have inner : ∀ (k P B E : Nat) (b e : Int32), cs.length + 2 ≤ P + k → own_Sc cs I P → b.toInt = B → own_Nx cs 92 P B → e.toInt = E → own_Nx cs 34 P E → own_WP K M_of Q 65 [.val (.ref x), .val (.int n), o2, .val (.int s), .val (.int b), .val (.int i), .val (.int 34), .val (.int e)] [] sf hh cc ss := by
    intro k
    induction k with
    | zero =>
      intro P B E b e hk hP hb hB he hE
      have q1 := hE.1
      have q2 : B = cs.length := hB.2.2.elim id (fun z => by have := hB.1; have := z.1; omega)
      exact out P B E b e hP hb hB he hE (by omega)
    | succ k ih =>
      intro P B E b e hk hP hb hB he hE
      by_cases q : B < E
      rotate_left 1
      · exact out P B E b e hP hb hB he hE (by omega)
      obtain ⟨r1, r2⟩ := own_sc_step hP hB hE q
      have q1 := hE.1
      have hb2 : (b + 2).toInt = ((B + 2 : Nat) : Int) := by rw [own_add hb v2] <;> omega
      refine own_iload (pc' := 67) rfl d_of_65 rfl ?_
      refine own_iload (pc' := 69) rfl d_of_67 rfl ?_
      refine own_icmpge (pcT := 99) (pcF := 72) d_of_69 (by decide) (by decide) rfl (fun z => ?_) (fun z => ?_)
      · exact absurd (by rw [Int32.lt_iff_toInt_lt]; omega) z
      refine own_aload_n (pc' := 73) rfl d_of_72 rfl (by first | rfl | assumption) ?_
      refine own_bipush (v := (34 : Int32)) (pc' := 75) rfl d_of_73 rfl ?_
      refine own_iload (pc' := 77) rfl d_of_75 rfl ?_
      refine own_iconst (v := (2 : Int32)) (pc' := 78) rfl d_of_77 rfl ?_
      refine own_iadd (pc' := 79) rfl d_of_78 ?_
      refine own_static3v (M' := M_noe) d_of_79 (pc' := 82) rfl (tw_79 hw) (tw_80 hw) (tw_45 hw) (tw_81 hw) (by decide) rfl (own_lenOf pd_33 rfl) rfl rfl (own_ble (by show cc + 0 ≤ 11; omega)) (own_ble (by show ss + 0 ≤ 110; omega)) (c_noe K a0 hw hU g SC hg rf hrf SF x cs 34 (b + 2) (B + 2) _ SS (by omega) (by decide) (by decide) hb2) (by simp) ?_
      rintro w h6 xs6 ⟨e', E', rfl, he', hE', rfl⟩
      refine own_istore_7 (pc' := 84) rfl d_of_82 (by first | exact One.u | exact One.val rfl | assumption | exact One.val (by assumption)) ?_
      refine own_aload_n (pc' := 85) rfl d_of_84 rfl (by first | rfl | assumption) ?_
      refine own_bipush (v := (92 : Int32)) (pc' := 87) rfl d_of_85 rfl ?_
      refine own_iload (pc' := 89) rfl d_of_87 rfl ?_
      refine own_iconst (v := (2 : Int32)) (pc' := 90) rfl d_of_89 rfl ?_
      refine own_iadd (pc' := 91) rfl d_of_90 ?_
      refine own_static3v (M' := M_noe) d_of_91 (pc' := 94) rfl (tw_79 hw) (tw_80 hw) (tw_45 hw) (tw_81 hw) (by decide) rfl (own_lenOf pd_33 rfl) rfl rfl (own_ble (by show cc + 0 + 0 ≤ 11; omega)) (own_ble (by show ss + 0 + 0 ≤ 110; omega)) (c_noe K a0 hw hU g SC hg rf hrf SF x cs 92 (b + 2) (B + 2) _ SS (by omega) (by decide) (by decide) hb2) (by simp) ?_
      rintro w h7 xs7 ⟨b', B', rfl, hb', hB', rfl⟩
      refine own_istore_4 (pc' := 96) rfl d_of_94 (by first | exact One.u | exact One.val rfl | assumption | exact One.val (by assumption)) ?_
      refine own_goto (pc' := 65) d_of_96 (by decide) (by decide) ?_
      exact own_weak (ih (B + 2) B' E' b' e' (by omega) r2 hb' hB' he' hE') (fun z hz => by simp [hz]) (by show cc + 0 + 0 ≤ cc; omega) (by show ss + 0 + 0 ≤ ss; omega)
  have at53 : ∀ (b : Int32) (B : Nat), b.toInt = B → own_Nx cs 92 I B → own_WP K M_of Q 53 [.val (.ref x), .val (.int n), o2, .val (.int s), .val (.int b), .val (.int i), .val (.int 34), o7] [] sf hh cc ss := by
    intro b B hb hB
    refine own_aload_n (pc' := 54) rfl d_of_53 rfl (by first | rfl | assumption) ?_
    refine own_bipush (v := (34 : Int32)) (pc' := 56) rfl d_of_54 rfl ?_
    refine own_iload (pc' := 58) rfl d_of_56 rfl ?_
    refine own_iconst (v := (1 : Int32)) (pc' := 59) rfl d_of_58 rfl ?_
    refine own_iadd (pc' := 60) rfl d_of_59 ?_
    refine own_static3v (M' := M_noe) d_of_60 (pc' := 63) rfl (tw_79 hw) (tw_80 hw) (tw_45 hw) (tw_81 hw) (by decide) rfl (own_lenOf pd_33 rfl) rfl rfl (own_ble (by show cc + 0 ≤ 11; omega)) (own_ble (by show ss + 0 ≤ 110; omega)) (c_noe K a0 hw hU g SC hg rf hrf SF x cs 34 (i + 1) (I + 1) _ SS (by omega) (by decide) (by decide) hi1) (by simp) ?_
    rintro w h5 xs5 ⟨e, E, rfl, he, hE, rfl⟩
    refine own_istore_7 (pc' := 65) rfl d_of_63 (by first | exact One.u | exact One.val rfl | assumption | exact One.val (by assumption)) ?_
    exact own_weak (inner (cs.length + 2) (I + 1) B E b e (by omega) (own_sc0 hcI hst) hb (hB.one hcI (by decide)) he hE) (fun z hz => by simp [hz]) (by show cc + 0 ≤ cc; omega) (by show ss + 0 ≤ ss; omega)
  refine own_iload (pc' := 38) rfl d_of_36 rfl ?_
  refine own_iload (pc' := 40) rfl d_of_38 rfl ?_
  refine own_icmpge (pcT := 53) (pcF := 43) d_of_40 (by decide) (by decide) rfl (fun z => ?_) (fun z => ?_)
  · rw [Int32.lt_iff_toInt_lt] at z
    obtain ⟨B, hb, hB⟩ : ∃ R : Nat, b.toInt = R ∧ own_Nx cs 92 I R := hbi.elim (fun q => by omega) id
    exact at53 b B hb hB
  · skip
    refine own_aload_n (pc' := 44) rfl d_of_43 rfl (by first | rfl | assumption) ?_
    refine own_bipush (v := (92 : Int32)) (pc' := 46) rfl d_of_44 rfl ?_
    refine own_iload (pc' := 48) rfl d_of_46 rfl ?_
    refine own_static3v (M' := M_noe) d_of_48 (pc' := 51) rfl (tw_79 hw) (tw_80 hw) (tw_45 hw) (tw_81 hw) (by decide) rfl (own_lenOf pd_33 rfl) rfl rfl (own_ble (by show cc + 0 ≤ 11; omega)) (own_ble (by show ss + 0 ≤ 110; omega)) (c_noe K a0 hw hU g SC hg rf hrf SF x cs 92 i I _ SS (by omega) (by decide) (by decide) hi) (by simp) ?_
    rintro w h5 xs5 ⟨b', B, rfl, hb, hB, rfl⟩
    refine own_istore_4 (pc' := 53) rfl d_of_51 (by first | exact One.u | exact One.val rfl | assumption | exact One.val (by assumption)) ?_
    exact own_weak (at53 b' B hb hB) (fun z hz => by simp [hz]) (by show cc + 0 ≤ cc; omega) (by show ss + 0 ≤ ss; omega)
set_option maxRecDepth 65536 in
set_option maxHeartbeats 40000000 in
theorem c_of (K : own_Cx) (a0 : Array Value) (hw : ∀ d ∈ tables_1, d.before a0 K.Z = true) (hU : own_U16 K) (g : Int32) (SC : Sta K.Z K.Z.heap own_sC "COMPACT_STRINGS" "Z" (.int g)) (hg : ¬ g = 0) (rf : Value) (hrf : rf.isRef = true) (SF : Sta K.Z K.Z.heap "jdk/internal/util/Preconditions" "SIOOBE_FORMATTER" "Ljava/util/function/BiFunction;" rf) (rg : Value) (hrg : rg.isRef = true) (SG : Sta K.Z K.Z.heap "jdk/internal/util/Preconditions" "IOOBE_FORMATTER" "Ljava/util/function/BiFunction;" rg) (x : Addr) (cs : List Int32) (h : Heap) (S : own_Str K.Z h x cs) (hl : cs.length ≤ 6) :
    own_Met K M_of #[.ref x] [] h (own_ret (Q_of K cs x h)) := by
  have v1 : (1 : Int32).toInt = 1 := rfl
  have hn : (cs.length.toInt32).toInt = cs.length := own_lit _ (by omega)
  have xb : ∀ (d : Addr) (hh : Heap), Ext h hh → @LE.le Nat _ h.size d → ∀ b0, Fld K.Z hh x own_sC "value" "[B" (.ref b0) → b0 ≠ d := by
    intro d hh E hd b0 F0
    obtain ⟨-, -, -, b00, FV, -, BB⟩ := S
    have e := own_fld_inj (FV.ext E) F0
    cases e
    have : @LT.lt Nat _ _ _ := BB.lt
    exact own_ne (by omega)
  have hbd : ∀ t d : Addr, @LE.le Nat _ h.size t → @LE.le Nat _ h.size d → ∀ z ∈ [t, d], h.size ≤ z := by
    intro t d ht hd z hz
    simp only [List.mem_cons, List.not_mem_nil, or_false] at hz
    rcases hz with rfl | rfl
    · exact ht
    · exact hd
  have up : ∀ {h' : Heap} {t d d' : Addr} {xs : List Addr}, Ext h h' → @LE.le Nat _ h.size d → d ≠ t → @LT.lt Nat _ t h'.size → (d' = d ∨ (d' ∈ xs ∧ h'.size ≤ d')) → (@LE.le Nat _ h.size d' ∧ d' ≠ t) ∧ ∀ L : List Addr, d ∈ L → d' ∈ xs ++ L := by
    intro h' t d d' xs E hd hn hb hh
    rcases hh with rfl | ⟨m, z⟩
    · exact ⟨⟨hd, hn⟩, fun L hL => List.mem_append_right _ hL⟩
    · have := E.1
      exact ⟨⟨Nat.le_trans this z, own_ne (by omega)⟩, fun L _ => List.mem_append_left _ m⟩
  have dec : ∀ (o2 o7 : Slot) (s b i c : Int32) (hh : Heap) (sf : List Addr) (cc ss : Nat), (own_ws c = true → own_WP K M_of (own_ret (Q_of K cs x h)) 136 [.val (.ref x), .val (.int cs.length.toInt32), o2, .val (.int s), .val (.int b), .val (.int i), .val (.int c), o7] [] sf hh cc ss) → (own_ws c = false → own_WP K M_of (own_ret (Q_of K cs x h)) 167 [.val (.ref x), .val (.int cs.length.toInt32), o2, .val (.int s), .val (.int b), .val (.int i), .val (.int c), o7] [] sf hh cc ss) → own_WP K M_of (own_ret (Q_of K cs x h)) 108 [.val (.ref x), .val (.int cs.length.toInt32), o2, .val (.int s), .val (.int b), .val (.int i), .val (.int c), o7] [] sf hh cc ss := by
    intro o2 o7 s b i c hh sf cc ss ky kn
    refine own_iload (pc' := 110) rfl d_of_108 rfl ?_
    refine own_bipush (v := (32 : Int32)) (pc' := 112) rfl d_of_110 rfl ?_
    refine own_icmpeq (pcT := 136) (pcF := 115) d_of_112 (by decide) (by decide) rfl (fun q1 => ?_) (fun q1 => ?_)
    · exact ky (by simp [own_ws, q1])
    refine own_iload (pc' := 117) rfl d_of_115 rfl ?_
    refine own_bipush (v := (10 : Int32)) (pc' := 119) rfl d_of_117 rfl ?_
    refine own_icmpeq (pcT := 136) (pcF := 122) d_of_119 (by decide) (by decide) rfl (fun q2 => ?_) (fun q2 => ?_)
    · exact ky (by simp [own_ws, q2])
    refine own_iload (pc' := 124) rfl d_of_122 rfl ?_
    refine own_bipush (v := (13 : Int32)) (pc' := 126) rfl d_of_124 rfl ?_
    refine own_icmpeq (pcT := 136) (pcF := 129) d_of_126 (by decide) (by decide) rfl (fun q3 => ?_) (fun q3 => ?_)
    · exact ky (by simp [own_ws, q3])
    refine own_iload (pc' := 131) rfl d_of_129 rfl ?_
    refine own_bipush (v := (9 : Int32)) (pc' := 133) rfl d_of_131 rfl ?_
    refine own_icmpne (pcT := 167) (pcF := 136) d_of_133 (by decide) (by decide) rfl (fun q4 => ?_) (fun q4 => ?_)
    · exact kn (by simp [own_ws, q1, q2, q3, q4])
    · exact ky (by simp [own_ws, q4])
  have out1 : ∀ (I S0 : Nat) (i s b : Int32) (t d : Addr) (o6 o7 : Slot) (hh : Heap) (sf : List Addr), cs.length ≤ I → i.toInt = I → s.toInt = S0 → S0 ≤ cs.length → own_ok cs S0 I → t ∈ sf → d ∈ sf → @LE.le Nat _ h.size t → @LE.le Nat _ h.size d → d ≠ t → Ext h hh → own_SB K.Z hh t d (own_kpd cs S0) cs.length → (own_kpd cs S0).length < S0 → own_WP K M_of (own_ret (Q_of K cs x h)) 15 [.val (.ref x), .val (.int cs.length.toInt32), .val (.ref t), .val (.int s), .val (.int b), .val (.int i), o6, o7] [] sf hh (2 + S0) (10 + 12 * S0) := by
    intro I S0 i s b t d o6 o7 hh sf hI hi hs hS hok hts hds hzt hzd nd EE TT hlt
    have SS := S.ext EE
    have e1 := own_kpd_cut' hS (hok.mono hI)
    have hlen : (own_kpd cs cs.length).length < cs.length := by
      rw [e1, List.length_append, List.length_take, List.length_drop]; omega
    refine own_iload (pc' := 17) rfl d_of_15 rfl ?_
    refine own_iload_n (pc' := 18) rfl d_of_17 rfl ?_
    refine own_icmpge (pcT := 173) (pcF := 21) d_of_18 (by decide) (by decide) rfl (fun q => ?_) (fun q => ?_)
    rotate_left 1
    · rw [Int32.lt_iff_toInt_lt] at q
      omega
    refine own_aload_n (pc' := 174) rfl d_of_173 rfl (by first | rfl | assumption) ?_
    refine own_ifnonnull_y (pc' := 181) d_of_174 (by decide) (by decide) ?_
    refine own_aload_n (pc' := 182) rfl d_of_181 rfl (by first | rfl | assumption) ?_
    refine own_aload_n (pc' := 183) rfl d_of_182 rfl (by first | rfl | assumption) ?_
    refine own_iload_n (pc' := 184) rfl d_of_183 rfl ?_
    refine own_iload_n (pc' := 185) rfl d_of_184 rfl ?_
    refine own_virtual3v (M' := M_sbq) d_of_185 (pc' := 188) rfl (tw_128 hw) (tw_129 hw) (tw_131 hw) (tw_130 hw) (tw_112 hw) (tw_132 hw) (by decide) rfl (own_lenOf pd_34 rfl) rfl rfl (own_ble (by show 2 + S0 + 1 ≤ 11; omega)) (own_ble (by show 10 + 12 * S0 + 12 ≤ 110; omega)) TT.1 (c_sbq K a0 hw hU rf hrf SF rg hrg SG g SC hg t d x (own_kpd cs S0) cs cs.length s _ S0 cs.length hh TT SS hl nd (xb d hh EE hzd) hs hn hS (Nat.le_refl _) (by omega) (by omega) own_kpd_lat) (own_mem2 hts hds) ?_
    rintro w h5 xs5 ⟨rfl, k5, d5, hd5, T5⟩
    rw [← e1] at T5
    have E5 := own_ext_keep EE k5 (hbd _ _ hzt hzd)
    refine own_virtual0v (M' := M_tos) d_of_188 (pc' := 191) rfl (tw_178 hw) (tw_179 hw) (tw_181 hw) (tw_180 hw) (tw_112 hw) (tw_182 hw) (by decide) rfl (own_lenOf pd_35 rfl) rfl rfl (own_ble (by show 2 + S0 + 1 + 2 ≤ 11; omega)) (own_ble (by show 10 + 12 * S0 + 12 + 16 ≤ 110; omega)) T5.1 (c_tos K a0 hw g SC hg t d5 _ cs.length _ T5 hlen (by omega)) (by simp) ?_
    rintro w h6 xs6 ⟨z, rfl, E6, hz6, S6⟩
    refine own_areturn rfl rfl (by first | rfl | assumption) d_of_191 (own_ble (by show 2 + S0 + 1 + 2 ≤ 11; omega)) (own_ble (by show 10 + 12 * S0 + 12 + 16 ≤ 110; omega)) ?_
    exact ⟨z, rfl, own_ext_trans E5 E6, S6, fun q => absurd q (by omega)⟩
  have key1 : ∀ (k I S0 : Nat) (i s b : Int32) (t d : Addr) (o6 o7 : Slot) (hh : Heap) (sf : List Addr), cs.length + 1 ≤ I + k → i.toInt = I → s.toInt = S0 → S0 ≤ I → S0 ≤ cs.length → (I ≤ cs.length → own_st cs I = 0) → own_ok cs S0 I → own_Bi cs b I → One o6 → One o7 → t ∈ sf → d ∈ sf → @LE.le Nat _ h.size t → @LE.le Nat _ h.size d → d ≠ t → Ext h hh → own_SB K.Z hh t d (own_kpd cs S0) cs.length → (own_kpd cs S0).length < S0 → own_WP K M_of (own_ret (Q_of K cs x h)) 15 [.val (.ref x), .val (.int cs.length.toInt32), .val (.ref t), .val (.int s), .val (.int b), .val (.int i), o6, o7] [] sf hh (2 + S0) (10 + 12 * S0) := by
    intro k
    induction k with
    | zero =>
      intro I S0 i s b t d o6 o7 hh sf hk hi hs hSI hS hst hok hbi ho6 ho7 hts hds hzt hzd nd EE TT hlt
      exact out1 I S0 i s b t d o6 o7 hh sf (by omega) hi hs hS hok hts hds hzt hzd nd EE TT hlt
    | succ k ih =>
      intro I S0 i s b t d o6 o7 hh sf hk hi hs hSI hS hst hok hbi ho6 ho7 hts hds hzt hzd nd EE TT hlt
      by_cases hI : I < cs.length
      rotate_left 1
      · exact out1 I S0 i s b t d o6 o7 hh sf (by omega) hi hs hS hok hts hds hzt hzd nd EE TT hlt
      have SS := S.ext EE
      have hst0 := hst (by omega)
      obtain ⟨c, hc⟩ : ∃ c, cs[I]? = some c := ⟨cs[I], by simp [hI]⟩
      have hi1 : (i + 1).toInt = ((I + 1 : Nat) : Int) := by rw [own_add hi v1] <;> omega
      refine own_iload (pc' := 17) rfl d_of_15 rfl ?_
      refine own_iload_n (pc' := 18) rfl d_of_17 rfl ?_
      refine own_icmpge (pcT := 173) (pcF := 21) d_of_18 (by decide) (by decide) rfl (fun q => ?_) (fun q => ?_)
      · exact absurd (by rw [Int32.lt_iff_toInt_lt]; omega) q
      refine own_aload_n (pc' := 22) rfl d_of_21 rfl (by first | rfl | assumption) ?_
      refine own_iload (pc' := 24) rfl d_of_22 rfl ?_
      refine own_virtual1v (M' := M_sca) d_of_24 (pc' := 27) rfl (tw_57 hw) (tw_58 hw) (tw_60 hw) (tw_59 hw) (tw_7 hw) (tw_61 hw) (by decide) rfl (own_lenOf pd_28 rfl) rfl rfl (own_ble (by show 2 + S0 + 0 ≤ 11; omega)) (own_ble (by show 10 + 12 * S0 + 0 ≤ 110; omega)) SS.1 (c_sca K a0 hw hU g SC hg rf hrf SF x cs i I c _ SS (by omega) hi hc) (by simp) ?_
      rintro w h4 xs4 ⟨rfl, rfl⟩
      refine own_istore_6 (pc' := 29) rfl d_of_27 (by first | exact One.u | exact One.val rfl | assumption | exact One.val (by assumption)) ?_
      refine own_iload (pc' := 31) rfl d_of_29 rfl ?_
      refine own_bipush (v := (34 : Int32)) (pc' := 33) rfl d_of_31 rfl ?_
      refine own_icmpne (pcT := 108) (pcF := 36) d_of_33 (by decide) (by decide) rfl (fun q2 => ?_) (fun q2 => ?_)
      rotate_left 1
      · subst q2
        refine own_weak (c_ofs K a0 hw hU g SC hg rf hrf SF _ x cs hl _ _ s b i o7 S0 I _ sf (2 + S0) (10 + 12 * S0) (by omega) (by omega) ho7 hi hc hst0 hok hbi SS ?_) (fun z hz => by simp [hz]) (by show 2 + S0 + 0 ≤ 2 + S0; omega) (by show 10 + 12 * S0 + 0 ≤ 10 + 12 * S0; omega)
        intro b' i' o7' I' g1 g2 g3 g4 g5 g6
        exact ih I' S0 i' s b' t d _ o7' _ sf (by omega) g2 hs (by omega) hS g4 g5 g6 (One.val rfl) g1 hts hds hzt hzd nd EE TT hlt
      have st1 : own_st cs (I + 1) = 0 := by
        rw [own_st_s hc, hst0]; unfold own_nx; rw [if_pos rfl, if_neg q2]
      refine dec _ _ _ _ _ _ _ _ _ _ (fun w1 => ?_) (fun w1 => ?_)
      · have kf : own_kp (own_st cs I) c = false := by rw [hst0]; simp [own_kp, w1]
        have ltt : @LT.lt Nat _ _ _ := TT.1.lt
        refine own_aload_n (pc' := 137) rfl d_of_136 rfl (by first | rfl | assumption) ?_
        refine own_ifnonnull_y (pc' := 149) d_of_137 (by decide) (by decide) ?_
        refine own_aload_n (pc' := 150) rfl d_of_149 rfl (by first | rfl | assumption) ?_
        refine own_aload_n (pc' := 151) rfl d_of_150 rfl (by first | rfl | assumption) ?_
        refine own_iload_n (pc' := 152) rfl d_of_151 rfl ?_
        refine own_iload (pc' := 154) rfl d_of_152 rfl ?_
        refine own_virtual3v (M' := M_sbq) d_of_154 (pc' := 157) rfl (tw_128 hw) (tw_129 hw) (tw_131 hw) (tw_130 hw) (tw_112 hw) (tw_132 hw) (by decide) rfl (own_lenOf pd_34 rfl) rfl rfl (own_ble (by show 2 + S0 + 0 + 1 ≤ 11; omega)) (own_ble (by show 10 + 12 * S0 + 0 + 12 ≤ 110; omega)) TT.1 (c_sbq K a0 hw hU rf hrf SF rg hrg SG g SC hg t d x (own_kpd cs S0) cs cs.length s i S0 I _ TT SS hl nd (xb d _ EE hzd) hs hi hSI (by omega) (by omega) (by omega) own_kpd_lat) (own_mem2 (by simp [hts]) (by simp [hds])) ?_
        rintro w h5 xs5 ⟨rfl, k5, d5, hd5, T5⟩
        have u5 := up EE hzd nd ltt hd5
        have E5 := own_ext_keep EE k5 (hbd _ _ hzt hzd)
        rw [← own_kpd_cut' hSI hok, ← own_k1_n hc kf] at T5
        have h3 : (own_kpd cs (I + 1)).length < I + 1 := by
          rw [own_k1_n hc kf]
          have := own_kpd_le cs I
          omega
        refine own_pop (pc' := 158) rfl d_of_157 (by first | rfl | assumption) ?_
        refine own_iinc_5 (z := (1 : Int32)) (pc' := 161) rfl d_of_158 rfl ?_
        refine own_iload (pc' := 163) rfl d_of_161 rfl ?_
        refine own_istore_n3 (pc' := 164) rfl d_of_163 (by first | exact One.u | exact One.val rfl | assumption | exact One.val (by assumption)) ?_
        refine own_goto (pc' := 170) d_of_164 (by decide) (by decide) ?_
        refine own_goto (pc' := 15) d_of_170 (by decide) (by decide) ?_
        exact own_weak (ih (I + 1) (I + 1) (i + 1) (i + 1) b t d5 _ o7 h5 _ (by omega) hi1 hi1 (Nat.le_refl _) (by omega) (fun _ => st1) (fun k z1 z2 => absurd z2 (by omega)) (hbi.up (by omega)) (One.val rfl) ho7 (by simp [hts]) (u5.2 _ (by simp [hds])) hzt u5.1.1 u5.1.2 E5 T5 h3) (fun z hz => hz) (by show 2 + S0 + 0 + 1 ≤ 2 + (I + 1); omega) (by show 10 + 12 * S0 + 0 + 12 ≤ 10 + 12 * (I + 1); omega)
      · have kt : own_kp (own_st cs I) c = true := by simp [own_kp, w1]
        refine own_iinc_5 (z := (1 : Int32)) (pc' := 170) rfl d_of_167 rfl ?_
        refine own_goto (pc' := 15) d_of_170 (by decide) (by decide) ?_
        exact own_weak (ih (I + 1) S0 (i + 1) s b t d _ o7 _ sf (by omega) hi1 hs (by omega) hS (fun _ => st1) (hok.snoc hc kt) (hbi.up (by omega)) (One.val rfl) ho7 hts hds hzt hzd nd EE TT hlt) (fun z hz => by simp [hz]) (by show 2 + S0 + 0 ≤ 2 + S0; omega) (by show 10 + 12 * S0 + 0 ≤ 10 + 12 * S0; omega)
  have out0 : ∀ (I : Nat) (i b : Int32) (o6 o7 : Slot) (sf : List Addr), cs.length ≤ I → i.toInt = I → own_ok cs 0 I → own_WP K M_of (own_ret (Q_of K cs x h)) 15 [.val (.ref x), .val (.int cs.length.toInt32), .val .null, .val (.int 0), .val (.int b), .val (.int i), o6, o7] [] sf h 0 0 := by
    intro I i b o6 o7 sf hI hi hok
    have e1 := own_kpd_cut' (Nat.zero_le _) (hok.mono hI)
    have e2 : own_kpd cs cs.length = cs := by
      rw [e1, Nat.sub_zero, List.drop_zero, List.take_length]; rfl
    refine own_iload (pc' := 17) rfl d_of_15 rfl ?_
    refine own_iload_n (pc' := 18) rfl d_of_17 rfl ?_
    refine own_icmpge (pcT := 173) (pcF := 21) d_of_18 (by decide) (by decide) rfl (fun q => ?_) (fun q => ?_)
    rotate_left 1
    · rw [Int32.lt_iff_toInt_lt] at q
      omega
    refine own_aload_n (pc' := 174) rfl d_of_173 rfl (by first | rfl | assumption) ?_
    refine own_ifnonnull_n (pc' := 177) rfl d_of_174 ?_
    refine own_aload_n (pc' := 178) rfl d_of_177 rfl (by first | rfl | assumption) ?_
    refine own_goto (pc' := 191) d_of_178 (by decide) (by decide) ?_
    refine own_areturn rfl rfl (by first | rfl | assumption) d_of_191 rfl rfl ?_
    exact ⟨x, rfl, own_ext_refl _, by rw [e2]; exact S, fun _ => rfl⟩
  have key0 : ∀ (k I : Nat) (i b : Int32) (o6 o7 : Slot) (sf : List Addr), cs.length + 1 ≤ I + k → i.toInt = I → (I ≤ cs.length → own_st cs I = 0) → own_ok cs 0 I → own_Bi cs b I → One o6 → One o7 → own_WP K M_of (own_ret (Q_of K cs x h)) 15 [.val (.ref x), .val (.int cs.length.toInt32), .val .null, .val (.int 0), .val (.int b), .val (.int i), o6, o7] [] sf h 0 0 := by
    intro k
    induction k with
    | zero =>
      intro I i b o6 o7 sf hk hi hst hok hbi ho6 ho7
      exact out0 I i b o6 o7 sf (by omega) hi hok
    | succ k ih =>
      intro I i b o6 o7 sf hk hi hst hok hbi ho6 ho7
      by_cases hI : I < cs.length
      rotate_left 1
      · exact out0 I i b o6 o7 sf (by omega) hi hok
      have hst0 := hst (by omega)
      obtain ⟨c, hc⟩ : ∃ c, cs[I]? = some c := ⟨cs[I], by simp [hI]⟩
      have hi1 : (i + 1).toInt = ((I + 1 : Nat) : Int) := by rw [own_add hi v1] <;> omega
      refine own_iload (pc' := 17) rfl d_of_15 rfl ?_
      refine own_iload_n (pc' := 18) rfl d_of_17 rfl ?_
      refine own_icmpge (pcT := 173) (pcF := 21) d_of_18 (by decide) (by decide) rfl (fun q => ?_) (fun q => ?_)
      · exact absurd (by rw [Int32.lt_iff_toInt_lt]; omega) q
      refine own_aload_n (pc' := 22) rfl d_of_21 rfl (by first | rfl | assumption) ?_
      refine own_iload (pc' := 24) rfl d_of_22 rfl ?_
      refine own_virtual1v (M' := M_sca) d_of_24 (pc' := 27) rfl (tw_57 hw) (tw_58 hw) (tw_60 hw) (tw_59 hw) (tw_7 hw) (tw_61 hw) (by decide) rfl (own_lenOf pd_28 rfl) rfl rfl rfl rfl S.1 (c_sca K a0 hw hU g SC hg rf hrf SF x cs i I c _ S (by omega) hi hc) (by simp) ?_
      rintro w h4 xs4 ⟨rfl, rfl⟩
      refine own_istore_6 (pc' := 29) rfl d_of_27 (by first | exact One.u | exact One.val rfl | assumption | exact One.val (by assumption)) ?_
      refine own_iload (pc' := 31) rfl d_of_29 rfl ?_
      refine own_bipush (v := (34 : Int32)) (pc' := 33) rfl d_of_31 rfl ?_
      refine own_icmpne (pcT := 108) (pcF := 36) d_of_33 (by decide) (by decide) rfl (fun q2 => ?_) (fun q2 => ?_)
      rotate_left 1
      · subst q2
        refine own_weak (c_ofs K a0 hw hU g SC hg rf hrf SF _ x cs hl _ _ 0 b i o7 0 I _ sf 0 0 (by omega) (by omega) ho7 hi hc hst0 hok hbi S ?_) (fun z hz => by simp [hz]) (by exact Nat.le_of_ble_eq_true rfl) (by exact Nat.le_of_ble_eq_true rfl)
        intro b' i' o7' I' g1 g2 g3 g4 g5 g6
        exact ih I' i' b' _ o7' sf (by omega) g2 g4 g5 g6 (One.val rfl) g1
      have st1 : own_st cs (I + 1) = 0 := by
        rw [own_st_s hc, hst0]; unfold own_nx; rw [if_pos rfl, if_neg q2]
      refine dec _ _ _ _ _ _ _ _ _ _ (fun w1 => ?_) (fun w1 => ?_)
      · have kf : own_kp (own_st cs I) c = false := by rw [hst0]; simp [own_kp, w1]
        refine own_aload_n (pc' := 137) rfl d_of_136 rfl (by first | rfl | assumption) ?_
        refine own_ifnonnull_n (pc' := 140) rfl d_of_137 ?_
        refine own_new (pc' := 143) rfl d_of_140 (tw_110 hw) (tw_111 hw) (tw_112 hw) rfl rfl ?_
        intro t h5 et E5 X5 D5
        have G1 := D5 (Or.inl (tw_125 hw)) (ty := .array .byte) (by decide)
        have G2 := D5 (Or.inl (tw_127 hw)) (ty := .byte) (by decide)
        have G3 := D5 (Or.inl (tw_151 hw)) (ty := .int) (by decide)
        have G4 := D5 (Or.inl (tw_290 hw)) (ty := .boolean) (by decide)
        have lt5 : @LT.lt Nat _ _ _ := X5.lt
        have zt : @LE.le Nat _ h4.size t := by omega
        refine own_dup (pc' := 144) rfl d_of_143 (by first | rfl | assumption) ?_
        refine own_iload_n (pc' := 145) rfl d_of_144 rfl ?_
        refine own_special1n (M' := M_sbi) d_of_145 (pc' := 148) rfl rfl rfl (tw_113 hw) (tw_114 hw) (tw_112 hw) (tw_115 hw) (by decide) rfl (own_lenOf pd_22 rfl) rfl rfl rfl rfl (c_sbi K a0 hw g SC hg t _ cs.length h5 hn hl X5 G1 G2 G3 G4) (by simp) ?_
        rintro h6 xs6 ⟨k6, d6, hd6, hz6, T6⟩
        have E6 := own_ext_keep E5 k6 (by intro z hz; cases List.mem_singleton.mp hz; exact zt)
        have S6 := S.ext E6
        have lt6 : @LT.lt Nat _ _ _ := T6.1.lt
        have e5s := E5.1
        have zd : @LE.le Nat _ h4.size d6 := by omega
        have nd : d6 ≠ t := own_ne (by omega)
        refine own_astore_n2 (pc' := 149) rfl d_of_148 (by first | exact One.u | exact One.val rfl | assumption | exact One.val (by assumption)) (by first | rfl | assumption) ?_
        refine own_aload_n (pc' := 150) rfl d_of_149 rfl (by first | rfl | assumption) ?_
        refine own_aload_n (pc' := 151) rfl d_of_150 rfl (by first | rfl | assumption) ?_
        refine own_iload_n (pc' := 152) rfl d_of_151 rfl ?_
        refine own_iload (pc' := 154) rfl d_of_152 rfl ?_
        refine own_virtual3v (M' := M_sbq) d_of_154 (pc' := 157) rfl (tw_128 hw) (tw_129 hw) (tw_131 hw) (tw_130 hw) (tw_112 hw) (tw_132 hw) (by decide) rfl (own_lenOf pd_34 rfl) rfl rfl rfl rfl T6.1 (c_sbq K a0 hw hU rf hrf SF rg hrg SG g SC hg t d6 x [] cs cs.length 0 i 0 I h6 T6 S6 hl nd (xb d6 h6 E6 zd) rfl hi (Nat.zero_le _) (by omega) (by omega) (by simp; omega) (fun q => absurd q (by decide))) (own_mem2 (by simp) (by simp [hd6])) ?_
        rintro w h7 xs7 ⟨rfl, k7, d7, hd7, T7⟩
        have u7 := up E6 zd nd lt6 hd7
        have E7 := own_ext_keep E6 k7 (hbd _ _ zt zd)
        have e7 : ([] : List Int32) ++ (cs.drop 0).take (I - 0) = own_kpd cs (I + 1) := by
          rw [own_k1_n hc kf]; exact (own_kpd_cut' (Nat.zero_le _) hok).symm
        rw [e7] at T7
        have h3 : (own_kpd cs (I + 1)).length < I + 1 := by
          rw [own_k1_n hc kf]
          have := own_kpd_le cs I
          omega
        refine own_pop (pc' := 158) rfl d_of_157 (by first | rfl | assumption) ?_
        refine own_iinc_5 (z := (1 : Int32)) (pc' := 161) rfl d_of_158 rfl ?_
        refine own_iload (pc' := 163) rfl d_of_161 rfl ?_
        refine own_istore_n3 (pc' := 164) rfl d_of_163 (by first | exact One.u | exact One.val rfl | assumption | exact One.val (by assumption)) ?_
        refine own_goto (pc' := 170) d_of_164 (by decide) (by decide) ?_
        refine own_goto (pc' := 15) d_of_170 (by decide) (by decide) ?_
        exact own_weak (key1 k (I + 1) (I + 1) (i + 1) (i + 1) b t d7 _ o7 h7 _ (by omega) hi1 hi1 (Nat.le_refl _) (by omega) (fun _ => st1) (fun k z1 z2 => absurd z2 (by omega)) (hbi.up (by omega)) (One.val rfl) ho7 (by simp) (u7.2 _ (by simp [hd6])) zt u7.1.1 u7.1.2 E7 T7 h3) (fun z hz => hz) (by show 0 + 0 + 1 + 1 + 1 ≤ 2 + (I + 1); omega) (by show 0 + 0 + 4 + 6 + 12 ≤ 10 + 12 * (I + 1); omega)
      · have kt : own_kp (own_st cs I) c = true := by simp [own_kp, w1]
        refine own_iinc_5 (z := (1 : Int32)) (pc' := 170) rfl d_of_167 rfl ?_
        refine own_goto (pc' := 15) d_of_170 (by decide) (by decide) ?_
        exact own_weak (ih (I + 1) (i + 1) b _ o7 sf (by omega) hi1 (fun _ => st1) (hok.snoc hc kt) (hbi.up (by omega)) (One.val rfl) ho7) (fun z hz => by simp [hz]) (by exact Nat.le_of_ble_eq_true rfl) (by exact Nat.le_of_ble_eq_true rfl)
  refine own_met_1_7 (M := M_of) pn_of rfl (by first | rfl | exact own_cat (by assumption)) ?_
  refine own_aload_n (pc' := 1) rfl d_of_0 rfl (by first | rfl | assumption) ?_
  refine own_virtual0v (M' := M_sl) d_of_1 (pc' := 4) rfl (tw_47 hw) (tw_48 hw) (tw_50 hw) (tw_49 hw) (tw_7 hw) (tw_51 hw) (by decide) rfl (own_lenOf pd_21 rfl) rfl rfl rfl rfl S.1 (c_sl K a0 hw g SC hg x cs h S) (by simp) ?_
  rintro w h1 xs1 ⟨rfl, rfl⟩
  refine own_istore_n1 (pc' := 5) rfl d_of_4 (by first | exact One.u | exact One.val rfl | assumption | exact One.val (by assumption)) ?_
  refine own_aconst_null (pc' := 6) rfl d_of_5 ?_
  refine own_astore_n2 (pc' := 7) rfl d_of_6 (by first | exact One.u | exact One.val rfl | assumption | exact One.val (by assumption)) (by first | rfl | assumption) ?_
  refine own_iconst (v := (0 : Int32)) (pc' := 8) rfl d_of_7 rfl ?_
  refine own_istore_n3 (pc' := 9) rfl d_of_8 (by first | exact One.u | exact One.val rfl | assumption | exact One.val (by assumption)) ?_
  refine own_iconst (v := (-1 : Int32)) (pc' := 10) rfl d_of_9 rfl ?_
  refine own_istore_4 (pc' := 12) rfl d_of_10 (by first | exact One.u | exact One.val rfl | assumption | exact One.val (by assumption)) ?_
  refine own_iconst (v := (0 : Int32)) (pc' := 13) rfl d_of_12 rfl ?_
  refine own_istore_5 (pc' := 15) rfl d_of_13 (by first | exact One.u | exact One.val rfl | assumption | exact One.val (by assumption)) ?_
  exact own_weak (key0 (cs.length + 1) 0 0 _ .unset .unset _ (by omega) rfl (fun _ => rfl) (fun k z1 z2 => absurd z2 (by omega)) (Or.inl (by decide)) One.u One.u) (fun z hz => hz) (by exact Nat.le_of_ble_eq_true rfl) (by exact Nat.le_of_ble_eq_true rfl)
theorem own_put6 (L : List Int32) (x : Int32) (hL : L.length ≤ 5) : (own_ints L ++ List.replicate (6 - L.length) (Value.int 0)).set L.length (.int x) = own_ints (L ++ [x]) ++ List.replicate (6 - (L ++ [x]).length) (.int 0) := by
  have e := own_setmid (own_ints L) (Value.int 0) (.int x) (5 - L.length)
  rw [show (own_ints L).length = L.length by simp, show 5 - L.length + 1 = 6 - L.length by omega] at e
  rw [e, show 6 - (L ++ [x]).length = 5 - L.length by rw [List.length_append, List.length_singleton]; omega]
  simp [own_ints]
abbrev M_law : own_Mi := (x, code, maxLocals, ret, room_1)
theorem pn_law : plainFor (own_Mi.y M_law) = true := plainFor_of_name (by first | (simp [plainName, overriddenIn]; done) | decide +kernel)
set_option maxRecDepth 65536 in
set_option maxHeartbeats 40000000 in
theorem c_law (K : own_Cx) (a0 : Array Value) (hw : ∀ d ∈ tables_1, d.before a0 K.Z = true) (hU : own_U16 K) (rf : Value) (hrf : rf.isRef = true) (SF : Sta K.Z K.Z.heap "jdk/internal/util/Preconditions" "SIOOBE_FORMATTER" "Ljava/util/function/BiFunction;" rf) (rg : Value) (hrg : rg.isRef = true) (SG : Sta K.Z K.Z.heap "jdk/internal/util/Preconditions" "IOOBE_FORMATTER" "Ljava/util/function/BiFunction;" rg) (g : Int32) (SC : Sta K.Z K.Z.heap "java/lang/String" "COMPACT_STRINGS" "Z" (.int g)) (hg : ¬ g = 0) (p0 p1 p2 p3 p4 p5 : Int32) (h : Heap) :
    own_Met K M_law #[.int p0, .int p1, .int p2, .int p3, .int p4, .int p5] [] h (own_ret fun w _ _ => w = .int 1) := by
  have v1 : (1 : Int32).toInt = 1 := rfl
  have v6 : (6 : Int32).toInt = 6 := rfl
  refine own_met_6_7 (M := M_law) pn_law rfl (by first | rfl | exact own_cat (by assumption)) (by first | rfl | exact own_cat (by assumption)) (by first | rfl | exact own_cat (by assumption)) (by first | rfl | exact own_cat (by assumption)) (by first | rfl | exact own_cat (by assumption)) (by first | rfl | exact own_cat (by assumption)) ?_
  refine own_bipush (v := (6 : Int32)) (pc' := 2) rfl at_0 rfl ?_
  refine own_newarray (pc' := 4) rfl at_2 (tw_0 hw) (N := 6) (cap := 6) (by decide) (by decide) rfl rfl rfl ?_
  intro inn q0 ei Es A0
  refine own_astore_6 (pc' := 6) rfl at_4 (by first | exact One.u | exact One.val rfl | assumption | exact One.val (by assumption)) (by first | rfl | assumption) ?_
  refine own_aload (pc' := 8) rfl at_6 rfl (by first | rfl | assumption) ?_
  refine own_iconst (v := (0 : Int32)) (pc' := 9) rfl at_8 rfl ?_
  refine own_iload_n (pc' := 10) rfl at_9 rfl ?_
  refine own_static1v (M' := M_drw) at_10 (pc' := 13) rfl (tw_1 hw) (tw_2 hw) (tw_3 hw) (tw_4 hw) (by decide) rfl (own_lenOf pd_28 rfl) rfl rfl rfl rfl (c_drw K a0 hw p0 _) (by simp) ?_
  rintro w r0 ys0 ⟨c0, rfl, c0a, c0b, rfl⟩
  refine own_castore (pc' := 14) rfl at_13 A0 (i := 0) (by decide) (by simp) (own_i2c_id c0a c0b) (by simp) ?_
  intro q1 kq1 A1
  refine own_aload (pc' := 16) rfl at_14 rfl (by first | rfl | assumption) ?_
  refine own_iconst (v := (1 : Int32)) (pc' := 17) rfl at_16 rfl ?_
  refine own_iload_n (pc' := 18) rfl at_17 rfl ?_
  refine own_static1v (M' := M_drw) at_18 (pc' := 21) rfl (tw_1 hw) (tw_2 hw) (tw_3 hw) (tw_4 hw) (by decide) rfl (own_lenOf pd_28 rfl) rfl rfl rfl rfl (c_drw K a0 hw p1 _) (by simp) ?_
  rintro w r1 ys1 ⟨c1, rfl, c1a, c1b, rfl⟩
  refine own_castore (pc' := 22) rfl at_21 A1 (i := 1) (by decide) (by simp) (own_i2c_id c1a c1b) (by simp) ?_
  intro q2 kq2 A2
  refine own_aload (pc' := 24) rfl at_22 rfl (by first | rfl | assumption) ?_
  refine own_iconst (v := (2 : Int32)) (pc' := 25) rfl at_24 rfl ?_
  refine own_iload_n (pc' := 26) rfl at_25 rfl ?_
  refine own_static1v (M' := M_drw) at_26 (pc' := 29) rfl (tw_1 hw) (tw_2 hw) (tw_3 hw) (tw_4 hw) (by decide) rfl (own_lenOf pd_28 rfl) rfl rfl rfl rfl (c_drw K a0 hw p2 _) (by simp) ?_
  rintro w r2 ys2 ⟨c2, rfl, c2a, c2b, rfl⟩
  refine own_castore (pc' := 30) rfl at_29 A2 (i := 2) (by decide) (by simp) (own_i2c_id c2a c2b) (by simp) ?_
  intro q3 kq3 A3
  refine own_aload (pc' := 32) rfl at_30 rfl (by first | rfl | assumption) ?_
  refine own_iconst (v := (3 : Int32)) (pc' := 33) rfl at_32 rfl ?_
  refine own_iload_n (pc' := 34) rfl at_33 rfl ?_
  refine own_static1v (M' := M_drw) at_34 (pc' := 37) rfl (tw_1 hw) (tw_2 hw) (tw_3 hw) (tw_4 hw) (by decide) rfl (own_lenOf pd_28 rfl) rfl rfl rfl rfl (c_drw K a0 hw p3 _) (by simp) ?_
  rintro w r3 ys3 ⟨c3, rfl, c3a, c3b, rfl⟩
  refine own_castore (pc' := 38) rfl at_37 A3 (i := 3) (by decide) (by simp) (own_i2c_id c3a c3b) (by simp) ?_
  intro q4 kq4 A4
  refine own_aload (pc' := 40) rfl at_38 rfl (by first | rfl | assumption) ?_
  refine own_iconst (v := (4 : Int32)) (pc' := 41) rfl at_40 rfl ?_
  refine own_iload (pc' := 43) rfl at_41 rfl ?_
  refine own_static1v (M' := M_drw) at_43 (pc' := 46) rfl (tw_1 hw) (tw_2 hw) (tw_3 hw) (tw_4 hw) (by decide) rfl (own_lenOf pd_28 rfl) rfl rfl rfl rfl (c_drw K a0 hw p4 _) (by simp) ?_
  rintro w r4 ys4 ⟨c4, rfl, c4a, c4b, rfl⟩
  refine own_castore (pc' := 47) rfl at_46 A4 (i := 4) (by decide) (by simp) (own_i2c_id c4a c4b) (by simp) ?_
  intro q5 kq5 A5
  refine own_aload (pc' := 49) rfl at_47 rfl (by first | rfl | assumption) ?_
  refine own_iconst (v := (5 : Int32)) (pc' := 50) rfl at_49 rfl ?_
  refine own_iload (pc' := 52) rfl at_50 rfl ?_
  refine own_static1v (M' := M_drw) at_52 (pc' := 55) rfl (tw_1 hw) (tw_2 hw) (tw_3 hw) (tw_4 hw) (by decide) rfl (own_lenOf pd_28 rfl) rfl rfl rfl rfl (c_drw K a0 hw p5 _) (by simp) ?_
  rintro w r5 ys5 ⟨c5, rfl, c5a, c5b, rfl⟩
  refine own_castore (pc' := 56) rfl at_55 A5 (i := 5) (by decide) (by simp) (own_i2c_id c5a c5b) (by simp) ?_
  intro q6 kq6 A6
  have IN0 : own_Ary K.Z q6 inn .char (own_ints [c0, c1, c2, c3, c4, c5]) := A6
  have cV0 : own_Chs [c0, c1, c2, c3, c4, c5] := by
    intro c hc
    simp only [List.mem_cons, List.not_mem_nil, or_false] at hc
    rcases hc with rfl | rfl | rfl | rfl | rfl | rfl <;> (constructor <;> assumption)
  obtain ⟨cs, hcs⟩ : ∃ cs : List Int32, cs = [c0, c1, c2, c3, c4, c5] := ⟨_, rfl⟩
  have hlen : cs.length = 6 := by rw [hcs]; rfl
  have g0 : cs[0]? = some c0 := by rw [hcs]; rfl
  have g1 : cs[1]? = some c1 := by rw [hcs]; rfl
  have g2 : cs[2]? = some c2 := by rw [hcs]; rfl
  have g3 : cs[3]? = some c3 := by rw [hcs]; rfl
  have g4 : cs[4]? = some c4 := by rw [hcs]; rfl
  have g5 : cs[5]? = some c5 := by rw [hcs]; rfl
  rw [← hcs] at IN0 cV0
  refine own_new (pc' := 59) rfl at_56 (tw_5 hw) (tw_6 hw) (tw_7 hw) rfl rfl ?_
  intro x h2 ex E2 X2 D2
  refine own_dup (pc' := 60) rfl at_59 (by first | rfl | assumption) ?_
  refine own_aload (pc' := 62) rfl at_60 rfl (by first | rfl | assumption) ?_
  refine own_special1n (M' := M_si1) at_62 (pc' := 65) rfl rfl rfl (tw_8 hw) (tw_9 hw) (tw_7 hw) (tw_10 hw) (by decide) rfl (own_lenOf pd_36 rfl) rfl rfl rfl rfl (c_si1 K a0 hw hU x inn g cs h2 (by omega) (by omega) cV0 (IN0.ext E2) X2 (D2 (Or.inr (tw_33 hw)) (ty := .array .byte) (by decide)) (D2 (Or.inr (tw_31 hw)) (ty := .byte) (by decide)) SC hg) (by simp) ?_
  rintro h3 xs3 ⟨k3, S3⟩
  have E3 : Ext q6 h3 := own_ext_keep E2 k3 (by intro z hz; cases List.mem_singleton.mp hz; omega)
  have IN3 := IN0.ext E3
  refine own_astore_7 (pc' := 67) rfl at_65 (by first | exact One.u | exact One.val rfl | assumption | exact One.val (by assumption)) (by first | rfl | assumption) ?_
  refine own_bipush (v := (6 : Int32)) (pc' := 69) rfl at_67 rfl ?_
  refine own_newarray (pc' := 71) rfl at_69 (tw_0 hw) (N := 6) (cap := 6) (by decide) (by decide) rfl rfl rfl ?_
  intro ea h4 ee E4 A7
  have INx := IN3.ext E4
  have nie : inn ≠ ea := by show @Ne Nat inn ea; have : @LT.lt Nat _ _ _ := IN3.lt; omega
  have nyo : ∀ {h' : Heap}, Keep h4 h' [ea] → own_Str K.Z h' x cs := by
    intro h' k
    obtain ⟨u1, u2, u3, b, u4, u5, u6⟩ := S3
    have hb : @LT.lt Nat _ _ _ := u6.lt
    have hy : @LT.lt Nat _ _ _ := u1.lt
    have z1 : x ≠ ea := own_ne (by omega)
    have z2 : b ≠ ea := own_ne (by omega)
    exact ⟨(u1.ext E4).keep k, u2, u3, b, (u4.ext E4).keep k (ninS z1 nin0), (u5.ext E4).keep k (ninS z1 nin0), (u6.ext E4).keep k (ninS z2 nin0)⟩
  have k278 : ∀ (k st : Int32) (hh : Heap) (sf : List Addr), k.toInt = ((own_kpd cs 6).length : Int) → ea ∈ sf → Keep h4 hh [ea] → own_Ary K.Z hh ea .char (own_ints (own_kpd cs 6) ++ List.replicate (6 - (own_kpd cs 6).length) (.int 0)) → own_WP K M_law (own_ret fun w _ _ => w = .int 1) 278 [.val (.int p0), .val (.int p1), .val (.int p2), .val (.int p3), .val (.int p4), .val (.int p5), .val (.ref inn), .val (.ref x), .val (.ref ea), .val (.int k), .val (.int st), .unset, .unset] [] sf hh 5 34 := by
    intro k st hh sf hk hes kk A
    have t6 := own_kpd_le cs 6
    refine own_aload (pc' := 280) rfl at_278 rfl (by first | rfl | assumption) ?_
    refine own_static1v (M' := M_of) at_280 (pc' := 283) rfl (tw_43 hw) (tw_44 hw) (tw_45 hw) (tw_46 hw) (by decide) rfl (own_lenOf pd_37 rfl) rfl rfl rfl rfl (c_of K a0 hw hU g SC hg rf hrf SF rg hrg SG x cs hh (nyo kk) (by omega)) (by simp) ?_
    rintro w h8 xs8 ⟨z, rfl, E8, S8, hz⟩
    rw [hlen] at S8 hz
    have A8 := A.ext E8
    refine own_astore_11 (pc' := 285) rfl at_283 (by first | exact One.u | exact One.val rfl | assumption | exact One.val (by assumption)) (by first | rfl | assumption) ?_
    refine own_aload (pc' := 287) rfl at_285 rfl (by first | rfl | assumption) ?_
    refine own_ifnull_n (pc' := 290) rfl at_287 ?_
    refine own_aload (pc' := 292) rfl at_290 rfl (by first | rfl | assumption) ?_
    refine own_virtual0v (M' := M_sl) at_292 (pc' := 295) rfl (tw_104 hw) (tw_48 hw) (tw_50 hw) (tw_49 hw) (tw_7 hw) (tw_51 hw) (by decide) rfl (own_lenOf pd_21 rfl) rfl rfl rfl rfl S8.1 (c_sl K a0 hw g SC hg z _ h8 S8) (by simp) ?_
    rintro w h9 xs9 ⟨rfl, rfl⟩
    refine own_iload (pc' := 297) rfl at_295 rfl ?_
    refine own_icmpeq (pcT := 302) (pcF := 300) at_297 (by decide) (by decide) rfl (fun q => ?_) (fun q => ?_)
    rotate_left 1
    · exact absurd (Int32.toInt_inj.mp (by rw [own_lit _ (by omega), hk])) q
    refine own_aload (pc' := 304) rfl at_302 rfl (by first | rfl | assumption) ?_
    refine own_iconst (v := (0 : Int32)) (pc' := 305) rfl at_304 rfl ?_
    refine own_iload (pc' := 307) rfl at_305 rfl ?_
    refine own_aload (pc' := 309) rfl at_307 rfl (by first | rfl | assumption) ?_
    refine own_static4v (M' := M_atx) at_309 (pc' := 312) rfl (tw_105 hw) (tw_106 hw) (tw_3 hw) (tw_107 hw) (by decide) rfl (own_lenOf pd_38 rfl) rfl rfl rfl rfl (c_atx K a0 hw hU g SC hg rf hrf SF z ea (own_kpd cs 6) _ k 0 0 _ S8 A8 t6 hk rfl) (by simp) ?_
    rintro w m0 zs0 ⟨rfl, rfl⟩
    refine own_ifeq (pcT := 384) (pcF := 315) at_312 (by decide) (by decide) rfl (fun u0 => ?_) (fun u0 => ?_)
    · exact absurd u0 (by decide)
    refine own_aload (pc' := 317) rfl at_315 rfl (by first | rfl | assumption) ?_
    refine own_iconst (v := (1 : Int32)) (pc' := 318) rfl at_317 rfl ?_
    refine own_iload (pc' := 320) rfl at_318 rfl ?_
    refine own_aload (pc' := 322) rfl at_320 rfl (by first | rfl | assumption) ?_
    refine own_static4v (M' := M_atx) at_322 (pc' := 325) rfl (tw_105 hw) (tw_106 hw) (tw_3 hw) (tw_107 hw) (by decide) rfl (own_lenOf pd_38 rfl) rfl rfl rfl rfl (c_atx K a0 hw hU g SC hg rf hrf SF z ea (own_kpd cs 6) _ k 1 1 _ S8 A8 t6 hk rfl) (by simp) ?_
    rintro w m1 zs1 ⟨rfl, rfl⟩
    refine own_ifeq (pcT := 384) (pcF := 328) at_325 (by decide) (by decide) rfl (fun u1 => ?_) (fun u1 => ?_)
    · exact absurd u1 (by decide)
    refine own_aload (pc' := 330) rfl at_328 rfl (by first | rfl | assumption) ?_
    refine own_iconst (v := (2 : Int32)) (pc' := 331) rfl at_330 rfl ?_
    refine own_iload (pc' := 333) rfl at_331 rfl ?_
    refine own_aload (pc' := 335) rfl at_333 rfl (by first | rfl | assumption) ?_
    refine own_static4v (M' := M_atx) at_335 (pc' := 338) rfl (tw_105 hw) (tw_106 hw) (tw_3 hw) (tw_107 hw) (by decide) rfl (own_lenOf pd_38 rfl) rfl rfl rfl rfl (c_atx K a0 hw hU g SC hg rf hrf SF z ea (own_kpd cs 6) _ k 2 2 _ S8 A8 t6 hk rfl) (by simp) ?_
    rintro w m2 zs2 ⟨rfl, rfl⟩
    refine own_ifeq (pcT := 384) (pcF := 341) at_338 (by decide) (by decide) rfl (fun u2 => ?_) (fun u2 => ?_)
    · exact absurd u2 (by decide)
    refine own_aload (pc' := 343) rfl at_341 rfl (by first | rfl | assumption) ?_
    refine own_iconst (v := (3 : Int32)) (pc' := 344) rfl at_343 rfl ?_
    refine own_iload (pc' := 346) rfl at_344 rfl ?_
    refine own_aload (pc' := 348) rfl at_346 rfl (by first | rfl | assumption) ?_
    refine own_static4v (M' := M_atx) at_348 (pc' := 351) rfl (tw_105 hw) (tw_106 hw) (tw_3 hw) (tw_107 hw) (by decide) rfl (own_lenOf pd_38 rfl) rfl rfl rfl rfl (c_atx K a0 hw hU g SC hg rf hrf SF z ea (own_kpd cs 6) _ k 3 3 _ S8 A8 t6 hk rfl) (by simp) ?_
    rintro w m3 zs3 ⟨rfl, rfl⟩
    refine own_ifeq (pcT := 384) (pcF := 354) at_351 (by decide) (by decide) rfl (fun u3 => ?_) (fun u3 => ?_)
    · exact absurd u3 (by decide)
    refine own_aload (pc' := 356) rfl at_354 rfl (by first | rfl | assumption) ?_
    refine own_iconst (v := (4 : Int32)) (pc' := 357) rfl at_356 rfl ?_
    refine own_iload (pc' := 359) rfl at_357 rfl ?_
    refine own_aload (pc' := 361) rfl at_359 rfl (by first | rfl | assumption) ?_
    refine own_static4v (M' := M_atx) at_361 (pc' := 364) rfl (tw_105 hw) (tw_106 hw) (tw_3 hw) (tw_107 hw) (by decide) rfl (own_lenOf pd_38 rfl) rfl rfl rfl rfl (c_atx K a0 hw hU g SC hg rf hrf SF z ea (own_kpd cs 6) _ k 4 4 _ S8 A8 t6 hk rfl) (by simp) ?_
    rintro w m4 zs4 ⟨rfl, rfl⟩
    refine own_ifeq (pcT := 384) (pcF := 367) at_364 (by decide) (by decide) rfl (fun u4 => ?_) (fun u4 => ?_)
    · exact absurd u4 (by decide)
    refine own_aload (pc' := 369) rfl at_367 rfl (by first | rfl | assumption) ?_
    refine own_iconst (v := (5 : Int32)) (pc' := 370) rfl at_369 rfl ?_
    refine own_iload (pc' := 372) rfl at_370 rfl ?_
    refine own_aload (pc' := 374) rfl at_372 rfl (by first | rfl | assumption) ?_
    refine own_static4v (M' := M_atx) at_374 (pc' := 377) rfl (tw_105 hw) (tw_106 hw) (tw_3 hw) (tw_107 hw) (by decide) rfl (own_lenOf pd_38 rfl) rfl rfl rfl rfl (c_atx K a0 hw hU g SC hg rf hrf SF z ea (own_kpd cs 6) _ k 5 5 _ S8 A8 t6 hk rfl) (by simp) ?_
    rintro w m5 zs5 ⟨rfl, rfl⟩
    refine own_ifeq (pcT := 384) (pcF := 380) at_377 (by decide) (by decide) rfl (fun u5 => ?_) (fun u5 => ?_)
    · exact absurd u5 (by decide)
    refine own_iconst (v := (1 : Int32)) (pc' := 381) rfl at_380 rfl ?_
    refine own_goto (pc' := 385) at_381 (by decide) (by decide) ?_
    refine own_istore_12 (pc' := 387) rfl at_385 (by first | exact One.u | exact One.val rfl | assumption | exact One.val (by assumption)) ?_
    refine own_iload (pc' := 389) rfl at_387 rfl ?_
    refine own_ifne (pcT := 394) (pcF := 392) at_389 (by decide) (by decide) rfl (fun u6 => ?_) (fun u6 => ?_)
    rotate_left 1
    · exact absurd u6 (by decide)
    refine own_iload (pc' := 396) rfl at_394 rfl ?_
    refine own_bipush (v := (6 : Int32)) (pc' := 398) rfl at_396 rfl ?_
    refine own_icmpne (pcT := 414) (pcF := 401) at_398 (by decide) (by decide) rfl (fun u7 => ?_) (fun u7 => ?_)
    · skip
      refine own_iconst (v := (1 : Int32)) (pc' := 415) rfl at_414 rfl ?_
      refine own_ireturnN (t := .boolean) rfl (by simp) (by first | exact own_nb0 | exact own_nb1 | rfl) at_415 rfl rfl ?_
      rfl
    have e6 : (own_kpd cs 6).length = 6 := by rw [u7, v6] at hk; omega
    obtain rfl := hz e6
    refine own_aload (pc' := 403) rfl at_401 rfl (by first | rfl | assumption) ?_
    refine own_aload (pc' := 405) rfl at_403 rfl (by first | rfl | assumption) ?_
    refine own_acmpne (pcT := 412) (pcF := 408) at_405 (by decide) (by decide) rfl (by first | rfl | assumption) (by first | rfl | assumption) (fun u8 => ?_) (fun u8 => ?_)
    · exact absurd rfl u8
    refine own_iconst (v := (1 : Int32)) (pc' := 409) rfl at_408 rfl ?_
    refine own_goto (pc' := 413) at_409 (by decide) (by decide) ?_
    refine own_ireturnN (t := .boolean) rfl (by simp) (by first | exact own_nb0 | exact own_nb1 | rfl) at_413 rfl rfl ?_
    rfl
  have k243' : ∀ (k : Int32) (hh : Heap) (sf : List Addr), k.toInt = ((own_kpd cs 6).length : Int) → ea ∈ sf → Keep h4 hh [ea] → own_Ary K.Z hh ea .char (own_ints (own_kpd cs 6) ++ List.replicate (6 - (own_kpd cs 6).length) (.int 0)) → own_WP K M_law (own_ret fun w _ _ => w = .int 1) 278 [.val (.int p0), .val (.int p1), .val (.int p2), .val (.int p3), .val (.int p4), .val (.int p5), .val (.ref inn), .val (.ref x), .val (.ref ea), .val (.int k), .val (.int (own_st cs 5)), .unset, .unset] [] sf hh 5 34 := fun k hh sf => k278 k _ hh sf
  have k243 : ∀ (k : Int32) (hh : Heap) (sf : List Addr), k.toInt = ((own_kpd cs 5).length : Int) → ea ∈ sf → Keep h4 hh [ea] → own_Ary K.Z hh ea .char (own_ints (own_kpd cs 5) ++ List.replicate (6 - (own_kpd cs 5).length) (.int 0)) → own_WP K M_law (own_ret fun w _ _ => w = .int 1) 243 [.val (.int p0), .val (.int p1), .val (.int p2), .val (.int p3), .val (.int p4), .val (.int p5), .val (.ref inn), .val (.ref x), .val (.ref ea), .val (.int k), .val (.int (own_st cs 4)), .unset, .unset] [] sf hh 5 34 := by
    intro k hh sf hk hes kk A
    have IN := INx.keep kk (ninS nie nin0)
    have tN := own_kpd_le cs 5
    have stN : own_st cs 5 = own_nx (own_st cs 4) c4 := own_st_s g4
    refine own_iload (pc' := 245) rfl at_243 rfl ?_
    refine own_aload (pc' := 247) rfl at_245 rfl (by first | rfl | assumption) ?_
    refine own_iconst (v := (4 : Int32)) (pc' := 248) rfl at_247 rfl ?_
    refine own_caload (pc' := 249) rfl at_248 IN (i := 4) (by decide) (own_ints_get g4) ?_
    refine own_static2v (M' := M_nxt) at_249 (pc' := 252) rfl (tw_40 hw) (tw_41 hw) (tw_3 hw) (tw_42 hw) (by decide) rfl (own_lenOf pd_39 rfl) rfl rfl rfl rfl (c_nxt K a0 hw (own_st cs 4) c4 _) (by simp) ?_
    rintro w f1 ys1 ⟨rfl, rfl⟩
    rw [← stN]
    refine own_istore_10 (pc' := 254) rfl at_252 (by first | exact One.u | exact One.val rfl | assumption | exact One.val (by assumption)) ?_
    refine own_iload (pc' := 256) rfl at_254 rfl ?_
    refine own_aload (pc' := 258) rfl at_256 rfl (by first | rfl | assumption) ?_
    refine own_iconst (v := (5 : Int32)) (pc' := 259) rfl at_258 rfl ?_
    refine own_caload (pc' := 260) rfl at_259 IN (i := 5) (by decide) (own_ints_get g5) ?_
    refine own_static2v (M' := M_kep) at_260 (pc' := 263) rfl (tw_34 hw) (tw_35 hw) (tw_3 hw) (tw_36 hw) (by decide) rfl (own_lenOf pd_40 rfl) rfl rfl rfl rfl (c_kep K a0 hw (own_st cs 5) c5 _) (by simp) ?_
    rintro w f2 ys2 ⟨rfl, rfl⟩
    cases q : own_kp (own_st cs 5) c5
    · have eK : own_kpd cs 6 = own_kpd cs 5 := own_k1_n g5 q
      refine own_ifeq (pcT := 278) (pcF := 266) at_263 (by decide) (by decide) rfl (fun q2 => ?_) (fun q2 => ?_)
      rotate_left 1
      · exact absurd (by simp) q2
      exact own_weak (k243' k _ _ (by rw [eK]; exact hk) (by simp [hes]) kk (by rw [eK]; exact A)) (fun z hz => hz) (by exact Nat.le_of_ble_eq_true rfl) (by exact Nat.le_of_ble_eq_true rfl)
    · have eK : own_kpd cs 6 = own_kpd cs 5 ++ [c5] := own_k1_y g5 q
      refine own_ifeq (pcT := 278) (pcF := 266) at_263 (by decide) (by decide) rfl (fun q2 => ?_) (fun q2 => ?_)
      · exact absurd q2 (by simp)
      refine own_aload (pc' := 268) rfl at_266 rfl (by first | rfl | assumption) ?_
      refine own_iload (pc' := 270) rfl at_268 rfl ?_
      refine own_aload (pc' := 272) rfl at_270 rfl (by first | rfl | assumption) ?_
      refine own_iconst (v := (5 : Int32)) (pc' := 273) rfl at_272 rfl ?_
      refine own_caload (pc' := 274) rfl at_273 IN (i := 5) (by decide) (own_ints_get g5) ?_
      refine own_castore (pc' := 275) rfl at_274 A (i := (own_kpd cs 5).length) hk (by rw [List.length_append, List.length_replicate]; simp only [List.length_map]; omega) (own_i2c_id c5a c5b) (by simp [hes]) ?_
      intro f3 kf3 A3
      rw [own_put6 (own_kpd cs 5) c5 (by omega)] at A3
      refine own_iinc_9 (z := (1 : Int32)) (pc' := 278) rfl at_275 rfl ?_
      exact own_weak (k243' (k + 1) _ _ (by rw [eK, own_add hk v1 (by omega) (by omega)]; simp) (by simp [hes]) (kk.trans kf3 (fun z hz => Or.inl hz)) (by rw [eK]; exact A3)) (fun z hz => hz) (by exact Nat.le_of_ble_eq_true rfl) (by exact Nat.le_of_ble_eq_true rfl)
  have k208 : ∀ (k : Int32) (hh : Heap) (sf : List Addr), k.toInt = ((own_kpd cs 4).length : Int) → ea ∈ sf → Keep h4 hh [ea] → own_Ary K.Z hh ea .char (own_ints (own_kpd cs 4) ++ List.replicate (6 - (own_kpd cs 4).length) (.int 0)) → own_WP K M_law (own_ret fun w _ _ => w = .int 1) 208 [.val (.int p0), .val (.int p1), .val (.int p2), .val (.int p3), .val (.int p4), .val (.int p5), .val (.ref inn), .val (.ref x), .val (.ref ea), .val (.int k), .val (.int (own_st cs 3)), .unset, .unset] [] sf hh 5 34 := by
    intro k hh sf hk hes kk A
    have IN := INx.keep kk (ninS nie nin0)
    have tN := own_kpd_le cs 4
    have stN : own_st cs 4 = own_nx (own_st cs 3) c3 := own_st_s g3
    refine own_iload (pc' := 210) rfl at_208 rfl ?_
    refine own_aload (pc' := 212) rfl at_210 rfl (by first | rfl | assumption) ?_
    refine own_iconst (v := (3 : Int32)) (pc' := 213) rfl at_212 rfl ?_
    refine own_caload (pc' := 214) rfl at_213 IN (i := 3) (by decide) (own_ints_get g3) ?_
    refine own_static2v (M' := M_nxt) at_214 (pc' := 217) rfl (tw_40 hw) (tw_41 hw) (tw_3 hw) (tw_42 hw) (by decide) rfl (own_lenOf pd_39 rfl) rfl rfl rfl rfl (c_nxt K a0 hw (own_st cs 3) c3 _) (by simp) ?_
    rintro w f1 ys1 ⟨rfl, rfl⟩
    rw [← stN]
    refine own_istore_10 (pc' := 219) rfl at_217 (by first | exact One.u | exact One.val rfl | assumption | exact One.val (by assumption)) ?_
    refine own_iload (pc' := 221) rfl at_219 rfl ?_
    refine own_aload (pc' := 223) rfl at_221 rfl (by first | rfl | assumption) ?_
    refine own_iconst (v := (4 : Int32)) (pc' := 224) rfl at_223 rfl ?_
    refine own_caload (pc' := 225) rfl at_224 IN (i := 4) (by decide) (own_ints_get g4) ?_
    refine own_static2v (M' := M_kep) at_225 (pc' := 228) rfl (tw_34 hw) (tw_35 hw) (tw_3 hw) (tw_36 hw) (by decide) rfl (own_lenOf pd_40 rfl) rfl rfl rfl rfl (c_kep K a0 hw (own_st cs 4) c4 _) (by simp) ?_
    rintro w f2 ys2 ⟨rfl, rfl⟩
    cases q : own_kp (own_st cs 4) c4
    · have eK : own_kpd cs 5 = own_kpd cs 4 := own_k1_n g4 q
      refine own_ifeq (pcT := 243) (pcF := 231) at_228 (by decide) (by decide) rfl (fun q2 => ?_) (fun q2 => ?_)
      rotate_left 1
      · exact absurd (by simp) q2
      exact own_weak (k243 k _ _ (by rw [eK]; exact hk) (by simp [hes]) kk (by rw [eK]; exact A)) (fun z hz => hz) (by exact Nat.le_of_ble_eq_true rfl) (by exact Nat.le_of_ble_eq_true rfl)
    · have eK : own_kpd cs 5 = own_kpd cs 4 ++ [c4] := own_k1_y g4 q
      refine own_ifeq (pcT := 243) (pcF := 231) at_228 (by decide) (by decide) rfl (fun q2 => ?_) (fun q2 => ?_)
      · exact absurd q2 (by simp)
      refine own_aload (pc' := 233) rfl at_231 rfl (by first | rfl | assumption) ?_
      refine own_iload (pc' := 235) rfl at_233 rfl ?_
      refine own_aload (pc' := 237) rfl at_235 rfl (by first | rfl | assumption) ?_
      refine own_iconst (v := (4 : Int32)) (pc' := 238) rfl at_237 rfl ?_
      refine own_caload (pc' := 239) rfl at_238 IN (i := 4) (by decide) (own_ints_get g4) ?_
      refine own_castore (pc' := 240) rfl at_239 A (i := (own_kpd cs 4).length) hk (by rw [List.length_append, List.length_replicate]; simp only [List.length_map]; omega) (own_i2c_id c4a c4b) (by simp [hes]) ?_
      intro f3 kf3 A3
      rw [own_put6 (own_kpd cs 4) c4 (by omega)] at A3
      refine own_iinc_9 (z := (1 : Int32)) (pc' := 243) rfl at_240 rfl ?_
      exact own_weak (k243 (k + 1) _ _ (by rw [eK, own_add hk v1 (by omega) (by omega)]; simp) (by simp [hes]) (kk.trans kf3 (fun z hz => Or.inl hz)) (by rw [eK]; exact A3)) (fun z hz => hz) (by exact Nat.le_of_ble_eq_true rfl) (by exact Nat.le_of_ble_eq_true rfl)
  have k173 : ∀ (k : Int32) (hh : Heap) (sf : List Addr), k.toInt = ((own_kpd cs 3).length : Int) → ea ∈ sf → Keep h4 hh [ea] → own_Ary K.Z hh ea .char (own_ints (own_kpd cs 3) ++ List.replicate (6 - (own_kpd cs 3).length) (.int 0)) → own_WP K M_law (own_ret fun w _ _ => w = .int 1) 173 [.val (.int p0), .val (.int p1), .val (.int p2), .val (.int p3), .val (.int p4), .val (.int p5), .val (.ref inn), .val (.ref x), .val (.ref ea), .val (.int k), .val (.int (own_st cs 2)), .unset, .unset] [] sf hh 5 34 := by
    intro k hh sf hk hes kk A
    have IN := INx.keep kk (ninS nie nin0)
    have tN := own_kpd_le cs 3
    have stN : own_st cs 3 = own_nx (own_st cs 2) c2 := own_st_s g2
    refine own_iload (pc' := 175) rfl at_173 rfl ?_
    refine own_aload (pc' := 177) rfl at_175 rfl (by first | rfl | assumption) ?_
    refine own_iconst (v := (2 : Int32)) (pc' := 178) rfl at_177 rfl ?_
    refine own_caload (pc' := 179) rfl at_178 IN (i := 2) (by decide) (own_ints_get g2) ?_
    refine own_static2v (M' := M_nxt) at_179 (pc' := 182) rfl (tw_40 hw) (tw_41 hw) (tw_3 hw) (tw_42 hw) (by decide) rfl (own_lenOf pd_39 rfl) rfl rfl rfl rfl (c_nxt K a0 hw (own_st cs 2) c2 _) (by simp) ?_
    rintro w f1 ys1 ⟨rfl, rfl⟩
    rw [← stN]
    refine own_istore_10 (pc' := 184) rfl at_182 (by first | exact One.u | exact One.val rfl | assumption | exact One.val (by assumption)) ?_
    refine own_iload (pc' := 186) rfl at_184 rfl ?_
    refine own_aload (pc' := 188) rfl at_186 rfl (by first | rfl | assumption) ?_
    refine own_iconst (v := (3 : Int32)) (pc' := 189) rfl at_188 rfl ?_
    refine own_caload (pc' := 190) rfl at_189 IN (i := 3) (by decide) (own_ints_get g3) ?_
    refine own_static2v (M' := M_kep) at_190 (pc' := 193) rfl (tw_34 hw) (tw_35 hw) (tw_3 hw) (tw_36 hw) (by decide) rfl (own_lenOf pd_40 rfl) rfl rfl rfl rfl (c_kep K a0 hw (own_st cs 3) c3 _) (by simp) ?_
    rintro w f2 ys2 ⟨rfl, rfl⟩
    cases q : own_kp (own_st cs 3) c3
    · have eK : own_kpd cs 4 = own_kpd cs 3 := own_k1_n g3 q
      refine own_ifeq (pcT := 208) (pcF := 196) at_193 (by decide) (by decide) rfl (fun q2 => ?_) (fun q2 => ?_)
      rotate_left 1
      · exact absurd (by simp) q2
      exact own_weak (k208 k _ _ (by rw [eK]; exact hk) (by simp [hes]) kk (by rw [eK]; exact A)) (fun z hz => hz) (by exact Nat.le_of_ble_eq_true rfl) (by exact Nat.le_of_ble_eq_true rfl)
    · have eK : own_kpd cs 4 = own_kpd cs 3 ++ [c3] := own_k1_y g3 q
      refine own_ifeq (pcT := 208) (pcF := 196) at_193 (by decide) (by decide) rfl (fun q2 => ?_) (fun q2 => ?_)
      · exact absurd q2 (by simp)
      refine own_aload (pc' := 198) rfl at_196 rfl (by first | rfl | assumption) ?_
      refine own_iload (pc' := 200) rfl at_198 rfl ?_
      refine own_aload (pc' := 202) rfl at_200 rfl (by first | rfl | assumption) ?_
      refine own_iconst (v := (3 : Int32)) (pc' := 203) rfl at_202 rfl ?_
      refine own_caload (pc' := 204) rfl at_203 IN (i := 3) (by decide) (own_ints_get g3) ?_
      refine own_castore (pc' := 205) rfl at_204 A (i := (own_kpd cs 3).length) hk (by rw [List.length_append, List.length_replicate]; simp only [List.length_map]; omega) (own_i2c_id c3a c3b) (by simp [hes]) ?_
      intro f3 kf3 A3
      rw [own_put6 (own_kpd cs 3) c3 (by omega)] at A3
      refine own_iinc_9 (z := (1 : Int32)) (pc' := 208) rfl at_205 rfl ?_
      exact own_weak (k208 (k + 1) _ _ (by rw [eK, own_add hk v1 (by omega) (by omega)]; simp) (by simp [hes]) (kk.trans kf3 (fun z hz => Or.inl hz)) (by rw [eK]; exact A3)) (fun z hz => hz) (by exact Nat.le_of_ble_eq_true rfl) (by exact Nat.le_of_ble_eq_true rfl)
  have k138 : ∀ (k : Int32) (hh : Heap) (sf : List Addr), k.toInt = ((own_kpd cs 2).length : Int) → ea ∈ sf → Keep h4 hh [ea] → own_Ary K.Z hh ea .char (own_ints (own_kpd cs 2) ++ List.replicate (6 - (own_kpd cs 2).length) (.int 0)) → own_WP K M_law (own_ret fun w _ _ => w = .int 1) 138 [.val (.int p0), .val (.int p1), .val (.int p2), .val (.int p3), .val (.int p4), .val (.int p5), .val (.ref inn), .val (.ref x), .val (.ref ea), .val (.int k), .val (.int (own_st cs 1)), .unset, .unset] [] sf hh 5 34 := by
    intro k hh sf hk hes kk A
    have IN := INx.keep kk (ninS nie nin0)
    have tN := own_kpd_le cs 2
    have stN : own_st cs 2 = own_nx (own_st cs 1) c1 := own_st_s g1
    refine own_iload (pc' := 140) rfl at_138 rfl ?_
    refine own_aload (pc' := 142) rfl at_140 rfl (by first | rfl | assumption) ?_
    refine own_iconst (v := (1 : Int32)) (pc' := 143) rfl at_142 rfl ?_
    refine own_caload (pc' := 144) rfl at_143 IN (i := 1) (by decide) (own_ints_get g1) ?_
    refine own_static2v (M' := M_nxt) at_144 (pc' := 147) rfl (tw_40 hw) (tw_41 hw) (tw_3 hw) (tw_42 hw) (by decide) rfl (own_lenOf pd_39 rfl) rfl rfl rfl rfl (c_nxt K a0 hw (own_st cs 1) c1 _) (by simp) ?_
    rintro w f1 ys1 ⟨rfl, rfl⟩
    rw [← stN]
    refine own_istore_10 (pc' := 149) rfl at_147 (by first | exact One.u | exact One.val rfl | assumption | exact One.val (by assumption)) ?_
    refine own_iload (pc' := 151) rfl at_149 rfl ?_
    refine own_aload (pc' := 153) rfl at_151 rfl (by first | rfl | assumption) ?_
    refine own_iconst (v := (2 : Int32)) (pc' := 154) rfl at_153 rfl ?_
    refine own_caload (pc' := 155) rfl at_154 IN (i := 2) (by decide) (own_ints_get g2) ?_
    refine own_static2v (M' := M_kep) at_155 (pc' := 158) rfl (tw_34 hw) (tw_35 hw) (tw_3 hw) (tw_36 hw) (by decide) rfl (own_lenOf pd_40 rfl) rfl rfl rfl rfl (c_kep K a0 hw (own_st cs 2) c2 _) (by simp) ?_
    rintro w f2 ys2 ⟨rfl, rfl⟩
    cases q : own_kp (own_st cs 2) c2
    · have eK : own_kpd cs 3 = own_kpd cs 2 := own_k1_n g2 q
      refine own_ifeq (pcT := 173) (pcF := 161) at_158 (by decide) (by decide) rfl (fun q2 => ?_) (fun q2 => ?_)
      rotate_left 1
      · exact absurd (by simp) q2
      exact own_weak (k173 k _ _ (by rw [eK]; exact hk) (by simp [hes]) kk (by rw [eK]; exact A)) (fun z hz => hz) (by exact Nat.le_of_ble_eq_true rfl) (by exact Nat.le_of_ble_eq_true rfl)
    · have eK : own_kpd cs 3 = own_kpd cs 2 ++ [c2] := own_k1_y g2 q
      refine own_ifeq (pcT := 173) (pcF := 161) at_158 (by decide) (by decide) rfl (fun q2 => ?_) (fun q2 => ?_)
      · exact absurd q2 (by simp)
      refine own_aload (pc' := 163) rfl at_161 rfl (by first | rfl | assumption) ?_
      refine own_iload (pc' := 165) rfl at_163 rfl ?_
      refine own_aload (pc' := 167) rfl at_165 rfl (by first | rfl | assumption) ?_
      refine own_iconst (v := (2 : Int32)) (pc' := 168) rfl at_167 rfl ?_
      refine own_caload (pc' := 169) rfl at_168 IN (i := 2) (by decide) (own_ints_get g2) ?_
      refine own_castore (pc' := 170) rfl at_169 A (i := (own_kpd cs 2).length) hk (by rw [List.length_append, List.length_replicate]; simp only [List.length_map]; omega) (own_i2c_id c2a c2b) (by simp [hes]) ?_
      intro f3 kf3 A3
      rw [own_put6 (own_kpd cs 2) c2 (by omega)] at A3
      refine own_iinc_9 (z := (1 : Int32)) (pc' := 173) rfl at_170 rfl ?_
      exact own_weak (k173 (k + 1) _ _ (by rw [eK, own_add hk v1 (by omega) (by omega)]; simp) (by simp [hes]) (kk.trans kf3 (fun z hz => Or.inl hz)) (by rw [eK]; exact A3)) (fun z hz => hz) (by exact Nat.le_of_ble_eq_true rfl) (by exact Nat.le_of_ble_eq_true rfl)
  have k103 : ∀ (k : Int32) (hh : Heap) (sf : List Addr), k.toInt = ((own_kpd cs 1).length : Int) → ea ∈ sf → Keep h4 hh [ea] → own_Ary K.Z hh ea .char (own_ints (own_kpd cs 1) ++ List.replicate (6 - (own_kpd cs 1).length) (.int 0)) → own_WP K M_law (own_ret fun w _ _ => w = .int 1) 103 [.val (.int p0), .val (.int p1), .val (.int p2), .val (.int p3), .val (.int p4), .val (.int p5), .val (.ref inn), .val (.ref x), .val (.ref ea), .val (.int k), .val (.int (own_st cs 0)), .unset, .unset] [] sf hh 5 34 := by
    intro k hh sf hk hes kk A
    have IN := INx.keep kk (ninS nie nin0)
    have tN := own_kpd_le cs 1
    have stN : own_st cs 1 = own_nx (own_st cs 0) c0 := own_st_s g0
    refine own_iload (pc' := 105) rfl at_103 rfl ?_
    refine own_aload (pc' := 107) rfl at_105 rfl (by first | rfl | assumption) ?_
    refine own_iconst (v := (0 : Int32)) (pc' := 108) rfl at_107 rfl ?_
    refine own_caload (pc' := 109) rfl at_108 IN (i := 0) (by decide) (own_ints_get g0) ?_
    refine own_static2v (M' := M_nxt) at_109 (pc' := 112) rfl (tw_40 hw) (tw_41 hw) (tw_3 hw) (tw_42 hw) (by decide) rfl (own_lenOf pd_39 rfl) rfl rfl rfl rfl (c_nxt K a0 hw (own_st cs 0) c0 _) (by simp) ?_
    rintro w f1 ys1 ⟨rfl, rfl⟩
    rw [← stN]
    refine own_istore_10 (pc' := 114) rfl at_112 (by first | exact One.u | exact One.val rfl | assumption | exact One.val (by assumption)) ?_
    refine own_iload (pc' := 116) rfl at_114 rfl ?_
    refine own_aload (pc' := 118) rfl at_116 rfl (by first | rfl | assumption) ?_
    refine own_iconst (v := (1 : Int32)) (pc' := 119) rfl at_118 rfl ?_
    refine own_caload (pc' := 120) rfl at_119 IN (i := 1) (by decide) (own_ints_get g1) ?_
    refine own_static2v (M' := M_kep) at_120 (pc' := 123) rfl (tw_34 hw) (tw_35 hw) (tw_3 hw) (tw_36 hw) (by decide) rfl (own_lenOf pd_40 rfl) rfl rfl rfl rfl (c_kep K a0 hw (own_st cs 1) c1 _) (by simp) ?_
    rintro w f2 ys2 ⟨rfl, rfl⟩
    cases q : own_kp (own_st cs 1) c1
    · have eK : own_kpd cs 2 = own_kpd cs 1 := own_k1_n g1 q
      refine own_ifeq (pcT := 138) (pcF := 126) at_123 (by decide) (by decide) rfl (fun q2 => ?_) (fun q2 => ?_)
      rotate_left 1
      · exact absurd (by simp) q2
      exact own_weak (k138 k _ _ (by rw [eK]; exact hk) (by simp [hes]) kk (by rw [eK]; exact A)) (fun z hz => hz) (by exact Nat.le_of_ble_eq_true rfl) (by exact Nat.le_of_ble_eq_true rfl)
    · have eK : own_kpd cs 2 = own_kpd cs 1 ++ [c1] := own_k1_y g1 q
      refine own_ifeq (pcT := 138) (pcF := 126) at_123 (by decide) (by decide) rfl (fun q2 => ?_) (fun q2 => ?_)
      · exact absurd q2 (by simp)
      refine own_aload (pc' := 128) rfl at_126 rfl (by first | rfl | assumption) ?_
      refine own_iload (pc' := 130) rfl at_128 rfl ?_
      refine own_aload (pc' := 132) rfl at_130 rfl (by first | rfl | assumption) ?_
      refine own_iconst (v := (1 : Int32)) (pc' := 133) rfl at_132 rfl ?_
      refine own_caload (pc' := 134) rfl at_133 IN (i := 1) (by decide) (own_ints_get g1) ?_
      refine own_castore (pc' := 135) rfl at_134 A (i := (own_kpd cs 1).length) hk (by rw [List.length_append, List.length_replicate]; simp only [List.length_map]; omega) (own_i2c_id c1a c1b) (by simp [hes]) ?_
      intro f3 kf3 A3
      rw [own_put6 (own_kpd cs 1) c1 (by omega)] at A3
      refine own_iinc_9 (z := (1 : Int32)) (pc' := 138) rfl at_135 rfl ?_
      exact own_weak (k138 (k + 1) _ _ (by rw [eK, own_add hk v1 (by omega) (by omega)]; simp) (by simp [hes]) (kk.trans kf3 (fun z hz => Or.inl hz)) (by rw [eK]; exact A3)) (fun z hz => hz) (by exact Nat.le_of_ble_eq_true rfl) (by exact Nat.le_of_ble_eq_true rfl)
  have A7' : own_Ary K.Z h4 ea .char (own_ints (own_kpd cs 0) ++ List.replicate (6 - (own_kpd cs 0).length) (.int 0)) := A7
  refine own_astore_8 (pc' := 73) rfl at_71 (by first | exact One.u | exact One.val rfl | assumption | exact One.val (by assumption)) (by first | rfl | assumption) ?_
  refine own_iconst (v := (0 : Int32)) (pc' := 74) rfl at_73 rfl ?_
  refine own_istore_9 (pc' := 76) rfl at_74 (by first | exact One.u | exact One.val rfl | assumption | exact One.val (by assumption)) ?_
  refine own_iconst (v := (0 : Int32)) (pc' := 77) rfl at_76 rfl ?_
  refine own_istore_10 (pc' := 79) rfl at_77 (by first | exact One.u | exact One.val rfl | assumption | exact One.val (by assumption)) ?_
  refine own_iload (pc' := 81) rfl at_79 rfl ?_
  refine own_aload (pc' := 83) rfl at_81 rfl (by first | rfl | assumption) ?_
  refine own_iconst (v := (0 : Int32)) (pc' := 84) rfl at_83 rfl ?_
  refine own_caload (pc' := 85) rfl at_84 INx (i := 0) (by decide) (own_ints_get g0) ?_
  refine own_static2v (M' := M_kep) at_85 (pc' := 88) rfl (tw_34 hw) (tw_35 hw) (tw_3 hw) (tw_36 hw) (by decide) rfl (own_lenOf pd_40 rfl) rfl rfl rfl rfl (c_kep K a0 hw 0 c0 _) (by simp) ?_
  rintro w f2 ys2 ⟨rfl, rfl⟩
  cases q : own_kp 0 c0
  · have eK : own_kpd cs 1 = own_kpd cs 0 := own_k1_n g0 q
    refine own_ifeq (pcT := 103) (pcF := 91) at_88 (by decide) (by decide) rfl (fun q2 => ?_) (fun q2 => ?_)
    rotate_left 1
    · exact absurd (by simp) q2
    exact own_weak (k103 0 _ _ (by rw [eK]; rfl) (by simp) (Keep.refl _ _) (by rw [eK]; exact A7')) (fun z hz => hz) (by exact Nat.le_of_ble_eq_true rfl) (by exact Nat.le_of_ble_eq_true rfl)
  · have eK : own_kpd cs 1 = own_kpd cs 0 ++ [c0] := own_k1_y g0 q
    refine own_ifeq (pcT := 103) (pcF := 91) at_88 (by decide) (by decide) rfl (fun q2 => ?_) (fun q2 => ?_)
    · exact absurd q2 (by simp)
    refine own_aload (pc' := 93) rfl at_91 rfl (by first | rfl | assumption) ?_
    refine own_iload (pc' := 95) rfl at_93 rfl ?_
    refine own_aload (pc' := 97) rfl at_95 rfl (by first | rfl | assumption) ?_
    refine own_iconst (v := (0 : Int32)) (pc' := 98) rfl at_97 rfl ?_
    refine own_caload (pc' := 99) rfl at_98 INx (i := 0) (by decide) (own_ints_get g0) ?_
    refine own_castore (pc' := 100) rfl at_99 A7' (i := 0) (by decide) (by simp [own_kpd]) (own_i2c_id c0a c0b) (by simp) ?_
    intro f3 kf3 A3
    have e3 := own_put6 (own_kpd cs 0) c0 (by simp [own_kpd])
    have A3' : own_Ary K.Z f3 ea .char (own_ints (own_kpd cs 0 ++ [c0]) ++ List.replicate (6 - (own_kpd cs 0 ++ [c0]).length) (.int 0)) := by rw [← e3]; exact A3
    refine own_iinc_9 (z := (1 : Int32)) (pc' := 103) rfl at_100 rfl ?_
    exact own_weak (k103 1 _ _ (by rw [eK]; rfl) (by simp) kf3 (by rw [eK]; exact A3')) (fun z hz => hz) (by exact Nat.le_of_ble_eq_true rfl) (by exact Nat.le_of_ble_eq_true rfl)
set_option maxRecDepth 65536 in
set_option maxHeartbeats 40000000 in
theorem comes_1 {Post : Tables → Env → Array Value → State → Outcome → State → Prop} (hpost : ∀ tb e args s v u, (limb_1_1.after args s (.returned v) u = true ∧ limb_1_2.after args s (.returned v) u = true ∧ True) → FrameEnd s (.returned v) u (Jvm.fieldLocs frame_1_writes args s ++ Jvm.arrayLocs frame_1_arrays args s ++ Jvm.staticLocs frame_1_statics s) 32 256 → Post tb e args s (.returned v) u) :
    ArmFor flags0 classFile x code maxLocals ret World_1 tables_1 room_1 Calls_1 rest_1 Pre_1 Post := by
  intro l hfl _ _ p e ha hc hk s m args below hf hA hF happ hP
  obtain ⟨hcalls, hrest, hpre⟩ := hP
  obtain ⟨-, -, -, hnamed, -, -, -, hat⟩ := (Spec.applies_iff hf).mp happ
  obtain ⟨hg, hn⟩ := and_e (Cond.before_iff.mp (show (Jvm.Cond.and given_1 narrow_1).before args s = true from hpre))
  obtain ⟨gc, gv⟩ := and_e hg
  obtain ⟨g0, gv⟩ := and_e gv
  obtain ⟨g1, gv⟩ := and_e gv
  obtain ⟨g2, gv⟩ := and_e gv
  obtain ⟨g3, gv⟩ := and_e gv
  obtain ⟨g4, gv⟩ := and_e gv
  obtain ⟨w0, w1, w2, w3, w4, w5, rfl⟩ : ∃ w0 w1 w2 w3 w4 w5 : Value, args = #[w0, w1, w2, w3, w4, w5] := by
    have hs : args.size = 6 := by simpa [Cond.value, given_1] using gc
    obtain ⟨L⟩ := args
    match L, hs with
    | [w0, w1, w2, w3, w4, w5], _ => exact ⟨w0, w1, w2, w3, w4, w5, rfl⟩
  have hw := fun d (hd : d ∈ tables_1) => atoms_spec (ws := Jvm.Cond.code x code maxLocals ret :: tables_1) hat d (List.mem_cons_of_mem _ hd)
  obtain ⟨hsets, hown0⟩ := atoms_of _ (rest_1_c_eq ▸ (show rest_1_c.before _ s = true from hrest))
  have hfit : Fit s := fun {y c} hc i hi => by
    obtain ⟨ha, rfl⟩ := Array.getElem?_eq_some_iff.mp hc
    have q := List.all_eq_true.mp ((Array.all_eq_true_iff_forall_mem.mp hF) _ (Array.getElem_mem ha)) i (List.mem_range.mpr hi)
    simpa [Array.getElem?_eq_getElem hi] using q
  obtain ⟨p0, ev0⟩ := is_v g0
  obtain rfl : w0 = (.int p0) := Option.some.inj ev0
  obtain ⟨p1, ev1⟩ := is_v g1
  obtain rfl : w1 = (.int p1) := Option.some.inj ev1
  obtain ⟨p2, ev2⟩ := is_v g2
  obtain rfl : w2 = (.int p2) := Option.some.inj ev2
  obtain ⟨p3, ev3⟩ := is_v g3
  obtain rfl : w3 = (.int p3) := Option.some.inj ev3
  obtain ⟨p4, ev4⟩ := is_v g4
  obtain rfl : w4 = (.int p4) := Option.some.inj ev4
  obtain ⟨p5, ev5⟩ := is_v gv
  obtain rfl : w5 = (.int p5) := Option.some.inj ev5
  obtain ⟨gcs, ecs⟩ := is_v (Cond.before_iff.mp (hsets _ (List.mem_of_getElem? (i := 1) rfl)))
  have SC : Sta s s.heap "java/lang/String" "COMPACT_STRINGS" "Z" (.int gcs) := Sta.start ecs (Or.inl (hsets _ (List.mem_of_getElem? (i := 0) rfl)))
  have hgc : ¬ (gcs = (0 : Int32)) := gotF (Cond.eq_ints ecs (Term.int_eval (0))) (not_v (Cond.before_iff.mp (hsets _ (List.mem_of_getElem? (i := 2) rfl))))
  have own_seti : ∀ (t : Term) (i : Int32), (Jvm.Cond.eq t (Term.int i)).before #[.int p0, .int p1, .int p2, .int p3, .int p4, .int p5] s = true → t.eval #[.int p0, .int p1, .int p2, .int p3, .int p4, .int p5] s none [] s = some (.int i) := by
    intro t i hq
    have hq := Cond.before_iff.mp hq
    obtain ⟨x, y, q1, q2, q3, -⟩ := cmp_v (Or.inl hq)
    cases (Term.int_eval i).symm.trans q2
    cases x <;> simp only [Kin] at q3
    · have := gotT (Cond.eq_ints q1 (Term.int_eval i)) hq
      rw [q1, this]
    all_goals first | (obtain ⟨z, q3⟩ := q3; cases q3) | (cases q3.2)
  have hU : own_U16 (l, s, [], true) := ⟨Sta.start (own_seti _ _ (hsets _ (List.mem_of_getElem? (i := 12) rfl))) (Or.inl (hsets _ (List.mem_of_getElem? (i := 11) rfl))), Sta.start (own_seti _ _ (hsets _ (List.mem_of_getElem? (i := 15) rfl))) (Or.inl (hsets _ (List.mem_of_getElem? (i := 14) rfl))), Sta.start (own_seti _ _ (hsets _ (List.mem_of_getElem? (i := 18) rfl))) (Or.inl (hsets _ (List.mem_of_getElem? (i := 17) rfl)))⟩
  obtain ⟨rf, erf, hrf⟩ := isR_v (Cond.before_iff.mp (hsets _ (List.mem_of_getElem? (i := 8) rfl)))
  have SF : Sta s s.heap "jdk/internal/util/Preconditions" "SIOOBE_FORMATTER" "Ljava/util/function/BiFunction;" rf := Sta.start erf (Or.inl (hsets _ (List.mem_of_getElem? (i := 7) rfl)))
  obtain ⟨rg, erg, hrg⟩ := isR_v (Cond.before_iff.mp (Cond.isRef_static_of_fit (s := s) (show heapFits' s = true from hF) (t := .object "java/util/function/BiFunction") (by decide) (by decide) (tw_146 hw)))
  have SG : Sta s s.heap "jdk/internal/util/Preconditions" "IOOBE_FORMATTER" "Ljava/util/function/BiFunction;" rg := Sta.start erg (Or.inr ⟨(tw_75 hw), (tw_146 hw)⟩)
  have main := c_law (l, s, [], true) _ hw hU rf hrf SF rg hrg SG gcs SC hgc p0 p1 p2 p3 p4 p5 s.heap
  have hEW : EW s #[.int p0, .int p1, .int p2, .int p3, .int p4, .int p5] [] := EW.nil
  have hCH : CHv s [] s.vm s.heap := fun p hp => nomatch hp
  obtain ⟨n, o, h1, h2, h3, v, L, xs, rfl, ⟨w, e0, hq⟩, N, hC, hS, hE, hR, hwm⟩ := main tables_1 p e ha hc hk s m _ below hf ((Spec.applies_iff_loose hf).mp happ).1 ⟨rfl, State.Warmed39.refl s, rfl, ⟨_, hEW⟩, hCH, (fun x hx => nomatch hx), own_ext_refl _⟩ trivial
  subst e0
  subst hq
  refine ⟨n, _, h1, h2, h3, hpost _ _ _ _ _ _ ⟨Cond.after_iff.mpr rfl, Cond.after_iff.mpr (eq_i res_at (Term.int_eval (1)) rfl), trivial⟩ ⟨⟨_, rfl⟩, hwm rfl, (hR.2.2.2.sift fun y hy => Or.inr (N y hy)).mono (by decide) (by decide)⟩⟩
theorem main_1_1 : Claimed_1_1 := comes_1 fun _ _ _ _ _ _ h hF => ⟨h.1, hF⟩
theorem main_1_2 : Claimed_1_2 := comes_1 fun _ _ _ _ _ _ h hF => ⟨h.2.1, hF⟩
end Jvm.Pilot.@@N@@
namespace Jvm.Pilot.@@N@@
open Jvm Jvm.ClassFile Sem Op Lib Jvm.Free Jvm.Stand Jvm.Pilot.@@N@@.Jvm.D
/-! MADE BY PROGRAM (witnessworld.py) out of the Statement's table words and the real class files: 26 classes; the members and pool entries that the words name. The judged class is class 1, her method 6. -/
namespace start1
open Jvm.ClassFile
def u (s : String) : CpInfo := .utf8 (stringToUtf16 s)
/-- a pool by its gaps: so many unusable entries, then the entry; so many at the end -/
def gap : Nat → List CpInfo → List CpInfo
  | 0, r => r
  | n + 1, r => .unusable :: gap n r
def poolList (es : List (Nat × CpInfo)) (last : Nat) : List CpInfo := es.foldr (fun e r => gap e.1 (e.2 :: r)) (gap last [])
def pool (es : List (Nat × CpInfo)) (last : Nat) : Array CpInfo := ⟨poolList es last⟩
def fileOf (pool : Array CpInfo) (this : Nat) (attrs : Array Attribute := #[]) (ms : Array MethodInfo := #[]) (fl : Nat := 33) (sup : Nat := 0) (ifs : Array Nat := #[]) (fds : Array FieldInfo := #[]) : ClassFile where
  minorVersion := 0
  majorVersion := 65
  constantPool := pool
  accessFlags := fl
  thisClass := this
  superClass := sup
  interfaces := ifs
  fields := fds
  methods := ms
  attributes := attrs
def plain (name : String) (sup : Option ClassId) : Class where
  name := name
  kind := .ordinary
  loader := none
  accessFlags := 33
  super := sup
  interfaces := #[]
  cf := none
  fields := #[]
  methods := #[]
  instanceTypes := #[]
  staticTypes := #[]
  resolved := #[]
  callSites := []
  init := .initialized
  statics := none
  mirror := none

def pool0 : Array CpInfo := pool [(5, u "<init>"), (0, u "()V"), (1, .class_ 10), (1, u "java/lang/Object")] 113

def k0c0 : Code := { maxStack := 0, maxLocals := 1, code := object_method_1_code, exceptionTable := #[], attributes := #[] }
def k0m0 : Method := { name := "<init>", desc := "()V", sig := { parameters := [], returnType := none }, accessFlags := 1, code := some k0c0 }
/-- java/lang/Object -/
def k0 : Class := { plain "java/lang/Object" none with
  accessFlags := 33
  interfaces := #[]
  cf := some (fileOf pool0 8 #[] #[{ accessFlags := 1, nameIndex := 5, descriptorIndex := 6, attributes := #[] }] 33 0 #[] #[])
  fields := #[]
  methods := #[k0m0]
  instanceTypes := #[]
  staticTypes := #[]
  resolved := Array.replicate 124 none
  statics := none }

def pool1 : Array CpInfo := pool [(2, .class_ 4), (1, u "java/lang/Object"), (0, u "<init>"), (0, u "()V"), (0, .integer 65535), (0, .methodref 9 10), (0, .class_ 11), (0, .nameAndType 12 13), (0, u "com/example/selgen/selgen/CompactJsonOfPinLaw"), (0, u "ws"), (0, u "(C)Z"), (0, .methodref 15 16), (0, .class_ 17), (0, .nameAndType 18 19), (0, u "java/lang/String"), (0, u "charAt"), (0, u "(I)C"), (0, .methodref 9 21), (0, .nameAndType 22 19), (0, u "draw"), (0, .methodref 15 24), (0, .nameAndType 5 25), (0, u "([C)V"), (0, .methodref 9 27), (0, .nameAndType 28 29), (0, u "keep"), (0, u "(IC)Z"), (0, .methodref 9 31), (0, .nameAndType 32 33), (0, u "next"), (0, u "(IC)I"), (0, .methodref 35 36), (0, .class_ 37), (0, .nameAndType 38 39), (0, u "com/example/selgen/selgen/CompactJson"), (0, u "of"), (0, u "(Ljava/lang/String;)Ljava/lang/String;"), (0, .methodref 15 41), (0, .nameAndType 42 43), (0, u "length"), (0, u "()I"), (0, .methodref 9 45), (0, .nameAndType 46 47), (0, u "at"), (0, u "(Ljava/lang/String;II[C)Z"), (3, u "law"), (0, u "(IIIIII)Z")] 4

def k1m0 : Method := { name := "<init>", desc := "()V", sig := { parameters := [], returnType := none }, accessFlags := 1, code := none }
def k1c1 : Code := { maxStack := 2, maxLocals := 2, code := method_2_code, exceptionTable := #[], attributes := #[] }
def k1m1 : Method := { name := "draw", desc := "(I)C", sig := { parameters := [.int], returnType := some .char }, accessFlags := 10, code := some k1c1 }
def k1c2 : Code := { maxStack := 2, maxLocals := 1, code := method_3_code, exceptionTable := #[], attributes := #[] }
def k1m2 : Method := { name := "ws", desc := "(C)Z", sig := { parameters := [.char], returnType := some .boolean }, accessFlags := 10, code := some k1c2 }
def k1c3 : Code := { maxStack := 2, maxLocals := 2, code := method_4_code, exceptionTable := #[], attributes := #[] }
def k1m3 : Method := { name := "next", desc := "(IC)I", sig := { parameters := [.int, .char], returnType := some .int }, accessFlags := 10, code := some k1c3 }
def k1c4 : Code := { maxStack := 1, maxLocals := 2, code := method_5_code, exceptionTable := #[], attributes := #[] }
def k1m4 : Method := { name := "keep", desc := "(IC)Z", sig := { parameters := [.int, .char], returnType := some .boolean }, accessFlags := 10, code := some k1c4 }
def k1c5 : Code := { maxStack := 3, maxLocals := 4, code := method_6_code, exceptionTable := #[], attributes := #[] }
def k1m5 : Method := { name := "at", desc := "(Ljava/lang/String;II[C)Z", sig := { parameters := [(.object "java/lang/String"), .int, .int, (.array .char)], returnType := some .boolean }, accessFlags := 10, code := some k1c5 }
def k1c6 : Code := { maxStack := 4, maxLocals := 13, code := code, exceptionTable := #[], attributes := #[] }
def k1m6 : Method := { name := "law", desc := "(IIIIII)Z", sig := { parameters := [.int, .int, .int, .int, .int, .int], returnType := some .boolean }, accessFlags := 9, code := some k1c6 }
/-- com/example/selgen/selgen/CompactJsonOfPinLaw -/
def k1 : Class := { plain "com/example/selgen/selgen/CompactJsonOfPinLaw" (some 0) with
  accessFlags := 49
  interfaces := #[]
  cf := some (fileOf pool1 9 #[] #[{ accessFlags := 1, nameIndex := 5, descriptorIndex := 6, attributes := #[] }, { accessFlags := 10, nameIndex := 22, descriptorIndex := 19, attributes := #[] }, { accessFlags := 10, nameIndex := 12, descriptorIndex := 13, attributes := #[] }, { accessFlags := 10, nameIndex := 32, descriptorIndex := 33, attributes := #[] }, { accessFlags := 10, nameIndex := 28, descriptorIndex := 29, attributes := #[] }, { accessFlags := 10, nameIndex := 46, descriptorIndex := 47, attributes := #[] }, { accessFlags := 9, nameIndex := 51, descriptorIndex := 52, attributes := #[] }] 49 2 #[] #[])
  fields := #[]
  methods := #[k1m0, k1m1, k1m2, k1m3, k1m4, k1m5, k1m6]
  instanceTypes := #[]
  staticTypes := #[]
  resolved := Array.replicate 57 none
  statics := none }

def pool2 : Array CpInfo := pool [(1, .class_ 2), (0, u "java/io/Serializable"), (0, .class_ 4), (0, u "java/lang/Object")] 2

/-- java/io/Serializable -/
def k2 : Class := { plain "java/io/Serializable" (some 0) with
  accessFlags := 1537
  interfaces := #[]
  cf := some (fileOf pool2 1 #[] #[] 1537 3 #[] #[])
  fields := #[]
  methods := #[]
  instanceTypes := #[]
  staticTypes := #[]
  resolved := Array.replicate 7 none
  statics := none }

def pool3 : Array CpInfo := pool [(1, .class_ 2), (0, u "java/lang/Comparable"), (0, .class_ 4), (0, u "java/lang/Object")] 7

/-- java/lang/Comparable -/
def k3 : Class := { plain "java/lang/Comparable" (some 0) with
  accessFlags := 1537
  interfaces := #[]
  cf := some (fileOf pool3 1 #[] #[] 1537 3 #[] #[])
  fields := #[]
  methods := #[]
  instanceTypes := #[]
  staticTypes := #[]
  resolved := Array.replicate 12 none
  statics := none }

def pool4 : Array CpInfo := pool [(2, .class_ 4), (1, u "java/lang/CharSequence"), (0, u "length"), (0, u "()I"), (40, .class_ 48), (0, u "java/lang/CharSequence$1CodePointIterator"), (10, .class_ 60), (0, u "java/lang/CharSequence$1CharIterator"), (5, .class_ 67), (0, u "java/lang/Object")] 63

def k4m0 : Method := { name := "length", desc := "()I", sig := { parameters := [], returnType := some .int }, accessFlags := 1025, code := none }
/-- java/lang/CharSequence -/
def k4 : Class := { plain "java/lang/CharSequence" (some 0) with
  accessFlags := 1537
  interfaces := #[]
  cf := some (fileOf pool4 2 #[.nestMembers #[47, 59]] #[{ accessFlags := 1025, nameIndex := 5, descriptorIndex := 6, attributes := #[] }] 1537 66 #[] #[])
  fields := #[]
  methods := #[k4m0]
  instanceTypes := #[]
  staticTypes := #[]
  resolved := Array.replicate 131 none
  statics := none }

def pool5 : Array CpInfo := pool [(1, .class_ 2), (0, u "java/lang/constant/Constable"), (0, .class_ 4), (0, u "java/lang/Object")] 6

/-- java/lang/constant/Constable -/
def k5 : Class := { plain "java/lang/constant/Constable" (some 0) with
  accessFlags := 1537
  interfaces := #[]
  cf := some (fileOf pool5 1 #[] #[] 1537 3 #[] #[])
  fields := #[]
  methods := #[]
  instanceTypes := #[]
  staticTypes := #[]
  resolved := Array.replicate 11 none
  statics := none }

def pool6 : Array CpInfo := pool [(1, .class_ 2), (0, u "java/lang/constant/ConstantDesc"), (0, .class_ 4), (0, u "java/lang/Object")] 32

/-- java/lang/constant/ConstantDesc -/
def k6 : Class := { plain "java/lang/constant/ConstantDesc" (some 0) with
  accessFlags := 1537
  interfaces := #[]
  cf := some (fileOf pool6 1 #[] #[] 1537 3 #[] #[])
  fields := #[]
  methods := #[]
  instanceTypes := #[]
  staticTypes := #[]
  resolved := Array.replicate 37 none
  statics := none }

def pool7 : Array CpInfo := pool [(1, .methodref 2 3), (0, .class_ 4), (0, .nameAndType 5 6), (0, u "java/lang/Object"), (0, u "<init>"), (0, u "()V"), (2, .fieldref 10 11), (0, .class_ 12), (0, .nameAndType 13 14), (0, u "java/lang/String"), (0, u "value"), (0, u "[B"), (0, .fieldref 10 16), (0, .nameAndType 17 18), (0, u "coder"), (0, u "B"), (2, u "hash"), (0, u "I"), (2, u "hashIsZero"), (0, u "Z"), (0, .methodref 10 28), (0, .nameAndType 5 29), (0, u "([CIILjava/lang/Void;)V"), (6, u "checkBoundsOffCount"), (0, u "(III)I"), (0, .fieldref 10 39), (0, .nameAndType 40 26), (0, u "COMPACT_STRINGS"), (1, .class_ 44), (1, u "java/lang/StringUTF16"), (0, u "compress"), (1, .methodref 42 48), (0, .nameAndType 49 50), (0, u "coderFromArrayLen"), (0, u "([BI)B"), (3, .methodref 55 56), (0, .class_ 57), (0, .nameAndType 58 59), (0, u "java/util/Arrays"), (0, u "copyOfRange"), (0, u "([BII)[B"), (47, .class_ 109), (1, u "java/lang/StringLatin1"), (32, u "()Z"), (34, .methodref 42 178), (0, .nameAndType 45 179), (0, u "([CII)[B"), (154, u "()I"), (0, .methodref 10 336), (0, .nameAndType 17 337), (0, u "()B"), (2, u "()[B"), (22, u "([BI)C"), (27, u "(II)V"), (35, u "(I)C"), (61, .methodref 10 490), (0, .nameAndType 5 491), (0, u "(Ljava/lang/AbstractStringBuilder;Ljava/lang/Void;)V"), (0, .methodref 10 493), (0, .nameAndType 494 142), (0, u "isLatin1"), (0, .methodref 107 496), (0, .nameAndType 497 363), (0, u "charAt"), (0, .methodref 42 496), (2, u "checkIndex"), (3, .methodref 10 506), (0, .nameAndType 507 334), (0, u "length"), (5, u "checkFromToIndex"), (9, u "checkBoundsBeginEnd"), (0, u "(III)V"), (24, .methodref 550 506), (0, .class_ 551), (0, u "java/lang/AbstractStringBuilder"), (0, .methodref 550 553), (0, .nameAndType 554 340), (0, u "getValue"), (20, .class_ 576), (0, u "java/lang/CharSequence"), (22, u "CASE_INSENSITIVE_ORDER"), (0, u "Ljava/util/Comparator;"), (34, u "indexOf"), (0, u "(II)I"), (0, .methodref 107 638), (0, .nameAndType 635 639), (0, u "([BIII)I"), (0, .methodref 42 638), (369, u "([C)V"), (36, .methodref 550 493), (0, .fieldref 550 1049), (0, .nameAndType 1050 26), (0, u "maybeLatin1"), (2, .fieldref 1054 1055), (0, .class_ 1056), (0, .nameAndType 1057 1058), (0, u "jdk/internal/util/Preconditions"), (0, u "SIOOBE_FORMATTER"), (0, u "Ljava/util/function/BiFunction;"), (0, .methodref 1054 1060), (0, .nameAndType 501 1061), (0, u "(IILjava/util/function/BiFunction;)I"), (0, .methodref 1054 1063), (0, .nameAndType 513 1064), (0, u "(IIILjava/util/function/BiFunction;)I"), (0, .methodref 1054 1066), (0, .nameAndType 1067 1064), (0, u "checkFromIndexSize"), (33, u "serialPersistentFields"), (0, u "[Ljava/io/ObjectStreamField;"), (0, .class_ 1104), (0, u "java/lang/String$CaseInsensitiveComparator"), (1, .class_ 1107), (0, u "java/io/Serializable"), (0, .class_ 1109), (0, u "java/lang/Comparable"), (0, .class_ 1111), (0, u "java/lang/constant/Constable"), (0, .class_ 1113), (0, u "java/lang/constant/ConstantDesc"), (2, u "serialVersionUID"), (0, u "J"), (3, u "REPL"), (0, u "C"), (2, u "LATIN1"), (1, u "UTF16"), (105, u "(Ljava/lang/StringBuilder;)V")] 217

def k7m0 : Method := { name := "<init>", desc := "()V", sig := { parameters := [], returnType := none }, accessFlags := 1, code := none }
def k7c1 : Code := { maxStack := 5, maxLocals := 2, code := jdk_42_method_3_code, exceptionTable := #[], attributes := #[] }
def k7m1 : Method := { name := "<init>", desc := "([C)V", sig := { parameters := [(.array .char)], returnType := none }, accessFlags := 1, code := some k7c1 }
def k7c2 : Code := { maxStack := 3, maxLocals := 2, code := jdk_42_method_53_code, exceptionTable := #[], attributes := #[] }
def k7m2 : Method := { name := "<init>", desc := "(Ljava/lang/StringBuilder;)V", sig := { parameters := [(.object "java/lang/StringBuilder")], returnType := none }, accessFlags := 1, code := some k7c2 }
def k7c3 : Code := { maxStack := 2, maxLocals := 1, code := jdk_42_method_54_code, exceptionTable := #[], attributes := #[] }
def k7m3 : Method := { name := "length", desc := "()I", sig := { parameters := [], returnType := some .int }, accessFlags := 1, code := some k7c3 }
def k7c4 : Code := { maxStack := 2, maxLocals := 2, code := jdk_42_method_56_code, exceptionTable := #[], attributes := #[] }
def k7m4 : Method := { name := "charAt", desc := "(I)C", sig := { parameters := [.int], returnType := some .char }, accessFlags := 1, code := some k7c4 }
def k7c5 : Code := { maxStack := 4, maxLocals := 3, code := jdk_42_method_80_code, exceptionTable := #[], attributes := #[] }
def k7m5 : Method := { name := "indexOf", desc := "(II)I", sig := { parameters := [.int, .int], returnType := some .int }, accessFlags := 1, code := some k7c5 }
def k7c6 : Code := { maxStack := 4, maxLocals := 6, code := jdk_42_method_149_code, exceptionTable := #[], attributes := #[] }
def k7m6 : Method := { name := "<init>", desc := "([CIILjava/lang/Void;)V", sig := { parameters := [(.array .char), .int, .int, (.object "java/lang/Void")], returnType := none }, accessFlags := 2, code := some k7c6 }
def k7c7 : Code := { maxStack := 5, maxLocals := 5, code := jdk_42_method_150_code, exceptionTable := #[], attributes := #[] }
def k7m7 : Method := { name := "<init>", desc := "(Ljava/lang/AbstractStringBuilder;Ljava/lang/Void;)V", sig := { parameters := [(.object "java/lang/AbstractStringBuilder"), (.object "java/lang/Void")], returnType := none }, accessFlags := 0, code := some k7c7 }
def k7c8 : Code := { maxStack := 1, maxLocals := 1, code := jdk_42_method_152_code, exceptionTable := #[], attributes := #[] }
def k7m8 : Method := { name := "coder", desc := "()B", sig := { parameters := [], returnType := some .byte }, accessFlags := 0, code := some k7c8 }
def k7c9 : Code := { maxStack := 1, maxLocals := 1, code := jdk_42_method_153_code, exceptionTable := #[], attributes := #[] }
def k7m9 : Method := { name := "value", desc := "()[B", sig := { parameters := [], returnType := some (.array .byte) }, accessFlags := 0, code := some k7c9 }
def k7c10 : Code := { maxStack := 1, maxLocals := 1, code := jdk_42_method_154_code, exceptionTable := #[], attributes := #[] }
def k7m10 : Method := { name := "isLatin1", desc := "()Z", sig := { parameters := [], returnType := some .boolean }, accessFlags := 0, code := some k7c10 }
def k7c11 : Code := { maxStack := 3, maxLocals := 2, code := jdk_42_method_155_code, exceptionTable := #[], attributes := #[] }
def k7m11 : Method := { name := "checkIndex", desc := "(II)V", sig := { parameters := [.int, .int], returnType := none }, accessFlags := 8, code := some k7c11 }
def k7c12 : Code := { maxStack := 4, maxLocals := 3, code := jdk_42_method_157_code, exceptionTable := #[], attributes := #[] }
def k7m12 : Method := { name := "checkBoundsOffCount", desc := "(III)I", sig := { parameters := [.int, .int, .int], returnType := some .int }, accessFlags := 8, code := some k7c12 }
def k7c13 : Code := { maxStack := 4, maxLocals := 3, code := jdk_42_method_158_code, exceptionTable := #[], attributes := #[] }
def k7m13 : Method := { name := "checkBoundsBeginEnd", desc := "(III)V", sig := { parameters := [.int, .int, .int], returnType := none }, accessFlags := 8, code := some k7c13 }
/-- java/lang/String -/
def k7 : Class := { plain "java/lang/String" (some 0) with
  accessFlags := 49
  interfaces := #[2, 3, 4, 5, 6]
  cf := some (fileOf pool7 10 #[.nestMembers #[1103]] #[{ accessFlags := 1, nameIndex := 5, descriptorIndex := 6, attributes := #[] }, { accessFlags := 1, nameIndex := 5, descriptorIndex := 1010, attributes := #[] }, { accessFlags := 1, nameIndex := 5, descriptorIndex := 1233, attributes := #[] }, { accessFlags := 1, nameIndex := 507, descriptorIndex := 334, attributes := #[] }, { accessFlags := 1, nameIndex := 497, descriptorIndex := 427, attributes := #[] }, { accessFlags := 1, nameIndex := 635, descriptorIndex := 636, attributes := #[] }, { accessFlags := 2, nameIndex := 5, descriptorIndex := 29, attributes := #[] }, { accessFlags := 0, nameIndex := 5, descriptorIndex := 491, attributes := #[] }, { accessFlags := 0, nameIndex := 17, descriptorIndex := 337, attributes := #[] }, { accessFlags := 0, nameIndex := 13, descriptorIndex := 340, attributes := #[] }, { accessFlags := 0, nameIndex := 494, descriptorIndex := 142, attributes := #[] }, { accessFlags := 8, nameIndex := 501, descriptorIndex := 391, attributes := #[] }, { accessFlags := 8, nameIndex := 36, descriptorIndex := 37, attributes := #[] }, { accessFlags := 8, nameIndex := 523, descriptorIndex := 524, attributes := #[] }] 49 2 #[1106, 1108, 575, 1110, 1112] #[{ accessFlags := 18, nameIndex := 13, descriptorIndex := 14, attributes := #[] }, { accessFlags := 18, nameIndex := 17, descriptorIndex := 18, attributes := #[] }, { accessFlags := 2, nameIndex := 21, descriptorIndex := 22, attributes := #[] }, { accessFlags := 2, nameIndex := 25, descriptorIndex := 26, attributes := #[] }, { accessFlags := 26, nameIndex := 1116, descriptorIndex := 1117, attributes := #[] }, { accessFlags := 24, nameIndex := 40, descriptorIndex := 26, attributes := #[] }, { accessFlags := 26, nameIndex := 1101, descriptorIndex := 1102, attributes := #[] }, { accessFlags := 26, nameIndex := 1121, descriptorIndex := 1122, attributes := #[] }, { accessFlags := 25, nameIndex := 599, descriptorIndex := 600, attributes := #[] }, { accessFlags := 24, nameIndex := 1125, descriptorIndex := 18, attributes := #[] }, { accessFlags := 24, nameIndex := 1127, descriptorIndex := 18, attributes := #[] }])
  fields := #[{ name := "value", type := (.array .byte), accessFlags := 18, slot := 0, constantValue := 0 }, { name := "coder", type := .byte, accessFlags := 18, slot := 1, constantValue := 0 }, { name := "hash", type := .int, accessFlags := 2, slot := 2, constantValue := 0 }, { name := "hashIsZero", type := .boolean, accessFlags := 2, slot := 3, constantValue := 0 }, { name := "serialVersionUID", type := .long, accessFlags := 26, slot := 0, constantValue := 0 }, { name := "COMPACT_STRINGS", type := .boolean, accessFlags := 24, slot := 1, constantValue := 0 }, { name := "serialPersistentFields", type := (.array (.object "java/io/ObjectStreamField")), accessFlags := 26, slot := 2, constantValue := 0 }, { name := "REPL", type := .char, accessFlags := 26, slot := 3, constantValue := 0 }, { name := "CASE_INSENSITIVE_ORDER", type := (.object "java/util/Comparator"), accessFlags := 25, slot := 4, constantValue := 0 }, { name := "LATIN1", type := .byte, accessFlags := 24, slot := 5, constantValue := 0 }, { name := "UTF16", type := .byte, accessFlags := 24, slot := 6, constantValue := 0 }]
  methods := #[k7m0, k7m1, k7m2, k7m3, k7m4, k7m5, k7m6, k7m7, k7m8, k7m9, k7m10, k7m11, k7m12, k7m13]
  instanceTypes := #[(.array .byte), .byte, .int, .boolean]
  staticTypes := #[.long, .boolean, (.array (.object "java/io/ObjectStreamField")), .char, (.object "java/util/Comparator"), .byte, .byte]
  resolved := Array.replicate 1451 none
  statics := some 0 }

def pool8 : Array CpInfo := pool [(3, .class_ 4), (0, u "java/lang/String"), (1, .class_ 8), (1, u "java/lang/Object"), (0, u "<init>"), (0, u "()V"), (0, .methodref 12 13), (0, .class_ 14), (0, .nameAndType 15 16), (0, u "java/lang/StringUTF16"), (0, u "newBytesLength"), (0, u "(I)I"), (3, .integer 1073741823), (23, .fieldref 12 45), (0, .nameAndType 46 47), (0, u "$assertionsDisabled"), (0, u "Z"), (0, .methodref 12 49), (0, .nameAndType 50 51), (0, u "length"), (0, u "([B)I"), (7, .fieldref 12 60), (0, .nameAndType 61 62), (0, u "HI_BYTE_SHIFT"), (0, u "I"), (0, .fieldref 12 64), (0, .nameAndType 65 62), (0, u "LO_BYTE_SHIFT"), (1, .methodref 12 68), (0, .nameAndType 69 70), (0, u "checkIndex"), (0, u "(I[B)V"), (0, .methodref 12 72), (0, .nameAndType 73 74), (0, u "getChar"), (0, u "([BI)C"), (21, .methodref 12 97), (0, .nameAndType 98 99), (0, u "checkBoundsBeginEnd"), (0, u "(II[B)V"), (7, .methodref 12 108), (0, .nameAndType 109 110), (0, u "newBytesFor"), (0, u "(I)[B"), (0, .methodref 12 112), (0, .nameAndType 113 114), (0, u "putChar"), (0, u "([BII)V"), (0, .methodref 12 116), (0, .nameAndType 117 118), (0, u "compress"), (0, u "([CI[BII)I"), (0, .methodref 12 120), (0, .nameAndType 121 122), (0, u "toBytes"), (0, u "([CII)[B"), (17, u "inflate"), (0, u "([BI[BII)V"), (31, .methodref 12 174), (0, .nameAndType 175 99), (0, u "checkBoundsOffCount"), (7, .methodref 184 185), (0, .class_ 186), (0, .nameAndType 187 188), (0, u "java/lang/Math"), (0, u "min"), (0, u "(II)I"), (35, .methodref 184 225), (0, .nameAndType 226 188), (0, u "max"), (0, .integer 65536), (0, .methodref 12 229), (0, .nameAndType 230 231), (0, u "indexOfChar"), (0, u "([BIII)I"), (9, .methodref 3 242), (0, .nameAndType 98 243), (0, u "(III)V"), (0, .methodref 12 245), (0, .nameAndType 246 231), (0, u "indexOfCharUnsafe"), (14, u "coderFromArrayLen"), (0, u "([BI)B"), (5, u "indexOf"), (12, u "(III)I"), (87, .class_ 371), (1, u "java/lang/StringUTF16$LinesSpliterator"), (20, u "charAt"), (21, .methodref 3 415), (0, .nameAndType 69 416), (0, u "(II)V"), (2, .methodref 3 420), (0, .nameAndType 175 281), (9, u "MAX_LENGTH"), (196, .class_ 628), (0, u "java/lang/StringUTF16$CodePointsSpliterator"), (0, .class_ 630), (0, u "java/lang/StringUTF16$CharsSpliterator")] 4

def k8m0 : Method := { name := "<init>", desc := "()V", sig := { parameters := [], returnType := none }, accessFlags := 0, code := none }
def k8c1 : Code := { maxStack := 1, maxLocals := 1, code := jdk_52_method_2_code, exceptionTable := #[], attributes := #[] }
def k8m1 : Method := { name := "newBytesFor", desc := "(I)[B", sig := { parameters := [.int], returnType := some (.array .byte) }, accessFlags := 9, code := some k8c1 }
def k8c2 : Code := { maxStack := 4, maxLocals := 1, code := jdk_52_method_3_code, exceptionTable := #[], attributes := #[] }
def k8m2 : Method := { name := "newBytesLength", desc := "(I)I", sig := { parameters := [.int], returnType := some .int }, accessFlags := 9, code := some k8c2 }
def k8c3 : Code := { maxStack := 4, maxLocals := 3, code := jdk_52_method_4_code, exceptionTable := #[], attributes := #[] }
def k8m3 : Method := { name := "putChar", desc := "([BII)V", sig := { parameters := [(.array .byte), .int, .int], returnType := none }, accessFlags := 8, code := some k8c3 }
def k8c4 : Code := { maxStack := 3, maxLocals := 2, code := jdk_52_method_5_code, exceptionTable := #[], attributes := #[] }
def k8m4 : Method := { name := "getChar", desc := "([BI)C", sig := { parameters := [(.array .byte), .int], returnType := some .char }, accessFlags := 8, code := some k8c4 }
def k8c5 : Code := { maxStack := 2, maxLocals := 1, code := jdk_52_method_6_code, exceptionTable := #[], attributes := #[] }
def k8m5 : Method := { name := "length", desc := "([B)I", sig := { parameters := [(.array .byte)], returnType := some .int }, accessFlags := 9, code := some k8c5 }
def k8c6 : Code := { maxStack := 4, maxLocals := 5, code := jdk_52_method_14_code, exceptionTable := #[], attributes := #[] }
def k8m6 : Method := { name := "toBytes", desc := "([CII)[B", sig := { parameters := [(.array .char), .int, .int], returnType := some (.array .byte) }, accessFlags := 9, code := some k8c6 }
def k8c7 : Code := { maxStack := 2, maxLocals := 2, code := jdk_52_method_15_code, exceptionTable := #[], attributes := #[] }
def k8m7 : Method := { name := "coderFromArrayLen", desc := "([BI)B", sig := { parameters := [(.array .byte), .int], returnType := some .byte }, accessFlags := 8, code := some k8c7 }
def k8c8 : Code := { maxStack := 5, maxLocals := 6, code := jdk_52_method_16_code, exceptionTable := #[], attributes := #[] }
def k8m8 : Method := { name := "compress", desc := "([CII)[B", sig := { parameters := [(.array .char), .int, .int], returnType := some (.array .byte) }, accessFlags := 9, code := some k8c8 }
def k8c9 : Code := { maxStack := 3, maxLocals := 7, code := jdk_52_method_21_code, exceptionTable := #[], attributes := #[] }
def k8m9 : Method := { name := "compress", desc := "([CI[BII)I", sig := { parameters := [(.array .char), .int, (.array .byte), .int, .int], returnType := some .int }, accessFlags := 9, code := some k8c9 }
def k8c10 : Code := { maxStack := 4, maxLocals := 4, code := jdk_52_method_40_code, exceptionTable := #[], attributes := #[] }
def k8m10 : Method := { name := "indexOf", desc := "([BIII)I", sig := { parameters := [(.array .byte), .int, .int, .int], returnType := some .int }, accessFlags := 9, code := some k8c10 }
def k8c11 : Code := { maxStack := 4, maxLocals := 4, code := jdk_52_method_47_code, exceptionTable := #[], attributes := #[] }
def k8m11 : Method := { name := "indexOfChar", desc := "([BIII)I", sig := { parameters := [(.array .byte), .int, .int, .int], returnType := some .int }, accessFlags := 10, code := some k8c11 }
def k8c12 : Code := { maxStack := 2, maxLocals := 5, code := jdk_52_method_48_code, exceptionTable := #[], attributes := #[] }
def k8m12 : Method := { name := "indexOfCharUnsafe", desc := "([BIII)I", sig := { parameters := [(.array .byte), .int, .int, .int], returnType := some .int }, accessFlags := 10, code := some k8c12 }
def k8c13 : Code := { maxStack := 2, maxLocals := 2, code := jdk_52_method_83_code, exceptionTable := #[], attributes := #[] }
def k8m13 : Method := { name := "charAt", desc := "([BI)C", sig := { parameters := [(.array .byte), .int], returnType := some .char }, accessFlags := 9, code := some k8c13 }
def k8c14 : Code := { maxStack := 4, maxLocals := 6, code := jdk_52_method_86_code, exceptionTable := #[], attributes := #[] }
def k8m14 : Method := { name := "inflate", desc := "([BI[BII)V", sig := { parameters := [(.array .byte), .int, (.array .byte), .int, .int], returnType := none }, accessFlags := 9, code := some k8c14 }
def k8c15 : Code := { maxStack := 2, maxLocals := 2, code := jdk_52_method_91_code, exceptionTable := #[], attributes := #[] }
def k8m15 : Method := { name := "checkIndex", desc := "(I[B)V", sig := { parameters := [.int, (.array .byte)], returnType := none }, accessFlags := 9, code := some k8c15 }
def k8c16 : Code := { maxStack := 3, maxLocals := 3, code := jdk_52_method_93_code, exceptionTable := #[], attributes := #[] }
def k8m16 : Method := { name := "checkBoundsBeginEnd", desc := "(II[B)V", sig := { parameters := [.int, .int, (.array .byte)], returnType := none }, accessFlags := 9, code := some k8c16 }
def k8c17 : Code := { maxStack := 3, maxLocals := 3, code := jdk_52_method_94_code, exceptionTable := #[], attributes := #[] }
def k8m17 : Method := { name := "checkBoundsOffCount", desc := "(II[B)V", sig := { parameters := [.int, .int, (.array .byte)], returnType := none }, accessFlags := 9, code := some k8c17 }
/-- java/lang/StringUTF16 -/
def k8 : Class := { plain "java/lang/StringUTF16" (some 0) with
  accessFlags := 48
  interfaces := #[]
  cf := some (fileOf pool8 12 #[.nestMembers #[627, 629, 369]] #[{ accessFlags := 0, nameIndex := 9, descriptorIndex := 10, attributes := #[] }, { accessFlags := 9, nameIndex := 109, descriptorIndex := 110, attributes := #[] }, { accessFlags := 9, nameIndex := 15, descriptorIndex := 16, attributes := #[] }, { accessFlags := 8, nameIndex := 113, descriptorIndex := 114, attributes := #[] }, { accessFlags := 8, nameIndex := 73, descriptorIndex := 74, attributes := #[] }, { accessFlags := 9, nameIndex := 50, descriptorIndex := 51, attributes := #[] }, { accessFlags := 9, nameIndex := 121, descriptorIndex := 122, attributes := #[] }, { accessFlags := 8, nameIndex := 261, descriptorIndex := 262, attributes := #[] }, { accessFlags := 9, nameIndex := 117, descriptorIndex := 122, attributes := #[] }, { accessFlags := 9, nameIndex := 117, descriptorIndex := 118, attributes := #[] }, { accessFlags := 9, nameIndex := 268, descriptorIndex := 231, attributes := #[] }, { accessFlags := 10, nameIndex := 230, descriptorIndex := 231, attributes := #[] }, { accessFlags := 10, nameIndex := 246, descriptorIndex := 231, attributes := #[] }, { accessFlags := 9, nameIndex := 392, descriptorIndex := 74, attributes := #[] }, { accessFlags := 9, nameIndex := 140, descriptorIndex := 141, attributes := #[] }, { accessFlags := 9, nameIndex := 69, descriptorIndex := 70, attributes := #[] }, { accessFlags := 9, nameIndex := 98, descriptorIndex := 99, attributes := #[] }, { accessFlags := 9, nameIndex := 175, descriptorIndex := 99, attributes := #[] }] 48 6 #[] #[{ accessFlags := 26, nameIndex := 61, descriptorIndex := 62, attributes := #[] }, { accessFlags := 26, nameIndex := 65, descriptorIndex := 62, attributes := #[] }, { accessFlags := 24, nameIndex := 430, descriptorIndex := 62, attributes := #[] }, { accessFlags := 4120, nameIndex := 46, descriptorIndex := 47, attributes := #[] }])
  fields := #[{ name := "HI_BYTE_SHIFT", type := .int, accessFlags := 26, slot := 0, constantValue := 0 }, { name := "LO_BYTE_SHIFT", type := .int, accessFlags := 26, slot := 1, constantValue := 0 }, { name := "MAX_LENGTH", type := .int, accessFlags := 24, slot := 2, constantValue := 0 }, { name := "$assertionsDisabled", type := .boolean, accessFlags := 4120, slot := 3, constantValue := 0 }]
  methods := #[k8m0, k8m1, k8m2, k8m3, k8m4, k8m5, k8m6, k8m7, k8m8, k8m9, k8m10, k8m11, k8m12, k8m13, k8m14, k8m15, k8m16, k8m17]
  instanceTypes := #[]
  staticTypes := #[.int, .int, .int, .boolean]
  resolved := Array.replicate 635 none
  statics := some 1 }

def pool9 : Array CpInfo := pool [(2, .class_ 4), (1, u "java/lang/Object"), (0, u "<init>"), (0, u "()V"), (0, .methodref 8 9), (0, .class_ 10), (0, .nameAndType 11 12), (0, u "java/lang/String"), (0, u "length"), (0, u "()I"), (0, .methodref 8 14), (0, .nameAndType 15 16), (0, u "charAt"), (0, u "(I)C"), (0, .methodref 18 19), (0, .class_ 20), (0, .nameAndType 21 22), (0, u "com/example/selgen/selgen/CompactJson"), (0, u "nextOrEnd"), (0, u "(Ljava/lang/String;CI)I"), (0, .class_ 24), (0, u "java/lang/StringBuilder"), (0, .methodref 23 26), (0, .nameAndType 5 27), (0, u "(I)V"), (0, .methodref 23 29), (0, .nameAndType 30 31), (0, u "append"), (0, u "(Ljava/lang/CharSequence;II)Ljava/lang/StringBuilder;"), (0, .methodref 23 33), (0, .nameAndType 34 35), (0, u "toString"), (0, u "()Ljava/lang/String;"), (0, .methodref 8 37), (0, .nameAndType 38 39), (0, u "indexOf"), (0, u "(II)I"), (2, u "of"), (0, u "(Ljava/lang/String;)Ljava/lang/String;")] 3

def k9m0 : Method := { name := "<init>", desc := "()V", sig := { parameters := [], returnType := none }, accessFlags := 2, code := none }
def k9c1 : Code := { maxStack := 4, maxLocals := 8, code := prog_3_method_2_code, exceptionTable := #[], attributes := #[] }
def k9m1 : Method := { name := "of", desc := "(Ljava/lang/String;)Ljava/lang/String;", sig := { parameters := [(.object "java/lang/String")], returnType := some (.object "java/lang/String") }, accessFlags := 8, code := some k9c1 }
def k9c2 : Code := { maxStack := 3, maxLocals := 4, code := prog_3_method_3_code, exceptionTable := #[], attributes := #[] }
def k9m2 : Method := { name := "nextOrEnd", desc := "(Ljava/lang/String;CI)I", sig := { parameters := [(.object "java/lang/String"), .char, .int], returnType := some .int }, accessFlags := 10, code := some k9c2 }
/-- com/example/selgen/selgen/CompactJson -/
def k9 : Class := { plain "com/example/selgen/selgen/CompactJson" (some 0) with
  accessFlags := 48
  interfaces := #[]
  cf := some (fileOf pool9 18 #[] #[{ accessFlags := 2, nameIndex := 5, descriptorIndex := 6, attributes := #[] }, { accessFlags := 8, nameIndex := 42, descriptorIndex := 43, attributes := #[] }, { accessFlags := 10, nameIndex := 21, descriptorIndex := 22, attributes := #[] }] 48 2 #[] #[])
  fields := #[]
  methods := #[k9m0, k9m1, k9m2]
  instanceTypes := #[]
  staticTypes := #[]
  resolved := Array.replicate 47 none
  statics := none }

def pool10 : Array CpInfo := pool [(1, .class_ 2), (0, u "java/lang/String"), (1, .class_ 6), (1, u "java/lang/Object"), (0, u "<init>"), (0, u "()V"), (0, .methodref 1 10), (0, .nameAndType 11 12), (0, u "checkIndex"), (0, u "(II)V"), (1, .class_ 16), (1, u "java/lang/StringLatin1"), (0, u "inflate"), (2, .class_ 22), (1, u "java/lang/StringUTF16"), (3, .nameAndType 17 27), (0, u "([BI[BII)V"), (10, .methodref 39 40), (0, .class_ 41), (0, .nameAndType 42 43), (0, u "java/lang/Math"), (0, u "min"), (0, u "(II)I"), (9, u "([BI)C"), (34, .methodref 14 89), (0, .nameAndType 90 91), (0, u "canEncode"), (0, u "(I)Z"), (0, .methodref 39 93), (0, .nameAndType 94 43), (0, u "max"), (0, .methodref 14 96), (0, .nameAndType 97 98), (0, u "indexOfChar"), (0, u "([BIII)I"), (2, u "indexOf"), (3, u "(C)Z"), (15, u "$assertionsDisabled"), (0, u "Z"), (98, .class_ 223), (1, u "java/lang/StringLatin1$LinesSpliterator"), (16, .methodref 20 26), (11, u "charAt"), (137, .class_ 391), (0, u "java/lang/StringLatin1$CharsSpliterator")] 3

def k10m0 : Method := { name := "<init>", desc := "()V", sig := { parameters := [], returnType := none }, accessFlags := 0, code := none }
def k10c1 : Code := { maxStack := 2, maxLocals := 2, code := jdk_43_method_2_code, exceptionTable := #[], attributes := #[] }
def k10m1 : Method := { name := "charAt", desc := "([BI)C", sig := { parameters := [(.array .byte), .int], returnType := some .char }, accessFlags := 9, code := some k10c1 }
def k10c2 : Code := { maxStack := 2, maxLocals := 1, code := jdk_43_method_3_code, exceptionTable := #[], attributes := #[] }
def k10m2 : Method := { name := "canEncode", desc := "(C)Z", sig := { parameters := [.char], returnType := some .boolean }, accessFlags := 9, code := some k10c2 }
def k10c3 : Code := { maxStack := 2, maxLocals := 1, code := jdk_43_method_4_code, exceptionTable := #[], attributes := #[] }
def k10m3 : Method := { name := "canEncode", desc := "(I)Z", sig := { parameters := [.int], returnType := some .boolean }, accessFlags := 9, code := some k10c3 }
def k10c4 : Code := { maxStack := 4, maxLocals := 4, code := jdk_43_method_22_code, exceptionTable := #[], attributes := #[] }
def k10m4 : Method := { name := "indexOf", desc := "([BIII)I", sig := { parameters := [(.array .byte), .int, .int, .int], returnType := some .int }, accessFlags := 9, code := some k10c4 }
def k10c5 : Code := { maxStack := 2, maxLocals := 6, code := jdk_43_method_23_code, exceptionTable := #[], attributes := #[] }
def k10m5 : Method := { name := "indexOfChar", desc := "([BIII)I", sig := { parameters := [(.array .byte), .int, .int, .int], returnType := some .int }, accessFlags := 10, code := some k10c5 }
def k10c6 : Code := { maxStack := 5, maxLocals := 5, code := jdk_43_method_50_code, exceptionTable := #[], attributes := #[] }
def k10m6 : Method := { name := "inflate", desc := "([BI[BII)V", sig := { parameters := [(.array .byte), .int, (.array .byte), .int, .int], returnType := none }, accessFlags := 9, code := some k10c6 }
/-- java/lang/StringLatin1 -/
def k10 : Class := { plain "java/lang/StringLatin1" (some 0) with
  accessFlags := 48
  interfaces := #[]
  cf := some (fileOf pool10 14 #[.nestMembers #[390, 221]] #[{ accessFlags := 0, nameIndex := 7, descriptorIndex := 8, attributes := #[] }, { accessFlags := 9, nameIndex := 252, descriptorIndex := 53, attributes := #[] }, { accessFlags := 9, nameIndex := 90, descriptorIndex := 105, attributes := #[] }, { accessFlags := 9, nameIndex := 90, descriptorIndex := 91, attributes := #[] }, { accessFlags := 9, nameIndex := 101, descriptorIndex := 98, attributes := #[] }, { accessFlags := 10, nameIndex := 97, descriptorIndex := 98, attributes := #[] }, { accessFlags := 9, nameIndex := 17, descriptorIndex := 27, attributes := #[] }] 48 4 #[] #[{ accessFlags := 4120, nameIndex := 121, descriptorIndex := 122, attributes := #[] }])
  fields := #[{ name := "$assertionsDisabled", type := .boolean, accessFlags := 4120, slot := 0, constantValue := 0 }]
  methods := #[k10m0, k10m1, k10m2, k10m3, k10m4, k10m5, k10m6]
  instanceTypes := #[]
  staticTypes := #[.boolean]
  resolved := Array.replicate 395 none
  statics := none }

def pool11 : Array CpInfo := pool [(2, .class_ 4), (1, u "java/lang/Object"), (0, u "<init>"), (0, u "()V"), (17, .class_ 26), (1, u "jdk/internal/util/Preconditions"), (6, u "checkIndex"), (13, u "checkFromToIndex"), (1, u "checkFromIndexSize"), (5, .class_ 56), (0, u "jdk/internal/util/Preconditions$4"), (57, .class_ 115), (0, u "jdk/internal/util/Preconditions$1"), (7, u "SIOOBE_FORMATTER"), (0, u "Ljava/util/function/BiFunction;"), (0, .class_ 126), (0, u "jdk/internal/util/Preconditions$2"), (3, u "AIOOBE_FORMATTER"), (0, .class_ 132), (0, u "jdk/internal/util/Preconditions$3"), (3, u "IOOBE_FORMATTER"), (41, u "(IILjava/util/function/BiFunction;)I"), (4, u "(IIILjava/util/function/BiFunction;)I")] 10

def k11m0 : Method := { name := "<init>", desc := "()V", sig := { parameters := [], returnType := none }, accessFlags := 1, code := none }
def k11c1 : Code := { maxStack := 3, maxLocals := 3, code := jdk_41_method_11_code, exceptionTable := #[], attributes := #[] }
def k11m1 : Method := { name := "checkIndex", desc := "(IILjava/util/function/BiFunction;)I", sig := { parameters := [.int, .int, (.object "java/util/function/BiFunction")], returnType := some .int }, accessFlags := 9, code := some k11c1 }
def k11c2 : Code := { maxStack := 4, maxLocals := 4, code := jdk_41_method_12_code, exceptionTable := #[], attributes := #[] }
def k11m2 : Method := { name := "checkFromToIndex", desc := "(IIILjava/util/function/BiFunction;)I", sig := { parameters := [.int, .int, .int, (.object "java/util/function/BiFunction")], returnType := some .int }, accessFlags := 9, code := some k11c2 }
def k11c3 : Code := { maxStack := 4, maxLocals := 4, code := jdk_41_method_13_code, exceptionTable := #[], attributes := #[] }
def k11m3 : Method := { name := "checkFromIndexSize", desc := "(IIILjava/util/function/BiFunction;)I", sig := { parameters := [.int, .int, .int, (.object "java/util/function/BiFunction")], returnType := some .int }, accessFlags := 9, code := some k11c3 }
/-- jdk/internal/util/Preconditions -/
def k11 : Class := { plain "jdk/internal/util/Preconditions" (some 0) with
  accessFlags := 33
  interfaces := #[]
  cf := some (fileOf pool11 24 #[.nestMembers #[55, 131, 125, 114]] #[{ accessFlags := 1, nameIndex := 5, descriptorIndex := 6, attributes := #[] }, { accessFlags := 9, nameIndex := 33, descriptorIndex := 178, attributes := #[] }, { accessFlags := 9, nameIndex := 47, descriptorIndex := 183, attributes := #[] }, { accessFlags := 9, nameIndex := 49, descriptorIndex := 183, attributes := #[] }] 33 2 #[] #[{ accessFlags := 25, nameIndex := 123, descriptorIndex := 124, attributes := #[] }, { accessFlags := 25, nameIndex := 130, descriptorIndex := 124, attributes := #[] }, { accessFlags := 25, nameIndex := 136, descriptorIndex := 124, attributes := #[] }])
  fields := #[{ name := "SIOOBE_FORMATTER", type := (.object "java/util/function/BiFunction"), accessFlags := 25, slot := 0, constantValue := 0 }, { name := "AIOOBE_FORMATTER", type := (.object "java/util/function/BiFunction"), accessFlags := 25, slot := 1, constantValue := 0 }, { name := "IOOBE_FORMATTER", type := (.object "java/util/function/BiFunction"), accessFlags := 25, slot := 2, constantValue := 0 }]
  methods := #[k11m0, k11m1, k11m2, k11m3]
  instanceTypes := #[]
  staticTypes := #[(.object "java/util/function/BiFunction"), (.object "java/util/function/BiFunction"), (.object "java/util/function/BiFunction")]
  resolved := Array.replicate 194 none
  statics := some 2 }

def pool12 : Array CpInfo := pool [(1, .class_ 2), (0, u "java/lang/Math"), (1, .class_ 6), (1, u "java/lang/Object"), (0, u "<init>"), (0, u "()V"), (89, .class_ 100), (1, u "java/lang/Math$RandomNumberGeneratorHolder"), (71, u "negativeZeroFloatBits"), (0, u "J"), (2, u "negativeZeroDoubleBits"), (21, u "max"), (2, u "min"), (43, u "$assertionsDisabled"), (0, u "Z"), (88, u "(II)I"), (2, u "twoToTheDoubleScaleDown"), (0, u "D"), (4, u "twoToTheDoubleScaleUp"), (9, u "E"), (3, u "PI"), (2, u "TAU"), (2, u "DEGREES_TO_RADIANS"), (0, u "RADIANS_TO_DEGREES")] 94

def k12m0 : Method := { name := "<init>", desc := "()V", sig := { parameters := [], returnType := none }, accessFlags := 2, code := none }
def k12c1 : Code := { maxStack := 2, maxLocals := 2, code := jdk_29_method_65_code, exceptionTable := #[], attributes := #[] }
def k12m1 : Method := { name := "max", desc := "(II)I", sig := { parameters := [.int, .int], returnType := some .int }, accessFlags := 9, code := some k12c1 }
def k12c2 : Code := { maxStack := 2, maxLocals := 2, code := jdk_29_method_69_code, exceptionTable := #[], attributes := #[] }
def k12m2 : Method := { name := "min", desc := "(II)I", sig := { parameters := [.int, .int], returnType := some .int }, accessFlags := 9, code := some k12c2 }
/-- java/lang/Math -/
def k12 : Class := { plain "java/lang/Math" (some 0) with
  accessFlags := 49
  interfaces := #[]
  cf := some (fileOf pool12 1 #[.nestMembers #[98]] #[{ accessFlags := 2, nameIndex := 7, descriptorIndex := 8, attributes := #[] }, { accessFlags := 9, nameIndex := 198, descriptorIndex := 335, attributes := #[] }, { accessFlags := 9, nameIndex := 201, descriptorIndex := 335, attributes := #[] }] 49 4 #[] #[{ accessFlags := 25, nameIndex := 354, descriptorIndex := 339, attributes := #[] }, { accessFlags := 25, nameIndex := 358, descriptorIndex := 339, attributes := #[] }, { accessFlags := 25, nameIndex := 361, descriptorIndex := 339, attributes := #[] }, { accessFlags := 26, nameIndex := 364, descriptorIndex := 339, attributes := #[] }, { accessFlags := 26, nameIndex := 365, descriptorIndex := 339, attributes := #[] }, { accessFlags := 26, nameIndex := 172, descriptorIndex := 173, attributes := #[] }, { accessFlags := 26, nameIndex := 176, descriptorIndex := 173, attributes := #[] }, { accessFlags := 8, nameIndex := 344, descriptorIndex := 339, attributes := #[] }, { accessFlags := 8, nameIndex := 338, descriptorIndex := 339, attributes := #[] }, { accessFlags := 4120, nameIndex := 245, descriptorIndex := 246, attributes := #[] }])
  fields := #[{ name := "E", type := .double, accessFlags := 25, slot := 0, constantValue := 0 }, { name := "PI", type := .double, accessFlags := 25, slot := 1, constantValue := 0 }, { name := "TAU", type := .double, accessFlags := 25, slot := 2, constantValue := 0 }, { name := "DEGREES_TO_RADIANS", type := .double, accessFlags := 26, slot := 3, constantValue := 0 }, { name := "RADIANS_TO_DEGREES", type := .double, accessFlags := 26, slot := 4, constantValue := 0 }, { name := "negativeZeroFloatBits", type := .long, accessFlags := 26, slot := 5, constantValue := 0 }, { name := "negativeZeroDoubleBits", type := .long, accessFlags := 26, slot := 6, constantValue := 0 }, { name := "twoToTheDoubleScaleUp", type := .double, accessFlags := 8, slot := 7, constantValue := 0 }, { name := "twoToTheDoubleScaleDown", type := .double, accessFlags := 8, slot := 8, constantValue := 0 }, { name := "$assertionsDisabled", type := .boolean, accessFlags := 4120, slot := 9, constantValue := 0 }]
  methods := #[k12m0, k12m1, k12m2]
  instanceTypes := #[]
  staticTypes := #[.double, .double, .double, .double, .double, .long, .long, .double, .double, .boolean]
  resolved := Array.replicate 460 none
  statics := none }

def pool13 : Array CpInfo := pool [(1, .class_ 2), (0, u "java/lang/Appendable"), (0, .class_ 4), (0, u "java/lang/Object")] 9

/-- java/lang/Appendable -/
def k13 : Class := { plain "java/lang/Appendable" (some 0) with
  accessFlags := 1537
  interfaces := #[]
  cf := some (fileOf pool13 1 #[] #[] 1537 3 #[] #[])
  fields := #[]
  methods := #[]
  instanceTypes := #[]
  staticTypes := #[]
  resolved := Array.replicate 14 none
  statics := none }

def pool14 : Array CpInfo := pool [(1, .class_ 2), (0, u "java/lang/String"), (0, .methodref 4 5), (0, .class_ 6), (0, .nameAndType 7 8), (0, u "java/lang/Object"), (0, u "<init>"), (0, u "()V"), (1, .class_ 12), (1, u "java/lang/AbstractStringBuilder"), (0, u "EMPTYVALUE"), (0, u "[B"), (0, .fieldref 10 16), (0, .nameAndType 17 14), (0, u "value"), (0, .fieldref 1 19), (0, .nameAndType 20 21), (0, u "COMPACT_STRINGS"), (0, u "Z"), (0, .fieldref 10 23), (0, .nameAndType 24 25), (0, u "coder"), (0, u "B"), (0, .methodref 27 28), (0, .class_ 29), (0, .nameAndType 30 31), (0, u "java/lang/StringUTF16"), (0, u "newBytesFor"), (0, u "(I)[B"), (1, .nameAndType 34 35), (0, u "length"), (0, u "()I"), (9, u "append"), (1, .interfaceMethodref 48 33), (0, .class_ 49), (0, u "java/lang/CharSequence"), (25, u "maybeLatin1"), (3, .fieldref 10 80), (0, .nameAndType 81 82), (0, u "count"), (0, u "I"), (0, .methodref 10 84), (0, .nameAndType 85 86), (0, u "isLatin1"), (0, u "()Z"), (1, .class_ 90), (1, u "java/lang/StringLatin1"), (9, .methodref 10 101), (0, .nameAndType 102 103), (0, u "ensureCapacityInternal"), (0, u "(I)V"), (21, .methodref 88 126), (0, .nameAndType 127 128), (0, u "inflate"), (0, u "([BI[BII)V"), (32, .methodref 162 163), (0, .class_ 164), (0, .nameAndType 165 166), (0, u "jdk/internal/util/Preconditions"), (0, u "checkFromToIndex"), (0, u "(IIILjava/util/function/BiFunction;)I"), (15, u "Ljava/util/function/BiFunction;"), (0, .fieldref 162 184), (0, .nameAndType 185 182), (0, u "IOOBE_FORMATTER"), (5, .methodref 88 192), (0, .nameAndType 193 194), (0, u "canEncode"), (0, u "(C)Z"), (0, .methodref 10 196), (0, .nameAndType 127 8), (28, u "(Ljava/lang/CharSequence;II)Ljava/lang/AbstractStringBuilder;"), (6, .methodref 10 233), (0, .nameAndType 234 235), (0, u "appendChars"), (0, u "(Ljava/lang/String;II)V"), (73, .methodref 310 311), (0, .class_ 312), (0, .nameAndType 313 314), (0, u "java/lang/System"), (0, u "arraycopy"), (0, u "(Ljava/lang/Object;ILjava/lang/Object;II)V"), (76, .nameAndType 392 393), (0, u "charAt"), (0, u "(I)C"), (6, .methodref 1 84), (0, .methodref 1 402), (0, .nameAndType 17 403), (0, u "()[B"), (0, .methodref 1 391), (39, .class_ 445), (0, u "java/lang/Appendable"), (106, u "getValue")] 56

def k14m0 : Method := { name := "<init>", desc := "()V", sig := { parameters := [], returnType := none }, accessFlags := 0, code := none }
def k14c1 : Code := { maxStack := 2, maxLocals := 2, code := jdk_68_method_2_code, exceptionTable := #[], attributes := #[] }
def k14m1 : Method := { name := "<init>", desc := "(I)V", sig := { parameters := [.int], returnType := none }, accessFlags := 0, code := some k14c1 }
def k14c2 : Code := { maxStack := 1, maxLocals := 1, code := jdk_68_method_6_code, exceptionTable := #[], attributes := #[] }
def k14m2 : Method := { name := "length", desc := "()I", sig := { parameters := [], returnType := some .int }, accessFlags := 1, code := some k14c2 }
def k14c3 : Code := { maxStack := 4, maxLocals := 3, code := jdk_68_method_9_code, exceptionTable := #[], attributes := #[] }
def k14m3 : Method := { name := "ensureCapacityInternal", desc := "(I)V", sig := { parameters := [.int], returnType := none }, accessFlags := 2, code := some k14c3 }
def k14c4 : Code := { maxStack := 5, maxLocals := 2, code := jdk_68_method_11_code, exceptionTable := #[], attributes := #[] }
def k14m4 : Method := { name := "inflate", desc := "()V", sig := { parameters := [], returnType := none }, accessFlags := 2, code := some k14c4 }
def k14c5 : Code := { maxStack := 4, maxLocals := 5, code := jdk_68_method_27_code, exceptionTable := #[], attributes := #[] }
def k14m5 : Method := { name := "append", desc := "(Ljava/lang/CharSequence;II)Ljava/lang/AbstractStringBuilder;", sig := { parameters := [(.object "java/lang/CharSequence"), .int, .int], returnType := some (.object "java/lang/AbstractStringBuilder") }, accessFlags := 1, code := some k14c5 }
def k14c6 : Code := { maxStack := 1, maxLocals := 1, code := jdk_68_method_64_code, exceptionTable := #[], attributes := #[] }
def k14m6 : Method := { name := "getValue", desc := "()[B", sig := { parameters := [], returnType := some (.array .byte) }, accessFlags := 16, code := some k14c6 }
def k14c7 : Code := { maxStack := 1, maxLocals := 1, code := jdk_68_method_68_code, exceptionTable := #[], attributes := #[] }
def k14m7 : Method := { name := "isLatin1", desc := "()Z", sig := { parameters := [], returnType := some .boolean }, accessFlags := 16, code := some k14c7 }
def k14c8 : Code := { maxStack := 6, maxLocals := 8, code := jdk_68_method_75_code, exceptionTable := #[], attributes := #[] }
def k14m8 : Method := { name := "appendChars", desc := "(Ljava/lang/String;II)V", sig := { parameters := [(.object "java/lang/String"), .int, .int], returnType := none }, accessFlags := 18, code := some k14c8 }
/-- java/lang/AbstractStringBuilder -/
def k14 : Class := { plain "java/lang/AbstractStringBuilder" (some 0) with
  accessFlags := 1056
  interfaces := #[13, 4]
  cf := some (fileOf pool14 10 #[] #[{ accessFlags := 0, nameIndex := 7, descriptorIndex := 8, attributes := #[] }, { accessFlags := 0, nameIndex := 7, descriptorIndex := 103, attributes := #[] }, { accessFlags := 1, nameIndex := 34, descriptorIndex := 35, attributes := #[] }, { accessFlags := 2, nameIndex := 102, descriptorIndex := 103, attributes := #[] }, { accessFlags := 2, nameIndex := 127, descriptorIndex := 8, attributes := #[] }, { accessFlags := 1, nameIndex := 45, descriptorIndex := 225, attributes := #[] }, { accessFlags := 16, nameIndex := 552, descriptorIndex := 403, attributes := #[] }, { accessFlags := 16, nameIndex := 85, descriptorIndex := 86, attributes := #[] }, { accessFlags := 18, nameIndex := 234, descriptorIndex := 235, attributes := #[] }] 1056 4 #[444, 48] #[{ accessFlags := 0, nameIndex := 17, descriptorIndex := 14, attributes := #[] }, { accessFlags := 0, nameIndex := 24, descriptorIndex := 25, attributes := #[] }, { accessFlags := 0, nameIndex := 75, descriptorIndex := 21, attributes := #[] }, { accessFlags := 0, nameIndex := 81, descriptorIndex := 82, attributes := #[] }, { accessFlags := 26, nameIndex := 13, descriptorIndex := 14, attributes := #[] }])
  fields := #[{ name := "value", type := (.array .byte), accessFlags := 0, slot := 0, constantValue := 0 }, { name := "coder", type := .byte, accessFlags := 0, slot := 1, constantValue := 0 }, { name := "maybeLatin1", type := .boolean, accessFlags := 0, slot := 2, constantValue := 0 }, { name := "count", type := .int, accessFlags := 0, slot := 3, constantValue := 0 }, { name := "EMPTYVALUE", type := (.array .byte), accessFlags := 26, slot := 0, constantValue := 0 }]
  methods := #[k14m0, k14m1, k14m2, k14m3, k14m4, k14m5, k14m6, k14m7, k14m8]
  instanceTypes := #[(.array .byte), .byte, .boolean, .int]
  staticTypes := #[(.array .byte)]
  resolved := Array.replicate 609 none
  statics := none }

def pool15 : Array CpInfo := pool [(1, .methodref 2 3), (0, .class_ 4), (0, .nameAndType 5 6), (0, u "java/lang/AbstractStringBuilder"), (0, u "<init>"), (0, u "(I)V"), (11, .class_ 20), (1, u "java/lang/String"), (3, .class_ 26), (1, u "java/lang/StringBuilder"), (0, u "append"), (10, .methodref 2 39), (0, .nameAndType 27 40), (0, u "(Ljava/lang/CharSequence;II)Ljava/lang/AbstractStringBuilder;"), (96, .methodref 18 138), (0, .nameAndType 5 139), (0, u "(Ljava/lang/StringBuilder;)V"), (5, u "()V"), (10, u "()I"), (141, u "(Ljava/lang/CharSequence;II)Ljava/lang/StringBuilder;"), (44, .methodref 2 344), (0, .nameAndType 345 156), (0, u "length"), (3, .class_ 350), (0, u "java/lang/Appendable"), (0, .class_ 352), (0, u "java/io/Serializable"), (0, .class_ 354), (0, u "java/lang/Comparable"), (0, .class_ 356), (0, u "java/lang/CharSequence"), (0, u "serialVersionUID"), (0, u "J"), (40, u "toString"), (0, u "()Ljava/lang/String;")] 21

def k15m0 : Method := { name := "<init>", desc := "()V", sig := { parameters := [], returnType := none }, accessFlags := 1, code := none }
def k15c1 : Code := { maxStack := 2, maxLocals := 2, code := jdk_67_method_2_code, exceptionTable := #[], attributes := #[] }
def k15m1 : Method := { name := "<init>", desc := "(I)V", sig := { parameters := [.int], returnType := none }, accessFlags := 1, code := some k15c1 }
def k15c2 : Code := { maxStack := 4, maxLocals := 4, code := jdk_67_method_10_code, exceptionTable := #[], attributes := #[] }
def k15m2 : Method := { name := "append", desc := "(Ljava/lang/CharSequence;II)Ljava/lang/StringBuilder;", sig := { parameters := [(.object "java/lang/CharSequence"), .int, .int], returnType := some (.object "java/lang/StringBuilder") }, accessFlags := 1, code := some k15c2 }
def k15c3 : Code := { maxStack := 3, maxLocals := 1, code := jdk_67_method_42_code, exceptionTable := #[], attributes := #[] }
def k15m3 : Method := { name := "toString", desc := "()Ljava/lang/String;", sig := { parameters := [], returnType := some (.object "java/lang/String") }, accessFlags := 1, code := some k15c3 }
def k15c4 : Code := { maxStack := 1, maxLocals := 1, code := jdk_67_method_93_code, exceptionTable := #[], attributes := #[] }
def k15m4 : Method := { name := "length", desc := "()I", sig := { parameters := [], returnType := some .int }, accessFlags := 4161, code := some k15c4 }
/-- java/lang/StringBuilder -/
def k15 : Class := { plain "java/lang/StringBuilder" (some 14) with
  accessFlags := 49
  interfaces := #[13, 2, 3, 4]
  cf := some (fileOf pool15 24 #[] #[{ accessFlags := 1, nameIndex := 5, descriptorIndex := 145, attributes := #[] }, { accessFlags := 1, nameIndex := 5, descriptorIndex := 6, attributes := #[] }, { accessFlags := 1, nameIndex := 27, descriptorIndex := 298, attributes := #[] }, { accessFlags := 1, nameIndex := 399, descriptorIndex := 400, attributes := #[] }, { accessFlags := 4161, nameIndex := 345, descriptorIndex := 156, attributes := #[] }] 49 2 #[349, 351, 353, 355] #[{ accessFlags := 24, nameIndex := 357, descriptorIndex := 358, attributes := #[] }])
  fields := #[{ name := "serialVersionUID", type := .long, accessFlags := 24, slot := 0, constantValue := 0 }]
  methods := #[k15m0, k15m1, k15m2, k15m3, k15m4]
  instanceTypes := #[(.array .byte), .byte, .boolean, .int]
  staticTypes := #[.long]
  resolved := Array.replicate 422 none
  statics := none }

def pool16 : Array CpInfo := pool [(2, .class_ 4), (1, u "java/lang/Object"), (0, u "<init>"), (0, u "()V"), (1, .class_ 10), (1, u "java/lang/System"), (0, u "allowSecurityManager"), (0, u "I"), (16, u "cons"), (0, u "Ljava/io/Console;"), (77, .class_ 110), (1, u "java/lang/System$CallersHolder"), (43, u "initialErrStream"), (0, u "Ljava/io/PrintStream;"), (19, u "security"), (0, u "Ljava/lang/SecurityManager;"), (31, .class_ 209), (0, u "java/lang/System$1"), (7, u "props"), (0, u "Ljava/util/Properties;"), (2, u "lineSeparator"), (0, u "Ljava/lang/String;"), (96, .class_ 321), (1, u "java/lang/System$LoggerFinder"), (5, .class_ 328), (0, u "java/lang/System$Logger"), (67, u "err"), (2, u "out"), (91, u "notSupportedJnuEncoding"), (15, u "in"), (17, u "initialIn"), (0, u "Ljava/io/InputStream;"), (35, u "bootLayer"), (0, u "Ljava/lang/ModuleLayer;"), (99, .class_ 664), (0, u "java/lang/System$2"), (9, u "NEVER"), (2, u "MAYBE"), (49, u "arraycopy"), (0, u "(Ljava/lang/Object;ILjava/lang/Object;II)V"), (72, .class_ 802), (0, u "java/lang/System$Logger$Level")] 31

def k16m0 : Method := { name := "<init>", desc := "()V", sig := { parameters := [], returnType := none }, accessFlags := 2, code := none }
def k16m1 : Method := { name := "arraycopy", desc := "(Ljava/lang/Object;ILjava/lang/Object;II)V", sig := { parameters := [(.object "java/lang/Object"), .int, (.object "java/lang/Object"), .int, .int], returnType := none }, accessFlags := 265, code := none }
/-- java/lang/System -/
def k16 : Class := { plain "java/lang/System" (some 0) with
  accessFlags := 49
  interfaces := #[]
  cf := some (fileOf pool16 8 #[.nestMembers #[319, 327, 801, 108, 663, 208]] #[{ accessFlags := 2, nameIndex := 5, descriptorIndex := 6, attributes := #[] }, { accessFlags := 265, nameIndex := 727, descriptorIndex := 728, attributes := #[] }] 49 2 #[] #[{ accessFlags := 25, nameIndex := 507, descriptorIndex := 526, attributes := #[] }, { accessFlags := 25, nameIndex := 399, descriptorIndex := 155, attributes := #[] }, { accessFlags := 25, nameIndex := 396, descriptorIndex := 155, attributes := #[] }, { accessFlags := 10, nameIndex := 525, descriptorIndex := 526, attributes := #[] }, { accessFlags := 26, nameIndex := 674, descriptorIndex := 12, attributes := #[] }, { accessFlags := 26, nameIndex := 677, descriptorIndex := 12, attributes := #[] }, { accessFlags := 10, nameIndex := 11, descriptorIndex := 12, attributes := #[] }, { accessFlags := 74, nameIndex := 175, descriptorIndex := 176, attributes := #[] }, { accessFlags := 10, nameIndex := 491, descriptorIndex := 222, attributes := #[] }, { accessFlags := 74, nameIndex := 29, descriptorIndex := 30, attributes := #[] }, { accessFlags := 74, nameIndex := 154, descriptorIndex := 155, attributes := #[] }, { accessFlags := 10, nameIndex := 217, descriptorIndex := 218, attributes := #[] }, { accessFlags := 10, nameIndex := 221, descriptorIndex := 222, attributes := #[] }, { accessFlags := 8, nameIndex := 562, descriptorIndex := 563, attributes := #[] }])
  fields := #[{ name := "in", type := (.object "java/io/InputStream"), accessFlags := 25, slot := 0, constantValue := 0 }, { name := "out", type := (.object "java/io/PrintStream"), accessFlags := 25, slot := 1, constantValue := 0 }, { name := "err", type := (.object "java/io/PrintStream"), accessFlags := 25, slot := 2, constantValue := 0 }, { name := "initialIn", type := (.object "java/io/InputStream"), accessFlags := 10, slot := 3, constantValue := 0 }, { name := "NEVER", type := .int, accessFlags := 26, slot := 4, constantValue := 0 }, { name := "MAYBE", type := .int, accessFlags := 26, slot := 5, constantValue := 0 }, { name := "allowSecurityManager", type := .int, accessFlags := 10, slot := 6, constantValue := 0 }, { name := "security", type := (.object "java/lang/SecurityManager"), accessFlags := 74, slot := 7, constantValue := 0 }, { name := "notSupportedJnuEncoding", type := (.object "java/lang/String"), accessFlags := 10, slot := 8, constantValue := 0 }, { name := "cons", type := (.object "java/io/Console"), accessFlags := 74, slot := 9, constantValue := 0 }, { name := "initialErrStream", type := (.object "java/io/PrintStream"), accessFlags := 74, slot := 10, constantValue := 0 }, { name := "props", type := (.object "java/util/Properties"), accessFlags := 10, slot := 11, constantValue := 0 }, { name := "lineSeparator", type := (.object "java/lang/String"), accessFlags := 10, slot := 12, constantValue := 0 }, { name := "bootLayer", type := (.object "java/lang/ModuleLayer"), accessFlags := 8, slot := 13, constantValue := 0 }]
  methods := #[k16m0, k16m1]
  instanceTypes := #[]
  staticTypes := #[(.object "java/io/InputStream"), (.object "java/io/PrintStream"), (.object "java/io/PrintStream"), (.object "java/io/InputStream"), .int, .int, .int, (.object "java/lang/SecurityManager"), (.object "java/lang/String"), (.object "java/io/Console"), (.object "java/io/PrintStream"), (.object "java/util/Properties"), (.object "java/lang/String"), (.object "java/lang/ModuleLayer")]
  resolved := Array.replicate 834 none
  statics := none }

def pool17 : Array CpInfo := pool [(2, .class_ 4), (1, u "java/lang/Object"), (0, u "<init>"), (0, u "()V"), (7, .class_ 16), (1, u "java/util/Arrays"), (57, .class_ 76), (1, u "java/util/Arrays$NaturalOrder"), (36, .class_ 115), (1, u "java/util/Arrays$LegacyMergeSort"), (1, u "Z"), (21, u "copyOfRange"), (10, .methodref 151 152), (0, .class_ 153), (0, .nameAndType 154 155), (0, u "java/lang/System"), (0, u "arraycopy"), (0, u "(Ljava/lang/Object;ILjava/lang/Object;II)V"), (148, .methodref 305 306), (0, .class_ 307), (0, .nameAndType 308 309), (0, u "java/lang/Math"), (0, u "min"), (0, u "(II)I"), (29, .methodref 14 340), (0, .nameAndType 341 342), (0, u "copyOfRangeByte"), (0, u "([BII)[B"), (0, .methodref 14 344), (0, .nameAndType 345 346), (0, u "checkLength"), (0, u "(II)V"), (28, .class_ 376), (0, u "java/util/Arrays$ArrayList"), (68, u "$assertionsDisabled"), (269, u "MIN_ARRAY_SORT_GRAN"), (0, u "I"), (2, u "INSERTIONSORT_THRESHOLD"), (255, .class_ 976), (0, u "java/util/Arrays$ArrayItr")] 52

def k17m0 : Method := { name := "<init>", desc := "()V", sig := { parameters := [], returnType := none }, accessFlags := 2, code := none }
def k17c1 : Code := { maxStack := 4, maxLocals := 2, code := jdk_65_method_131_code, exceptionTable := #[], attributes := #[] }
def k17m1 : Method := { name := "checkLength", desc := "(II)V", sig := { parameters := [.int, .int], returnType := none }, accessFlags := 10, code := some k17c1 }
def k17c2 : Code := { maxStack := 3, maxLocals := 3, code := jdk_65_method_132_code, exceptionTable := #[], attributes := #[] }
def k17m2 : Method := { name := "copyOfRange", desc := "([BII)[B", sig := { parameters := [(.array .byte), .int, .int], returnType := some (.array .byte) }, accessFlags := 9, code := some k17c2 }
def k17c3 : Code := { maxStack := 6, maxLocals := 5, code := jdk_65_method_133_code, exceptionTable := #[], attributes := #[] }
def k17m3 : Method := { name := "copyOfRangeByte", desc := "([BII)[B", sig := { parameters := [(.array .byte), .int, .int], returnType := some (.array .byte) }, accessFlags := 10, code := some k17c3 }
/-- java/util/Arrays -/
def k17 : Class := { plain "java/util/Arrays" (some 0) with
  accessFlags := 49
  interfaces := #[]
  cf := some (fileOf pool17 14 #[.nestMembers #[975, 375, 113, 74]] #[{ accessFlags := 2, nameIndex := 5, descriptorIndex := 6, attributes := #[] }, { accessFlags := 10, nameIndex := 345, descriptorIndex := 346, attributes := #[] }, { accessFlags := 9, nameIndex := 139, descriptorIndex := 342, attributes := #[] }, { accessFlags := 10, nameIndex := 341, descriptorIndex := 342, attributes := #[] }] 49 2 #[] #[{ accessFlags := 26, nameIndex := 715, descriptorIndex := 716, attributes := #[] }, { accessFlags := 26, nameIndex := 719, descriptorIndex := 716, attributes := #[] }, { accessFlags := 4120, nameIndex := 445, descriptorIndex := 117, attributes := #[] }])
  fields := #[{ name := "MIN_ARRAY_SORT_GRAN", type := .int, accessFlags := 26, slot := 0, constantValue := 0 }, { name := "INSERTIONSORT_THRESHOLD", type := .int, accessFlags := 26, slot := 1, constantValue := 0 }, { name := "$assertionsDisabled", type := .boolean, accessFlags := 4120, slot := 2, constantValue := 0 }]
  methods := #[k17m0, k17m1, k17m2, k17m3]
  instanceTypes := #[]
  staticTypes := #[.int, .int, .boolean]
  resolved := Array.replicate 1029 none
  statics := none }

def pool18 : Array CpInfo := pool [(9, u "<init>"), (6, .class_ 18), (1, u "java/lang/Object"), (0, u "()V"), (1, .class_ 23), (1, u "jdk/internal/util/ArraysSupport"), (0, u "LOG2_ARRAY_LONG_INDEX_SCALE"), (0, u "I"), (2, u "U"), (0, u "Ljdk/internal/misc/Unsafe;"), (8, u "BIG_ENDIAN"), (0, u "Z"), (8, u "LOG2_BYTE_BIT_SIZE"), (4, u "LOG2_ARRAY_INT_INDEX_SCALE"), (54, u "JLA"), (0, u "Ljdk/internal/access/JavaLangAccess;"), (11, u "LOG2_ARRAY_BOOLEAN_INDEX_SCALE"), (9, u "LOG2_ARRAY_BYTE_INDEX_SCALE"), (5, u "LOG2_ARRAY_CHAR_INDEX_SCALE"), (5, u "LOG2_ARRAY_SHORT_INDEX_SCALE"), (18, u "LOG2_ARRAY_FLOAT_INDEX_SCALE"), (24, u "LOG2_ARRAY_DOUBLE_INDEX_SCALE"), (89, u "T_BOOLEAN"), (2, u "T_CHAR"), (1, u "T_FLOAT"), (1, u "T_DOUBLE"), (1, u "T_BYTE"), (1, u "T_SHORT"), (1, u "T_INT"), (1, u "T_LONG"), (1, u "SOFT_MAX_ARRAY_LENGTH")] 83

def k18m0 : Method := { name := "<init>", desc := "()V", sig := { parameters := [], returnType := none }, accessFlags := 2, code := none }
/-- jdk/internal/util/ArraysSupport -/
def k18 : Class := { plain "jdk/internal/util/ArraysSupport" (some 0) with
  accessFlags := 33
  interfaces := #[]
  cf := some (fileOf pool18 21 #[] #[{ accessFlags := 2, nameIndex := 9, descriptorIndex := 19, attributes := #[] }] 33 16 #[] #[{ accessFlags := 24, nameIndex := 28, descriptorIndex := 29, attributes := #[] }, { accessFlags := 26, nameIndex := 38, descriptorIndex := 39, attributes := #[] }, { accessFlags := 25, nameIndex := 121, descriptorIndex := 25, attributes := #[] }, { accessFlags := 25, nameIndex := 131, descriptorIndex := 25, attributes := #[] }, { accessFlags := 25, nameIndex := 137, descriptorIndex := 25, attributes := #[] }, { accessFlags := 25, nameIndex := 143, descriptorIndex := 25, attributes := #[] }, { accessFlags := 25, nameIndex := 53, descriptorIndex := 25, attributes := #[] }, { accessFlags := 25, nameIndex := 24, descriptorIndex := 25, attributes := #[] }, { accessFlags := 25, nameIndex := 162, descriptorIndex := 25, attributes := #[] }, { accessFlags := 25, nameIndex := 187, descriptorIndex := 25, attributes := #[] }, { accessFlags := 26, nameIndex := 48, descriptorIndex := 25, attributes := #[] }, { accessFlags := 25, nameIndex := 277, descriptorIndex := 25, attributes := #[] }, { accessFlags := 25, nameIndex := 280, descriptorIndex := 25, attributes := #[] }, { accessFlags := 25, nameIndex := 282, descriptorIndex := 25, attributes := #[] }, { accessFlags := 25, nameIndex := 284, descriptorIndex := 25, attributes := #[] }, { accessFlags := 25, nameIndex := 286, descriptorIndex := 25, attributes := #[] }, { accessFlags := 25, nameIndex := 288, descriptorIndex := 25, attributes := #[] }, { accessFlags := 25, nameIndex := 290, descriptorIndex := 25, attributes := #[] }, { accessFlags := 25, nameIndex := 292, descriptorIndex := 25, attributes := #[] }, { accessFlags := 26, nameIndex := 108, descriptorIndex := 109, attributes := #[] }, { accessFlags := 25, nameIndex := 294, descriptorIndex := 25, attributes := #[] }])
  fields := #[{ name := "U", type := (.object "jdk/internal/misc/Unsafe"), accessFlags := 24, slot := 0, constantValue := 0 }, { name := "BIG_ENDIAN", type := .boolean, accessFlags := 26, slot := 1, constantValue := 0 }, { name := "LOG2_ARRAY_BOOLEAN_INDEX_SCALE", type := .int, accessFlags := 25, slot := 2, constantValue := 0 }, { name := "LOG2_ARRAY_BYTE_INDEX_SCALE", type := .int, accessFlags := 25, slot := 3, constantValue := 0 }, { name := "LOG2_ARRAY_CHAR_INDEX_SCALE", type := .int, accessFlags := 25, slot := 4, constantValue := 0 }, { name := "LOG2_ARRAY_SHORT_INDEX_SCALE", type := .int, accessFlags := 25, slot := 5, constantValue := 0 }, { name := "LOG2_ARRAY_INT_INDEX_SCALE", type := .int, accessFlags := 25, slot := 6, constantValue := 0 }, { name := "LOG2_ARRAY_LONG_INDEX_SCALE", type := .int, accessFlags := 25, slot := 7, constantValue := 0 }, { name := "LOG2_ARRAY_FLOAT_INDEX_SCALE", type := .int, accessFlags := 25, slot := 8, constantValue := 0 }, { name := "LOG2_ARRAY_DOUBLE_INDEX_SCALE", type := .int, accessFlags := 25, slot := 9, constantValue := 0 }, { name := "LOG2_BYTE_BIT_SIZE", type := .int, accessFlags := 26, slot := 10, constantValue := 0 }, { name := "T_BOOLEAN", type := .int, accessFlags := 25, slot := 11, constantValue := 0 }, { name := "T_CHAR", type := .int, accessFlags := 25, slot := 12, constantValue := 0 }, { name := "T_FLOAT", type := .int, accessFlags := 25, slot := 13, constantValue := 0 }, { name := "T_DOUBLE", type := .int, accessFlags := 25, slot := 14, constantValue := 0 }, { name := "T_BYTE", type := .int, accessFlags := 25, slot := 15, constantValue := 0 }, { name := "T_SHORT", type := .int, accessFlags := 25, slot := 16, constantValue := 0 }, { name := "T_INT", type := .int, accessFlags := 25, slot := 17, constantValue := 0 }, { name := "T_LONG", type := .int, accessFlags := 25, slot := 18, constantValue := 0 }, { name := "JLA", type := (.object "jdk/internal/access/JavaLangAccess"), accessFlags := 26, slot := 19, constantValue := 0 }, { name := "SOFT_MAX_ARRAY_LENGTH", type := .int, accessFlags := 25, slot := 20, constantValue := 0 }]
  methods := #[k18m0]
  instanceTypes := #[]
  staticTypes := #[(.object "jdk/internal/misc/Unsafe"), .boolean, .int, .int, .int, .int, .int, .int, .int, .int, .int, .int, .int, .int, .int, .int, .int, .int, .int, (.object "jdk/internal/access/JavaLangAccess"), .int]
  resolved := Array.replicate 378 none
  statics := none }

def pool19 : Array CpInfo := pool [(1, u "java/lang/Cloneable"), (0, .class_ 1), (0, u "java/lang/Object"), (0, .class_ 3)] 3

/-- java/lang/Cloneable -/
def k19 : Class := { plain "java/lang/Cloneable" (some 0) with
  accessFlags := 1537
  interfaces := #[]
  cf := some (fileOf pool19 2 #[] #[] 1537 4 #[] #[])
  fields := #[]
  methods := #[]
  instanceTypes := #[]
  staticTypes := #[]
  resolved := Array.replicate 8 none
  statics := none }

/-- the primitive byte -/
def k20 : Class := { plain "byte" none with kind := .primitive 'B', accessFlags := 0x411 }
/-- [B -/
def k21 : Class := { plain "[B" (some 0) with kind := .array 20 .byte, interfaces := #[19, 2], accessFlags := 1041 }

/-- the primitive char -/
def k22 : Class := { plain "char" none with kind := .primitive 'C', accessFlags := 0x411 }
/-- [C -/
def k23 : Class := { plain "[C" (some 0) with kind := .array 22 .char, interfaces := #[19, 2], accessFlags := 1041 }

/-- the primitive int -/
def k24 : Class := { plain "int" none with kind := .primitive 'I', accessFlags := 0x411 }
/-- [I -/
def k25 : Class := { plain "[I" (some 0) with kind := .array 24 .int, interfaces := #[19, 2], accessFlags := 1041 }

def heap : Heap := #[{ cls := 7, slots := #[.long 0, .int 1, .null, .int 0, .null, .int 0, .int 0], vm := .statics 7 },
  { cls := 8, slots := #[.int 0, .int 8, .int 0, .int 1], vm := .statics 8 },
  { cls := 11, slots := #[.null, .null, .null], vm := .statics 11 }]
def classes : Array Class := #[k0, k1, k2, k3, k4, k5, k6, k7, k8, k9, k10, k11, k12, k13, k14, k15, k16, k17, k18, k19, k20, k21, k22, k23, k24, k25]
def interned : List (Array UInt16 × Addr) := []
def slotsUsed : Nat := 14
def theMethod : MethodId := ⟨1, 6⟩
def args0 : Array Value := #[.int 5, .int 6, .int 7, .int 8, .int 9, .int 3]
def aboutOver (below : List Frame) : State where
  vm := { classes := classes, interned := interned.toArray }
  heap := heap
  slotsUsed := slotsUsed
  threads := #[{ frames := .invoking theMethod args0 :: below }]
def below0 : List Frame := [.native { method := ⟨0, 0⟩, args := #[] }]
def about1 : State := aboutOver below0
def p0 : Program := .bare "" "" ""
def e0 : Env := launch0.env 0 0 0
theorem w_frames : about1.frames = Frame.invoking theMethod args0 :: below0 := rfl
set_option maxRecDepth 65536 in
theorem w_args : argsFit about1.vm theMethod args0 = true := by decide +kernel
set_option maxRecDepth 65536 in
theorem w_heap : heapFits about1 = true := by decide +kernel
set_option maxRecDepth 65536 in
theorem w_runnable : about1.curStatus? = some .runnable := by decide +kernel
set_option maxRecDepth 65536 in
theorem w_alone : about1.alone = true := by decide +kernel
set_option maxRecDepth 65536 in
theorem w_named : about1.methodNamed? x = some theMethod := by decide +kernel
set_option maxRecDepth 65536 in
theorem w_hears : about1.hears theMethod below0 = true := by decide +kernel
set_option maxRecDepth 65536 in
theorem w_ripe : about1.ripe theMethod args0 below0 = true := by decide +kernel
theorem w_running : about1.status = .running := rfl
set_option maxRecDepth 65536 in
theorem w_room : about1.hasRoom e0.platform room_1 = true :=
  launch0.hasRoom_least _ room_1 (by decide +kernel) (by decide +kernel) (by decide +kernel) (by decide +kernel) (by decide +kernel) (by decide +kernel)
theorem allAtoms_all (ts : List Jvm.Cond) (a : Array Jvm.Value) (st : Jvm.State) : (allAtoms ts).before a st = ts.all (fun c => c.before a st) := by
  induction ts with
  | nil => rfl
  | cons c t ih =>
    show (Jvm.Cond.and c (allAtoms t)).before a st = _
    rw [Jvm.Cond.before_and, ih, List.all_cons]
def words1 : List Jvm.Cond := Jvm.Cond.code x code maxLocals ret :: tables_1
/-- a 'code' word, met by the world's own term for the bytes: nothing is compared byte by byte -/
theorem code_word {y : MethodName} {bytes : ByteArray} {mx : Nat} {rt : Option FieldType} {a : Array Value} {s : State} {m : MethodId} {meth : Method} {c : Code} (h1 : s.methodNamed? y = some m) (h2 : s.vm.method? m = some meth) (h3 : meth.code = some c) (h4 : c.code = bytes)
    (h5 : (c.maxLocals == mx && c.exceptionTable.isEmpty && decide (c.maxStack ≤ mostOperands) && decide (meth.sig.returnType = rt) && !meth.locks && decide (parseMethodDescriptor y.desc = some meth.sig)) = true) : (Jvm.Cond.code y bytes mx rt).before a s = true := by
  simp only [Bool.and_eq_true, beq_iff_eq, Bool.not_eq_true', decide_eq_true_eq] at h5
  obtain ⟨⟨⟨⟨⟨g1, g2⟩, g3⟩, g4⟩, g5⟩, g6⟩ := h5
  simp [Cond.before, Cond.holds, Cond.value, h1, h2, h3, h4, g1, g2, g3, g4, g5, g6]
def isCode : Jvm.Cond → Bool
  | .code _ _ _ _ => true
  | _ => false
theorem all_split {L : List Jvm.Cond} {P : Jvm.Cond → Bool} (h1 : L.all (fun c => isCode c || P c) = true) (h2 : ∀ c ∈ L.filter isCode, P c = true) : L.all P = true := by
  refine List.all_eq_true.mpr fun c hc => ?_
  have h := List.all_eq_true.mp h1 c hc
  rcases Bool.eq_false_or_eq_true (isCode c) with hi | hi
  · exact h2 c (List.mem_filter.mpr ⟨hc, hi⟩)
  · simpa [hi] using h
set_option maxRecDepth 65536 in
theorem w_c0 : (Jvm.Cond.code x code maxLocals ret).before args0 about1 = true := code_word (m := ⟨1, 6⟩) (meth := k1m6) (c := k1c6) (by decide +kernel) rfl rfl rfl (by decide +kernel)
set_option maxRecDepth 65536 in
theorem w_c1 : (Jvm.Cond.code ({ cls := "com/example/selgen/selgen/CompactJsonOfPinLaw", name := "draw", desc := "(I)C" } : Jvm.MethodName) method_2_code (2 : Nat) (Option.some Jvm.ClassFile.FieldType.char)).before args0 about1 = true := code_word (m := ⟨1, 1⟩) (meth := k1m1) (c := k1c1) (by decide +kernel) rfl rfl rfl (by decide +kernel)
set_option maxRecDepth 65536 in
theorem w_c2 : (Jvm.Cond.code ({ cls := "java/lang/String", name := "<init>", desc := "([C)V" } : Jvm.MethodName) jdk_42_method_3_code (2 : Nat) (Option.none : Option Jvm.ClassFile.FieldType)).before args0 about1 = true := code_word (m := ⟨7, 1⟩) (meth := k7m1) (c := k7c1) (by decide +kernel) rfl rfl rfl (by decide +kernel)
set_option maxRecDepth 65536 in
theorem w_c3 : (Jvm.Cond.code ({ cls := "java/lang/String", name := "<init>", desc := "([CIILjava/lang/Void;)V" } : Jvm.MethodName) jdk_42_method_149_code (6 : Nat) (Option.none : Option Jvm.ClassFile.FieldType)).before args0 about1 = true := code_word (m := ⟨7, 6⟩) (meth := k7m6) (c := k7c6) (by decide +kernel) rfl rfl rfl (by decide +kernel)
set_option maxRecDepth 65536 in
theorem w_c4 : (Jvm.Cond.code ({ cls := "java/lang/Object", name := "<init>", desc := "()V" } : Jvm.MethodName) object_method_1_code (1 : Nat) (Option.none : Option Jvm.ClassFile.FieldType)).before args0 about1 = true := code_word (m := ⟨0, 0⟩) (meth := k0m0) (c := k0c0) (by decide +kernel) rfl rfl rfl (by decide +kernel)
set_option maxRecDepth 65536 in
theorem w_c5 : (Jvm.Cond.code ({ cls := "java/lang/StringUTF16", name := "compress", desc := "([CII)[B" } : Jvm.MethodName) jdk_52_method_16_code (6 : Nat) (Option.some (Jvm.ClassFile.FieldType.array Jvm.ClassFile.FieldType.byte))).before args0 about1 = true := code_word (m := ⟨8, 8⟩) (meth := k8m8) (c := k8c8) (by decide +kernel) rfl rfl rfl (by decide +kernel)
set_option maxRecDepth 65536 in
theorem w_c6 : (Jvm.Cond.code ({ cls := "java/lang/StringUTF16", name := "compress", desc := "([CI[BII)I" } : Jvm.MethodName) jdk_52_method_21_code (7 : Nat) (Option.some Jvm.ClassFile.FieldType.int)).before args0 about1 = true := code_word (m := ⟨8, 9⟩) (meth := k8m9) (c := k8c9) (by decide +kernel) rfl rfl rfl (by decide +kernel)
set_option maxRecDepth 65536 in
theorem w_c7 : (Jvm.Cond.code ({ cls := "java/lang/StringUTF16", name := "coderFromArrayLen", desc := "([BI)B" } : Jvm.MethodName) jdk_52_method_15_code (2 : Nat) (Option.some Jvm.ClassFile.FieldType.byte)).before args0 about1 = true := code_word (m := ⟨8, 7⟩) (meth := k8m7) (c := k8c7) (by decide +kernel) rfl rfl rfl (by decide +kernel)
set_option maxRecDepth 65536 in
theorem w_c8 : (Jvm.Cond.code ({ cls := "com/example/selgen/selgen/CompactJsonOfPinLaw", name := "keep", desc := "(IC)Z" } : Jvm.MethodName) method_5_code (2 : Nat) (Option.some Jvm.ClassFile.FieldType.boolean)).before args0 about1 = true := code_word (m := ⟨1, 4⟩) (meth := k1m4) (c := k1c4) (by decide +kernel) rfl rfl rfl (by decide +kernel)
set_option maxRecDepth 65536 in
theorem w_c9 : (Jvm.Cond.code ({ cls := "com/example/selgen/selgen/CompactJsonOfPinLaw", name := "ws", desc := "(C)Z" } : Jvm.MethodName) method_3_code (1 : Nat) (Option.some Jvm.ClassFile.FieldType.boolean)).before args0 about1 = true := code_word (m := ⟨1, 2⟩) (meth := k1m2) (c := k1c2) (by decide +kernel) rfl rfl rfl (by decide +kernel)
set_option maxRecDepth 65536 in
theorem w_c10 : (Jvm.Cond.code ({ cls := "com/example/selgen/selgen/CompactJsonOfPinLaw", name := "next", desc := "(IC)I" } : Jvm.MethodName) method_4_code (2 : Nat) (Option.some Jvm.ClassFile.FieldType.int)).before args0 about1 = true := code_word (m := ⟨1, 3⟩) (meth := k1m3) (c := k1c3) (by decide +kernel) rfl rfl rfl (by decide +kernel)
set_option maxRecDepth 65536 in
theorem w_c11 : (Jvm.Cond.code ({ cls := "com/example/selgen/selgen/CompactJson", name := "of", desc := "(Ljava/lang/String;)Ljava/lang/String;" } : Jvm.MethodName) prog_3_method_2_code (8 : Nat) (Option.some (Jvm.ClassFile.FieldType.object "java/lang/String"))).before args0 about1 = true := code_word (m := ⟨9, 1⟩) (meth := k9m1) (c := k9c1) (by decide +kernel) rfl rfl rfl (by decide +kernel)
set_option maxRecDepth 65536 in
theorem w_c12 : (Jvm.Cond.code ({ cls := "java/lang/String", name := "length", desc := "()I" } : Jvm.MethodName) jdk_42_method_54_code (1 : Nat) (Option.some Jvm.ClassFile.FieldType.int)).before args0 about1 = true := code_word (m := ⟨7, 3⟩) (meth := k7m3) (c := k7c3) (by decide +kernel) rfl rfl rfl (by decide +kernel)
set_option maxRecDepth 65536 in
theorem w_c13 : (Jvm.Cond.code ({ cls := "java/lang/String", name := "coder", desc := "()B" } : Jvm.MethodName) jdk_42_method_152_code (1 : Nat) (Option.some Jvm.ClassFile.FieldType.byte)).before args0 about1 = true := code_word (m := ⟨7, 8⟩) (meth := k7m8) (c := k7c8) (by decide +kernel) rfl rfl rfl (by decide +kernel)
set_option maxRecDepth 65536 in
theorem w_c14 : (Jvm.Cond.code ({ cls := "java/lang/String", name := "charAt", desc := "(I)C" } : Jvm.MethodName) jdk_42_method_56_code (2 : Nat) (Option.some Jvm.ClassFile.FieldType.char)).before args0 about1 = true := code_word (m := ⟨7, 4⟩) (meth := k7m4) (c := k7c4) (by decide +kernel) rfl rfl rfl (by decide +kernel)
set_option maxRecDepth 65536 in
theorem w_c15 : (Jvm.Cond.code ({ cls := "java/lang/String", name := "isLatin1", desc := "()Z" } : Jvm.MethodName) jdk_42_method_154_code (1 : Nat) (Option.some Jvm.ClassFile.FieldType.boolean)).before args0 about1 = true := code_word (m := ⟨7, 10⟩) (meth := k7m10) (c := k7c10) (by decide +kernel) rfl rfl rfl (by decide +kernel)
set_option maxRecDepth 65536 in
theorem w_c16 : (Jvm.Cond.code ({ cls := "java/lang/StringLatin1", name := "charAt", desc := "([BI)C" } : Jvm.MethodName) jdk_43_method_2_code (2 : Nat) (Option.some Jvm.ClassFile.FieldType.char)).before args0 about1 = true := code_word (m := ⟨10, 1⟩) (meth := k10m1) (c := k10c1) (by decide +kernel) rfl rfl rfl (by decide +kernel)
set_option maxRecDepth 65536 in
theorem w_c17 : (Jvm.Cond.code ({ cls := "java/lang/String", name := "checkIndex", desc := "(II)V" } : Jvm.MethodName) jdk_42_method_155_code (2 : Nat) (Option.none : Option Jvm.ClassFile.FieldType)).before args0 about1 = true := code_word (m := ⟨7, 11⟩) (meth := k7m11) (c := k7c11) (by decide +kernel) rfl rfl rfl (by decide +kernel)
set_option maxRecDepth 65536 in
theorem w_c18 : (Jvm.Cond.code ({ cls := "jdk/internal/util/Preconditions", name := "checkIndex", desc := "(IILjava/util/function/BiFunction;)I" } : Jvm.MethodName) jdk_41_method_11_code (3 : Nat) (Option.some Jvm.ClassFile.FieldType.int)).before args0 about1 = true := code_word (m := ⟨11, 1⟩) (meth := k11m1) (c := k11c1) (by decide +kernel) rfl rfl rfl (by decide +kernel)
set_option maxRecDepth 65536 in
theorem w_c19 : (Jvm.Cond.code ({ cls := "com/example/selgen/selgen/CompactJson", name := "nextOrEnd", desc := "(Ljava/lang/String;CI)I" } : Jvm.MethodName) prog_3_method_3_code (4 : Nat) (Option.some Jvm.ClassFile.FieldType.int)).before args0 about1 = true := code_word (m := ⟨9, 2⟩) (meth := k9m2) (c := k9c2) (by decide +kernel) rfl rfl rfl (by decide +kernel)
set_option maxRecDepth 65536 in
theorem w_c20 : (Jvm.Cond.code ({ cls := "java/lang/String", name := "indexOf", desc := "(II)I" } : Jvm.MethodName) jdk_42_method_80_code (3 : Nat) (Option.some Jvm.ClassFile.FieldType.int)).before args0 about1 = true := code_word (m := ⟨7, 5⟩) (meth := k7m5) (c := k7c5) (by decide +kernel) rfl rfl rfl (by decide +kernel)
set_option maxRecDepth 65536 in
theorem w_c21 : (Jvm.Cond.code ({ cls := "java/lang/StringLatin1", name := "indexOf", desc := "([BIII)I" } : Jvm.MethodName) jdk_43_method_22_code (4 : Nat) (Option.some Jvm.ClassFile.FieldType.int)).before args0 about1 = true := code_word (m := ⟨10, 4⟩) (meth := k10m4) (c := k10c4) (by decide +kernel) rfl rfl rfl (by decide +kernel)
set_option maxRecDepth 65536 in
theorem w_c22 : (Jvm.Cond.code ({ cls := "java/lang/StringLatin1", name := "canEncode", desc := "(I)Z" } : Jvm.MethodName) jdk_43_method_4_code (1 : Nat) (Option.some Jvm.ClassFile.FieldType.boolean)).before args0 about1 = true := code_word (m := ⟨10, 3⟩) (meth := k10m3) (c := k10c3) (by decide +kernel) rfl rfl rfl (by decide +kernel)
set_option maxRecDepth 65536 in
theorem w_c23 : (Jvm.Cond.code ({ cls := "java/lang/Math", name := "max", desc := "(II)I" } : Jvm.MethodName) jdk_29_method_65_code (2 : Nat) (Option.some Jvm.ClassFile.FieldType.int)).before args0 about1 = true := code_word (m := ⟨12, 1⟩) (meth := k12m1) (c := k12c1) (by decide +kernel) rfl rfl rfl (by decide +kernel)
set_option maxRecDepth 65536 in
theorem w_c24 : (Jvm.Cond.code ({ cls := "java/lang/Math", name := "min", desc := "(II)I" } : Jvm.MethodName) jdk_29_method_69_code (2 : Nat) (Option.some Jvm.ClassFile.FieldType.int)).before args0 about1 = true := code_word (m := ⟨12, 2⟩) (meth := k12m2) (c := k12c2) (by decide +kernel) rfl rfl rfl (by decide +kernel)
set_option maxRecDepth 65536 in
theorem w_c25 : (Jvm.Cond.code ({ cls := "java/lang/StringLatin1", name := "indexOfChar", desc := "([BIII)I" } : Jvm.MethodName) jdk_43_method_23_code (6 : Nat) (Option.some Jvm.ClassFile.FieldType.int)).before args0 about1 = true := code_word (m := ⟨10, 5⟩) (meth := k10m5) (c := k10c5) (by decide +kernel) rfl rfl rfl (by decide +kernel)
set_option maxRecDepth 65536 in
theorem w_c26 : (Jvm.Cond.code ({ cls := "com/example/selgen/selgen/CompactJsonOfPinLaw", name := "at", desc := "(Ljava/lang/String;II[C)Z" } : Jvm.MethodName) method_6_code (4 : Nat) (Option.some Jvm.ClassFile.FieldType.boolean)).before args0 about1 = true := code_word (m := ⟨1, 5⟩) (meth := k1m5) (c := k1c5) (by decide +kernel) rfl rfl rfl (by decide +kernel)
set_option maxRecDepth 65536 in
theorem w_c27 : (Jvm.Cond.code ({ cls := "java/lang/StringBuilder", name := "<init>", desc := "(I)V" } : Jvm.MethodName) jdk_67_method_2_code (2 : Nat) (Option.none : Option Jvm.ClassFile.FieldType)).before args0 about1 = true := code_word (m := ⟨15, 1⟩) (meth := k15m1) (c := k15c1) (by decide +kernel) rfl rfl rfl (by decide +kernel)
set_option maxRecDepth 65536 in
theorem w_c28 : (Jvm.Cond.code ({ cls := "java/lang/AbstractStringBuilder", name := "<init>", desc := "(I)V" } : Jvm.MethodName) jdk_68_method_2_code (2 : Nat) (Option.none : Option Jvm.ClassFile.FieldType)).before args0 about1 = true := code_word (m := ⟨14, 1⟩) (meth := k14m1) (c := k14c1) (by decide +kernel) rfl rfl rfl (by decide +kernel)
set_option maxRecDepth 65536 in
theorem w_c29 : (Jvm.Cond.code ({ cls := "java/lang/StringBuilder", name := "append", desc := "(Ljava/lang/CharSequence;II)Ljava/lang/StringBuilder;" } : Jvm.MethodName) jdk_67_method_10_code (4 : Nat) (Option.some (Jvm.ClassFile.FieldType.object "java/lang/StringBuilder"))).before args0 about1 = true := code_word (m := ⟨15, 2⟩) (meth := k15m2) (c := k15c2) (by decide +kernel) rfl rfl rfl (by decide +kernel)
set_option maxRecDepth 65536 in
theorem w_c30 : (Jvm.Cond.code ({ cls := "java/lang/AbstractStringBuilder", name := "append", desc := "(Ljava/lang/CharSequence;II)Ljava/lang/AbstractStringBuilder;" } : Jvm.MethodName) jdk_68_method_27_code (5 : Nat) (Option.some (Jvm.ClassFile.FieldType.object "java/lang/AbstractStringBuilder"))).before args0 about1 = true := code_word (m := ⟨14, 5⟩) (meth := k14m5) (c := k14c5) (by decide +kernel) rfl rfl rfl (by decide +kernel)
set_option maxRecDepth 65536 in
theorem w_c31 : (Jvm.Cond.code ({ cls := "jdk/internal/util/Preconditions", name := "checkFromToIndex", desc := "(IIILjava/util/function/BiFunction;)I" } : Jvm.MethodName) jdk_41_method_12_code (4 : Nat) (Option.some Jvm.ClassFile.FieldType.int)).before args0 about1 = true := code_word (m := ⟨11, 2⟩) (meth := k11m2) (c := k11c2) (by decide +kernel) rfl rfl rfl (by decide +kernel)
set_option maxRecDepth 65536 in
theorem w_c32 : (Jvm.Cond.code ({ cls := "java/lang/AbstractStringBuilder", name := "ensureCapacityInternal", desc := "(I)V" } : Jvm.MethodName) jdk_68_method_9_code (3 : Nat) (Option.none : Option Jvm.ClassFile.FieldType)).before args0 about1 = true := code_word (m := ⟨14, 3⟩) (meth := k14m3) (c := k14c3) (by decide +kernel) rfl rfl rfl (by decide +kernel)
set_option maxRecDepth 65536 in
theorem w_c33 : (Jvm.Cond.code ({ cls := "java/lang/AbstractStringBuilder", name := "appendChars", desc := "(Ljava/lang/String;II)V" } : Jvm.MethodName) jdk_68_method_75_code (8 : Nat) (Option.none : Option Jvm.ClassFile.FieldType)).before args0 about1 = true := code_word (m := ⟨14, 8⟩) (meth := k14m8) (c := k14c8) (by decide +kernel) rfl rfl rfl (by decide +kernel)
set_option maxRecDepth 65536 in
theorem w_c34 : (Jvm.Cond.code ({ cls := "java/lang/AbstractStringBuilder", name := "isLatin1", desc := "()Z" } : Jvm.MethodName) jdk_68_method_68_code (1 : Nat) (Option.some Jvm.ClassFile.FieldType.boolean)).before args0 about1 = true := code_word (m := ⟨14, 7⟩) (meth := k14m7) (c := k14c7) (by decide +kernel) rfl rfl rfl (by decide +kernel)
set_option maxRecDepth 65536 in
theorem w_c35 : (Jvm.Cond.code ({ cls := "java/lang/String", name := "value", desc := "()[B" } : Jvm.MethodName) jdk_42_method_153_code (1 : Nat) (Option.some (Jvm.ClassFile.FieldType.array Jvm.ClassFile.FieldType.byte))).before args0 about1 = true := code_word (m := ⟨7, 9⟩) (meth := k7m9) (c := k7c9) (by decide +kernel) rfl rfl rfl (by decide +kernel)
set_option maxRecDepth 65536 in
theorem w_c36 : (Jvm.Cond.code ({ cls := "java/lang/StringBuilder", name := "toString", desc := "()Ljava/lang/String;" } : Jvm.MethodName) jdk_67_method_42_code (1 : Nat) (Option.some (Jvm.ClassFile.FieldType.object "java/lang/String"))).before args0 about1 = true := code_word (m := ⟨15, 3⟩) (meth := k15m3) (c := k15c3) (by decide +kernel) rfl rfl rfl (by decide +kernel)
set_option maxRecDepth 65536 in
theorem w_c37 : (Jvm.Cond.code ({ cls := "java/lang/String", name := "<init>", desc := "(Ljava/lang/StringBuilder;)V" } : Jvm.MethodName) jdk_42_method_53_code (2 : Nat) (Option.none : Option Jvm.ClassFile.FieldType)).before args0 about1 = true := code_word (m := ⟨7, 2⟩) (meth := k7m2) (c := k7c2) (by decide +kernel) rfl rfl rfl (by decide +kernel)
set_option maxRecDepth 65536 in
theorem w_c38 : (Jvm.Cond.code ({ cls := "java/lang/String", name := "<init>", desc := "(Ljava/lang/AbstractStringBuilder;Ljava/lang/Void;)V" } : Jvm.MethodName) jdk_42_method_150_code (5 : Nat) (Option.none : Option Jvm.ClassFile.FieldType)).before args0 about1 = true := code_word (m := ⟨7, 7⟩) (meth := k7m7) (c := k7c7) (by decide +kernel) rfl rfl rfl (by decide +kernel)
set_option maxRecDepth 65536 in
theorem w_c39 : (Jvm.Cond.code ({ cls := "java/lang/AbstractStringBuilder", name := "getValue", desc := "()[B" } : Jvm.MethodName) jdk_68_method_64_code (1 : Nat) (Option.some (Jvm.ClassFile.FieldType.array Jvm.ClassFile.FieldType.byte))).before args0 about1 = true := code_word (m := ⟨14, 6⟩) (meth := k14m6) (c := k14c6) (by decide +kernel) rfl rfl rfl (by decide +kernel)
set_option maxRecDepth 65536 in
theorem w_c40 : (Jvm.Cond.code ({ cls := "java/lang/StringBuilder", name := "length", desc := "()I" } : Jvm.MethodName) jdk_67_method_93_code (1 : Nat) (Option.some Jvm.ClassFile.FieldType.int)).before args0 about1 = true := code_word (m := ⟨15, 4⟩) (meth := k15m4) (c := k15c4) (by decide +kernel) rfl rfl rfl (by decide +kernel)
set_option maxRecDepth 65536 in
theorem w_c41 : (Jvm.Cond.code ({ cls := "java/lang/AbstractStringBuilder", name := "length", desc := "()I" } : Jvm.MethodName) jdk_68_method_6_code (1 : Nat) (Option.some Jvm.ClassFile.FieldType.int)).before args0 about1 = true := code_word (m := ⟨14, 2⟩) (meth := k14m2) (c := k14c2) (by decide +kernel) rfl rfl rfl (by decide +kernel)
set_option maxRecDepth 65536 in
theorem w_c42 : (Jvm.Cond.code ({ cls := "java/util/Arrays", name := "copyOfRange", desc := "([BII)[B" } : Jvm.MethodName) jdk_65_method_132_code (3 : Nat) (Option.some (Jvm.ClassFile.FieldType.array Jvm.ClassFile.FieldType.byte))).before args0 about1 = true := code_word (m := ⟨17, 2⟩) (meth := k17m2) (c := k17c2) (by decide +kernel) rfl rfl rfl (by decide +kernel)
set_option maxRecDepth 65536 in
theorem w_c43 : (Jvm.Cond.code ({ cls := "java/util/Arrays", name := "copyOfRangeByte", desc := "([BII)[B" } : Jvm.MethodName) jdk_65_method_133_code (5 : Nat) (Option.some (Jvm.ClassFile.FieldType.array Jvm.ClassFile.FieldType.byte))).before args0 about1 = true := code_word (m := ⟨17, 3⟩) (meth := k17m3) (c := k17c3) (by decide +kernel) rfl rfl rfl (by decide +kernel)
set_option maxRecDepth 65536 in
theorem w_c44 : (Jvm.Cond.code ({ cls := "java/util/Arrays", name := "checkLength", desc := "(II)V" } : Jvm.MethodName) jdk_65_method_131_code (2 : Nat) (Option.none : Option Jvm.ClassFile.FieldType)).before args0 about1 = true := code_word (m := ⟨17, 1⟩) (meth := k17m1) (c := k17c1) (by decide +kernel) rfl rfl rfl (by decide +kernel)
set_option maxRecDepth 65536 in
theorem w_c45 : (Jvm.Cond.code ({ cls := "java/lang/StringUTF16", name := "toBytes", desc := "([CII)[B" } : Jvm.MethodName) jdk_52_method_14_code (5 : Nat) (Option.some (Jvm.ClassFile.FieldType.array Jvm.ClassFile.FieldType.byte))).before args0 about1 = true := code_word (m := ⟨8, 6⟩) (meth := k8m6) (c := k8c6) (by decide +kernel) rfl rfl rfl (by decide +kernel)
set_option maxRecDepth 65536 in
theorem w_c46 : (Jvm.Cond.code ({ cls := "java/lang/StringUTF16", name := "newBytesFor", desc := "(I)[B" } : Jvm.MethodName) jdk_52_method_2_code (1 : Nat) (Option.some (Jvm.ClassFile.FieldType.array Jvm.ClassFile.FieldType.byte))).before args0 about1 = true := code_word (m := ⟨8, 1⟩) (meth := k8m1) (c := k8c1) (by decide +kernel) rfl rfl rfl (by decide +kernel)
set_option maxRecDepth 65536 in
theorem w_c47 : (Jvm.Cond.code ({ cls := "java/lang/StringUTF16", name := "newBytesLength", desc := "(I)I" } : Jvm.MethodName) jdk_52_method_3_code (1 : Nat) (Option.some Jvm.ClassFile.FieldType.int)).before args0 about1 = true := code_word (m := ⟨8, 2⟩) (meth := k8m2) (c := k8c2) (by decide +kernel) rfl rfl rfl (by decide +kernel)
set_option maxRecDepth 65536 in
theorem w_c48 : (Jvm.Cond.code ({ cls := "java/lang/StringUTF16", name := "putChar", desc := "([BII)V" } : Jvm.MethodName) jdk_52_method_4_code (3 : Nat) (Option.none : Option Jvm.ClassFile.FieldType)).before args0 about1 = true := code_word (m := ⟨8, 3⟩) (meth := k8m3) (c := k8c3) (by decide +kernel) rfl rfl rfl (by decide +kernel)
set_option maxRecDepth 65536 in
theorem w_c49 : (Jvm.Cond.code ({ cls := "java/lang/StringUTF16", name := "getChar", desc := "([BI)C" } : Jvm.MethodName) jdk_52_method_5_code (2 : Nat) (Option.some Jvm.ClassFile.FieldType.char)).before args0 about1 = true := code_word (m := ⟨8, 4⟩) (meth := k8m4) (c := k8c4) (by decide +kernel) rfl rfl rfl (by decide +kernel)
set_option maxRecDepth 65536 in
theorem w_c50 : (Jvm.Cond.code ({ cls := "java/lang/StringUTF16", name := "charAt", desc := "([BI)C" } : Jvm.MethodName) jdk_52_method_83_code (2 : Nat) (Option.some Jvm.ClassFile.FieldType.char)).before args0 about1 = true := code_word (m := ⟨8, 13⟩) (meth := k8m13) (c := k8c13) (by decide +kernel) rfl rfl rfl (by decide +kernel)
set_option maxRecDepth 65536 in
theorem w_c51 : (Jvm.Cond.code ({ cls := "java/lang/StringUTF16", name := "checkIndex", desc := "(I[B)V" } : Jvm.MethodName) jdk_52_method_91_code (2 : Nat) (Option.none : Option Jvm.ClassFile.FieldType)).before args0 about1 = true := code_word (m := ⟨8, 15⟩) (meth := k8m15) (c := k8c15) (by decide +kernel) rfl rfl rfl (by decide +kernel)
set_option maxRecDepth 65536 in
theorem w_c52 : (Jvm.Cond.code ({ cls := "java/lang/StringUTF16", name := "length", desc := "([B)I" } : Jvm.MethodName) jdk_52_method_6_code (1 : Nat) (Option.some Jvm.ClassFile.FieldType.int)).before args0 about1 = true := code_word (m := ⟨8, 5⟩) (meth := k8m5) (c := k8c5) (by decide +kernel) rfl rfl rfl (by decide +kernel)
set_option maxRecDepth 65536 in
theorem w_c53 : (Jvm.Cond.code ({ cls := "java/lang/StringUTF16", name := "indexOf", desc := "([BIII)I" } : Jvm.MethodName) jdk_52_method_40_code (4 : Nat) (Option.some Jvm.ClassFile.FieldType.int)).before args0 about1 = true := code_word (m := ⟨8, 10⟩) (meth := k8m10) (c := k8c10) (by decide +kernel) rfl rfl rfl (by decide +kernel)
set_option maxRecDepth 65536 in
theorem w_c54 : (Jvm.Cond.code ({ cls := "java/lang/StringUTF16", name := "indexOfChar", desc := "([BIII)I" } : Jvm.MethodName) jdk_52_method_47_code (4 : Nat) (Option.some Jvm.ClassFile.FieldType.int)).before args0 about1 = true := code_word (m := ⟨8, 11⟩) (meth := k8m11) (c := k8c11) (by decide +kernel) rfl rfl rfl (by decide +kernel)
set_option maxRecDepth 65536 in
theorem w_c55 : (Jvm.Cond.code ({ cls := "java/lang/StringUTF16", name := "checkBoundsBeginEnd", desc := "(II[B)V" } : Jvm.MethodName) jdk_52_method_93_code (3 : Nat) (Option.none : Option Jvm.ClassFile.FieldType)).before args0 about1 = true := code_word (m := ⟨8, 16⟩) (meth := k8m16) (c := k8c16) (by decide +kernel) rfl rfl rfl (by decide +kernel)
set_option maxRecDepth 65536 in
theorem w_c56 : (Jvm.Cond.code ({ cls := "java/lang/String", name := "checkBoundsBeginEnd", desc := "(III)V" } : Jvm.MethodName) jdk_42_method_158_code (3 : Nat) (Option.none : Option Jvm.ClassFile.FieldType)).before args0 about1 = true := code_word (m := ⟨7, 13⟩) (meth := k7m13) (c := k7c13) (by decide +kernel) rfl rfl rfl (by decide +kernel)
set_option maxRecDepth 65536 in
theorem w_c57 : (Jvm.Cond.code ({ cls := "java/lang/StringUTF16", name := "indexOfCharUnsafe", desc := "([BIII)I" } : Jvm.MethodName) jdk_52_method_48_code (5 : Nat) (Option.some Jvm.ClassFile.FieldType.int)).before args0 about1 = true := code_word (m := ⟨8, 12⟩) (meth := k8m12) (c := k8c12) (by decide +kernel) rfl rfl rfl (by decide +kernel)
set_option maxRecDepth 65536 in
theorem w_c58 : (Jvm.Cond.code ({ cls := "java/lang/StringLatin1", name := "canEncode", desc := "(C)Z" } : Jvm.MethodName) jdk_43_method_3_code (1 : Nat) (Option.some Jvm.ClassFile.FieldType.boolean)).before args0 about1 = true := code_word (m := ⟨10, 2⟩) (meth := k10m2) (c := k10c2) (by decide +kernel) rfl rfl rfl (by decide +kernel)
set_option maxRecDepth 65536 in
theorem w_c59 : (Jvm.Cond.code ({ cls := "java/lang/AbstractStringBuilder", name := "inflate", desc := "()V" } : Jvm.MethodName) jdk_68_method_11_code (2 : Nat) (Option.none : Option Jvm.ClassFile.FieldType)).before args0 about1 = true := code_word (m := ⟨14, 4⟩) (meth := k14m4) (c := k14c4) (by decide +kernel) rfl rfl rfl (by decide +kernel)
set_option maxRecDepth 65536 in
theorem w_c60 : (Jvm.Cond.code ({ cls := "java/lang/StringLatin1", name := "inflate", desc := "([BI[BII)V" } : Jvm.MethodName) jdk_43_method_50_code (5 : Nat) (Option.none : Option Jvm.ClassFile.FieldType)).before args0 about1 = true := code_word (m := ⟨10, 6⟩) (meth := k10m6) (c := k10c6) (by decide +kernel) rfl rfl rfl (by decide +kernel)
set_option maxRecDepth 65536 in
theorem w_c61 : (Jvm.Cond.code ({ cls := "java/lang/StringUTF16", name := "inflate", desc := "([BI[BII)V" } : Jvm.MethodName) jdk_52_method_86_code (6 : Nat) (Option.none : Option Jvm.ClassFile.FieldType)).before args0 about1 = true := code_word (m := ⟨8, 14⟩) (meth := k8m14) (c := k8c14) (by decide +kernel) rfl rfl rfl (by decide +kernel)
set_option maxRecDepth 65536 in
theorem w_c62 : (Jvm.Cond.code ({ cls := "java/lang/StringUTF16", name := "checkBoundsOffCount", desc := "(II[B)V" } : Jvm.MethodName) jdk_52_method_94_code (3 : Nat) (Option.none : Option Jvm.ClassFile.FieldType)).before args0 about1 = true := code_word (m := ⟨8, 17⟩) (meth := k8m17) (c := k8c17) (by decide +kernel) rfl rfl rfl (by decide +kernel)
set_option maxRecDepth 65536 in
theorem w_c63 : (Jvm.Cond.code ({ cls := "java/lang/String", name := "checkBoundsOffCount", desc := "(III)I" } : Jvm.MethodName) jdk_42_method_157_code (3 : Nat) (Option.some Jvm.ClassFile.FieldType.int)).before args0 about1 = true := code_word (m := ⟨7, 12⟩) (meth := k7m12) (c := k7c12) (by decide +kernel) rfl rfl rfl (by decide +kernel)
set_option maxRecDepth 65536 in
theorem w_c64 : (Jvm.Cond.code ({ cls := "jdk/internal/util/Preconditions", name := "checkFromIndexSize", desc := "(IIILjava/util/function/BiFunction;)I" } : Jvm.MethodName) jdk_41_method_13_code (4 : Nat) (Option.some Jvm.ClassFile.FieldType.int)).before args0 about1 = true := code_word (m := ⟨11, 3⟩) (meth := k11m3) (c := k11c3) (by decide +kernel) rfl rfl rfl (by decide +kernel)
def codes1 : List Jvm.Cond := [Jvm.Cond.code x code maxLocals ret, Jvm.Cond.code ({ cls := "com/example/selgen/selgen/CompactJsonOfPinLaw", name := "draw", desc := "(I)C" } : Jvm.MethodName) method_2_code (2 : Nat) (Option.some Jvm.ClassFile.FieldType.char), Jvm.Cond.code ({ cls := "java/lang/String", name := "<init>", desc := "([C)V" } : Jvm.MethodName) jdk_42_method_3_code (2 : Nat) (Option.none : Option Jvm.ClassFile.FieldType), Jvm.Cond.code ({ cls := "java/lang/String", name := "<init>", desc := "([CIILjava/lang/Void;)V" } : Jvm.MethodName) jdk_42_method_149_code (6 : Nat) (Option.none : Option Jvm.ClassFile.FieldType), Jvm.Cond.code ({ cls := "java/lang/Object", name := "<init>", desc := "()V" } : Jvm.MethodName) object_method_1_code (1 : Nat) (Option.none : Option Jvm.ClassFile.FieldType), Jvm.Cond.code ({ cls := "java/lang/StringUTF16", name := "compress", desc := "([CII)[B" } : Jvm.MethodName) jdk_52_method_16_code (6 : Nat) (Option.some (Jvm.ClassFile.FieldType.array Jvm.ClassFile.FieldType.byte)), Jvm.Cond.code ({ cls := "java/lang/StringUTF16", name := "compress", desc := "([CI[BII)I" } : Jvm.MethodName) jdk_52_method_21_code (7 : Nat) (Option.some Jvm.ClassFile.FieldType.int), Jvm.Cond.code ({ cls := "java/lang/StringUTF16", name := "coderFromArrayLen", desc := "([BI)B" } : Jvm.MethodName) jdk_52_method_15_code (2 : Nat) (Option.some Jvm.ClassFile.FieldType.byte), Jvm.Cond.code ({ cls := "com/example/selgen/selgen/CompactJsonOfPinLaw", name := "keep", desc := "(IC)Z" } : Jvm.MethodName) method_5_code (2 : Nat) (Option.some Jvm.ClassFile.FieldType.boolean), Jvm.Cond.code ({ cls := "com/example/selgen/selgen/CompactJsonOfPinLaw", name := "ws", desc := "(C)Z" } : Jvm.MethodName) method_3_code (1 : Nat) (Option.some Jvm.ClassFile.FieldType.boolean), Jvm.Cond.code ({ cls := "com/example/selgen/selgen/CompactJsonOfPinLaw", name := "next", desc := "(IC)I" } : Jvm.MethodName) method_4_code (2 : Nat) (Option.some Jvm.ClassFile.FieldType.int), Jvm.Cond.code ({ cls := "com/example/selgen/selgen/CompactJson", name := "of", desc := "(Ljava/lang/String;)Ljava/lang/String;" } : Jvm.MethodName) prog_3_method_2_code (8 : Nat) (Option.some (Jvm.ClassFile.FieldType.object "java/lang/String")), Jvm.Cond.code ({ cls := "java/lang/String", name := "length", desc := "()I" } : Jvm.MethodName) jdk_42_method_54_code (1 : Nat) (Option.some Jvm.ClassFile.FieldType.int), Jvm.Cond.code ({ cls := "java/lang/String", name := "coder", desc := "()B" } : Jvm.MethodName) jdk_42_method_152_code (1 : Nat) (Option.some Jvm.ClassFile.FieldType.byte), Jvm.Cond.code ({ cls := "java/lang/String", name := "charAt", desc := "(I)C" } : Jvm.MethodName) jdk_42_method_56_code (2 : Nat) (Option.some Jvm.ClassFile.FieldType.char), Jvm.Cond.code ({ cls := "java/lang/String", name := "isLatin1", desc := "()Z" } : Jvm.MethodName) jdk_42_method_154_code (1 : Nat) (Option.some Jvm.ClassFile.FieldType.boolean), Jvm.Cond.code ({ cls := "java/lang/StringLatin1", name := "charAt", desc := "([BI)C" } : Jvm.MethodName) jdk_43_method_2_code (2 : Nat) (Option.some Jvm.ClassFile.FieldType.char), Jvm.Cond.code ({ cls := "java/lang/String", name := "checkIndex", desc := "(II)V" } : Jvm.MethodName) jdk_42_method_155_code (2 : Nat) (Option.none : Option Jvm.ClassFile.FieldType), Jvm.Cond.code ({ cls := "jdk/internal/util/Preconditions", name := "checkIndex", desc := "(IILjava/util/function/BiFunction;)I" } : Jvm.MethodName) jdk_41_method_11_code (3 : Nat) (Option.some Jvm.ClassFile.FieldType.int), Jvm.Cond.code ({ cls := "com/example/selgen/selgen/CompactJson", name := "nextOrEnd", desc := "(Ljava/lang/String;CI)I" } : Jvm.MethodName) prog_3_method_3_code (4 : Nat) (Option.some Jvm.ClassFile.FieldType.int), Jvm.Cond.code ({ cls := "java/lang/String", name := "indexOf", desc := "(II)I" } : Jvm.MethodName) jdk_42_method_80_code (3 : Nat) (Option.some Jvm.ClassFile.FieldType.int), Jvm.Cond.code ({ cls := "java/lang/StringLatin1", name := "indexOf", desc := "([BIII)I" } : Jvm.MethodName) jdk_43_method_22_code (4 : Nat) (Option.some Jvm.ClassFile.FieldType.int), Jvm.Cond.code ({ cls := "java/lang/StringLatin1", name := "canEncode", desc := "(I)Z" } : Jvm.MethodName) jdk_43_method_4_code (1 : Nat) (Option.some Jvm.ClassFile.FieldType.boolean), Jvm.Cond.code ({ cls := "java/lang/Math", name := "max", desc := "(II)I" } : Jvm.MethodName) jdk_29_method_65_code (2 : Nat) (Option.some Jvm.ClassFile.FieldType.int), Jvm.Cond.code ({ cls := "java/lang/Math", name := "min", desc := "(II)I" } : Jvm.MethodName) jdk_29_method_69_code (2 : Nat) (Option.some Jvm.ClassFile.FieldType.int), Jvm.Cond.code ({ cls := "java/lang/StringLatin1", name := "indexOfChar", desc := "([BIII)I" } : Jvm.MethodName) jdk_43_method_23_code (6 : Nat) (Option.some Jvm.ClassFile.FieldType.int), Jvm.Cond.code ({ cls := "com/example/selgen/selgen/CompactJsonOfPinLaw", name := "at", desc := "(Ljava/lang/String;II[C)Z" } : Jvm.MethodName) method_6_code (4 : Nat) (Option.some Jvm.ClassFile.FieldType.boolean), Jvm.Cond.code ({ cls := "java/lang/StringBuilder", name := "<init>", desc := "(I)V" } : Jvm.MethodName) jdk_67_method_2_code (2 : Nat) (Option.none : Option Jvm.ClassFile.FieldType), Jvm.Cond.code ({ cls := "java/lang/AbstractStringBuilder", name := "<init>", desc := "(I)V" } : Jvm.MethodName) jdk_68_method_2_code (2 : Nat) (Option.none : Option Jvm.ClassFile.FieldType), Jvm.Cond.code ({ cls := "java/lang/StringBuilder", name := "append", desc := "(Ljava/lang/CharSequence;II)Ljava/lang/StringBuilder;" } : Jvm.MethodName) jdk_67_method_10_code (4 : Nat) (Option.some (Jvm.ClassFile.FieldType.object "java/lang/StringBuilder")), Jvm.Cond.code ({ cls := "java/lang/AbstractStringBuilder", name := "append", desc := "(Ljava/lang/CharSequence;II)Ljava/lang/AbstractStringBuilder;" } : Jvm.MethodName) jdk_68_method_27_code (5 : Nat) (Option.some (Jvm.ClassFile.FieldType.object "java/lang/AbstractStringBuilder")), Jvm.Cond.code ({ cls := "jdk/internal/util/Preconditions", name := "checkFromToIndex", desc := "(IIILjava/util/function/BiFunction;)I" } : Jvm.MethodName) jdk_41_method_12_code (4 : Nat) (Option.some Jvm.ClassFile.FieldType.int), Jvm.Cond.code ({ cls := "java/lang/AbstractStringBuilder", name := "ensureCapacityInternal", desc := "(I)V" } : Jvm.MethodName) jdk_68_method_9_code (3 : Nat) (Option.none : Option Jvm.ClassFile.FieldType), Jvm.Cond.code ({ cls := "java/lang/AbstractStringBuilder", name := "appendChars", desc := "(Ljava/lang/String;II)V" } : Jvm.MethodName) jdk_68_method_75_code (8 : Nat) (Option.none : Option Jvm.ClassFile.FieldType), Jvm.Cond.code ({ cls := "java/lang/AbstractStringBuilder", name := "isLatin1", desc := "()Z" } : Jvm.MethodName) jdk_68_method_68_code (1 : Nat) (Option.some Jvm.ClassFile.FieldType.boolean), Jvm.Cond.code ({ cls := "java/lang/String", name := "value", desc := "()[B" } : Jvm.MethodName) jdk_42_method_153_code (1 : Nat) (Option.some (Jvm.ClassFile.FieldType.array Jvm.ClassFile.FieldType.byte)), Jvm.Cond.code ({ cls := "java/lang/StringBuilder", name := "toString", desc := "()Ljava/lang/String;" } : Jvm.MethodName) jdk_67_method_42_code (1 : Nat) (Option.some (Jvm.ClassFile.FieldType.object "java/lang/String")), Jvm.Cond.code ({ cls := "java/lang/String", name := "<init>", desc := "(Ljava/lang/StringBuilder;)V" } : Jvm.MethodName) jdk_42_method_53_code (2 : Nat) (Option.none : Option Jvm.ClassFile.FieldType), Jvm.Cond.code ({ cls := "java/lang/String", name := "<init>", desc := "(Ljava/lang/AbstractStringBuilder;Ljava/lang/Void;)V" } : Jvm.MethodName) jdk_42_method_150_code (5 : Nat) (Option.none : Option Jvm.ClassFile.FieldType), Jvm.Cond.code ({ cls := "java/lang/AbstractStringBuilder", name := "getValue", desc := "()[B" } : Jvm.MethodName) jdk_68_method_64_code (1 : Nat) (Option.some (Jvm.ClassFile.FieldType.array Jvm.ClassFile.FieldType.byte)), Jvm.Cond.code ({ cls := "java/lang/StringBuilder", name := "length", desc := "()I" } : Jvm.MethodName) jdk_67_method_93_code (1 : Nat) (Option.some Jvm.ClassFile.FieldType.int), Jvm.Cond.code ({ cls := "java/lang/AbstractStringBuilder", name := "length", desc := "()I" } : Jvm.MethodName) jdk_68_method_6_code (1 : Nat) (Option.some Jvm.ClassFile.FieldType.int), Jvm.Cond.code ({ cls := "java/util/Arrays", name := "copyOfRange", desc := "([BII)[B" } : Jvm.MethodName) jdk_65_method_132_code (3 : Nat) (Option.some (Jvm.ClassFile.FieldType.array Jvm.ClassFile.FieldType.byte)), Jvm.Cond.code ({ cls := "java/util/Arrays", name := "copyOfRangeByte", desc := "([BII)[B" } : Jvm.MethodName) jdk_65_method_133_code (5 : Nat) (Option.some (Jvm.ClassFile.FieldType.array Jvm.ClassFile.FieldType.byte)), Jvm.Cond.code ({ cls := "java/util/Arrays", name := "checkLength", desc := "(II)V" } : Jvm.MethodName) jdk_65_method_131_code (2 : Nat) (Option.none : Option Jvm.ClassFile.FieldType), Jvm.Cond.code ({ cls := "java/lang/StringUTF16", name := "toBytes", desc := "([CII)[B" } : Jvm.MethodName) jdk_52_method_14_code (5 : Nat) (Option.some (Jvm.ClassFile.FieldType.array Jvm.ClassFile.FieldType.byte)), Jvm.Cond.code ({ cls := "java/lang/StringUTF16", name := "newBytesFor", desc := "(I)[B" } : Jvm.MethodName) jdk_52_method_2_code (1 : Nat) (Option.some (Jvm.ClassFile.FieldType.array Jvm.ClassFile.FieldType.byte)), Jvm.Cond.code ({ cls := "java/lang/StringUTF16", name := "newBytesLength", desc := "(I)I" } : Jvm.MethodName) jdk_52_method_3_code (1 : Nat) (Option.some Jvm.ClassFile.FieldType.int), Jvm.Cond.code ({ cls := "java/lang/StringUTF16", name := "putChar", desc := "([BII)V" } : Jvm.MethodName) jdk_52_method_4_code (3 : Nat) (Option.none : Option Jvm.ClassFile.FieldType), Jvm.Cond.code ({ cls := "java/lang/StringUTF16", name := "getChar", desc := "([BI)C" } : Jvm.MethodName) jdk_52_method_5_code (2 : Nat) (Option.some Jvm.ClassFile.FieldType.char), Jvm.Cond.code ({ cls := "java/lang/StringUTF16", name := "charAt", desc := "([BI)C" } : Jvm.MethodName) jdk_52_method_83_code (2 : Nat) (Option.some Jvm.ClassFile.FieldType.char), Jvm.Cond.code ({ cls := "java/lang/StringUTF16", name := "checkIndex", desc := "(I[B)V" } : Jvm.MethodName) jdk_52_method_91_code (2 : Nat) (Option.none : Option Jvm.ClassFile.FieldType), Jvm.Cond.code ({ cls := "java/lang/StringUTF16", name := "length", desc := "([B)I" } : Jvm.MethodName) jdk_52_method_6_code (1 : Nat) (Option.some Jvm.ClassFile.FieldType.int), Jvm.Cond.code ({ cls := "java/lang/StringUTF16", name := "indexOf", desc := "([BIII)I" } : Jvm.MethodName) jdk_52_method_40_code (4 : Nat) (Option.some Jvm.ClassFile.FieldType.int), Jvm.Cond.code ({ cls := "java/lang/StringUTF16", name := "indexOfChar", desc := "([BIII)I" } : Jvm.MethodName) jdk_52_method_47_code (4 : Nat) (Option.some Jvm.ClassFile.FieldType.int), Jvm.Cond.code ({ cls := "java/lang/StringUTF16", name := "checkBoundsBeginEnd", desc := "(II[B)V" } : Jvm.MethodName) jdk_52_method_93_code (3 : Nat) (Option.none : Option Jvm.ClassFile.FieldType), Jvm.Cond.code ({ cls := "java/lang/String", name := "checkBoundsBeginEnd", desc := "(III)V" } : Jvm.MethodName) jdk_42_method_158_code (3 : Nat) (Option.none : Option Jvm.ClassFile.FieldType), Jvm.Cond.code ({ cls := "java/lang/StringUTF16", name := "indexOfCharUnsafe", desc := "([BIII)I" } : Jvm.MethodName) jdk_52_method_48_code (5 : Nat) (Option.some Jvm.ClassFile.FieldType.int), Jvm.Cond.code ({ cls := "java/lang/StringLatin1", name := "canEncode", desc := "(C)Z" } : Jvm.MethodName) jdk_43_method_3_code (1 : Nat) (Option.some Jvm.ClassFile.FieldType.boolean), Jvm.Cond.code ({ cls := "java/lang/AbstractStringBuilder", name := "inflate", desc := "()V" } : Jvm.MethodName) jdk_68_method_11_code (2 : Nat) (Option.none : Option Jvm.ClassFile.FieldType), Jvm.Cond.code ({ cls := "java/lang/StringLatin1", name := "inflate", desc := "([BI[BII)V" } : Jvm.MethodName) jdk_43_method_50_code (5 : Nat) (Option.none : Option Jvm.ClassFile.FieldType), Jvm.Cond.code ({ cls := "java/lang/StringUTF16", name := "inflate", desc := "([BI[BII)V" } : Jvm.MethodName) jdk_52_method_86_code (6 : Nat) (Option.none : Option Jvm.ClassFile.FieldType), Jvm.Cond.code ({ cls := "java/lang/StringUTF16", name := "checkBoundsOffCount", desc := "(II[B)V" } : Jvm.MethodName) jdk_52_method_94_code (3 : Nat) (Option.none : Option Jvm.ClassFile.FieldType), Jvm.Cond.code ({ cls := "java/lang/String", name := "checkBoundsOffCount", desc := "(III)I" } : Jvm.MethodName) jdk_42_method_157_code (3 : Nat) (Option.some Jvm.ClassFile.FieldType.int), Jvm.Cond.code ({ cls := "jdk/internal/util/Preconditions", name := "checkFromIndexSize", desc := "(IIILjava/util/function/BiFunction;)I" } : Jvm.MethodName) jdk_41_method_13_code (4 : Nat) (Option.some Jvm.ClassFile.FieldType.int)]
set_option maxRecDepth 65536 in
theorem codes_eq : words1.filter isCode = codes1 := rfl
theorem w_codes : ∀ c ∈ words1.filter isCode, c.before args0 about1 = true := by
  rw [codes_eq]
  intro c hc
  simp only [codes1, List.mem_cons, List.not_mem_nil, or_false] at hc
  rcases hc with rfl | rfl | rfl | rfl | rfl | rfl | rfl | rfl | rfl | rfl | rfl | rfl | rfl | rfl | rfl | rfl | rfl | rfl | rfl | rfl | rfl | rfl | rfl | rfl | rfl | rfl | rfl | rfl | rfl | rfl | rfl | rfl | rfl | rfl | rfl | rfl | rfl | rfl | rfl | rfl | rfl | rfl | rfl | rfl | rfl | rfl | rfl | rfl | rfl | rfl | rfl | rfl | rfl | rfl | rfl | rfl | rfl | rfl | rfl | rfl | rfl | rfl | rfl | rfl | rfl
  · exact w_c0
  · exact w_c1
  · exact w_c2
  · exact w_c3
  · exact w_c4
  · exact w_c5
  · exact w_c6
  · exact w_c7
  · exact w_c8
  · exact w_c9
  · exact w_c10
  · exact w_c11
  · exact w_c12
  · exact w_c13
  · exact w_c14
  · exact w_c15
  · exact w_c16
  · exact w_c17
  · exact w_c18
  · exact w_c19
  · exact w_c20
  · exact w_c21
  · exact w_c22
  · exact w_c23
  · exact w_c24
  · exact w_c25
  · exact w_c26
  · exact w_c27
  · exact w_c28
  · exact w_c29
  · exact w_c30
  · exact w_c31
  · exact w_c32
  · exact w_c33
  · exact w_c34
  · exact w_c35
  · exact w_c36
  · exact w_c37
  · exact w_c38
  · exact w_c39
  · exact w_c40
  · exact w_c41
  · exact w_c42
  · exact w_c43
  · exact w_c44
  · exact w_c45
  · exact w_c46
  · exact w_c47
  · exact w_c48
  · exact w_c49
  · exact w_c50
  · exact w_c51
  · exact w_c52
  · exact w_c53
  · exact w_c54
  · exact w_c55
  · exact w_c56
  · exact w_c57
  · exact w_c58
  · exact w_c59
  · exact w_c60
  · exact w_c61
  · exact w_c62
  · exact w_c63
  · exact w_c64
set_option maxRecDepth 65536 in
theorem w_t1 : (words1.take 24).all (fun c => isCode c || c.before args0 about1) = true := by decide +kernel
set_option maxRecDepth 65536 in
theorem w_t2 : ((words1.drop 24).take 24).all (fun c => isCode c || c.before args0 about1) = true := by decide +kernel
set_option maxRecDepth 65536 in
theorem w_t3 : (((words1.drop 24).drop 24).take 24).all (fun c => isCode c || c.before args0 about1) = true := by decide +kernel
set_option maxRecDepth 65536 in
theorem w_t4 : ((((words1.drop 24).drop 24).drop 24).take 24).all (fun c => isCode c || c.before args0 about1) = true := by decide +kernel
set_option maxRecDepth 65536 in
theorem w_t5 : (((((words1.drop 24).drop 24).drop 24).drop 24).take 24).all (fun c => isCode c || c.before args0 about1) = true := by decide +kernel
set_option maxRecDepth 65536 in
theorem w_t6 : ((((((words1.drop 24).drop 24).drop 24).drop 24).drop 24).take 24).all (fun c => isCode c || c.before args0 about1) = true := by decide +kernel
set_option maxRecDepth 65536 in
theorem w_t7 : (((((((words1.drop 24).drop 24).drop 24).drop 24).drop 24).drop 24).take 24).all (fun c => isCode c || c.before args0 about1) = true := by decide +kernel
set_option maxRecDepth 65536 in
theorem w_t8 : ((((((((words1.drop 24).drop 24).drop 24).drop 24).drop 24).drop 24).drop 24).take 24).all (fun c => isCode c || c.before args0 about1) = true := by decide +kernel
set_option maxRecDepth 65536 in
theorem w_t9 : (((((((((words1.drop 24).drop 24).drop 24).drop 24).drop 24).drop 24).drop 24).drop 24).take 24).all (fun c => isCode c || c.before args0 about1) = true := by decide +kernel
set_option maxRecDepth 65536 in
theorem w_t10 : ((((((((((words1.drop 24).drop 24).drop 24).drop 24).drop 24).drop 24).drop 24).drop 24).drop 24).take 24).all (fun c => isCode c || c.before args0 about1) = true := by decide +kernel
set_option maxRecDepth 65536 in
theorem w_t11 : (((((((((((words1.drop 24).drop 24).drop 24).drop 24).drop 24).drop 24).drop 24).drop 24).drop 24).drop 24).take 24).all (fun c => isCode c || c.before args0 about1) = true := by decide +kernel
set_option maxRecDepth 65536 in
theorem w_t12 : ((((((((((((words1.drop 24).drop 24).drop 24).drop 24).drop 24).drop 24).drop 24).drop 24).drop 24).drop 24).drop 24).take 24).all (fun c => isCode c || c.before args0 about1) = true := by decide +kernel
set_option maxRecDepth 65536 in
theorem w_t13 : ((((((((((((words1.drop 24).drop 24).drop 24).drop 24).drop 24).drop 24).drop 24).drop 24).drop 24).drop 24).drop 24).drop 24).all (fun c => isCode c || c.before args0 about1) = true := by decide +kernel
theorem w_tables : (allAtoms (Jvm.Cond.code x code maxLocals ret :: tables_1)).before args0 about1 = true := by
  rw [allAtoms_all]
  show words1.all (fun c => c.before args0 about1) = true
  refine all_split ?_ w_codes
  rw [← List.take_append_drop 24 words1, List.all_append, w_t1, ← List.take_append_drop 24 (words1.drop 24), List.all_append, w_t2, ← List.take_append_drop 24 ((words1.drop 24).drop 24), List.all_append, w_t3, ← List.take_append_drop 24 (((words1.drop 24).drop 24).drop 24), List.all_append, w_t4, ← List.take_append_drop 24 ((((words1.drop 24).drop 24).drop 24).drop 24), List.all_append, w_t5, ← List.take_append_drop 24 (((((words1.drop 24).drop 24).drop 24).drop 24).drop 24), List.all_append, w_t6, ← List.take_append_drop 24 ((((((words1.drop 24).drop 24).drop 24).drop 24).drop 24).drop 24), List.all_append, w_t7, ← List.take_append_drop 24 (((((((words1.drop 24).drop 24).drop 24).drop 24).drop 24).drop 24).drop 24), List.all_append, w_t8, ← List.take_append_drop 24 ((((((((words1.drop 24).drop 24).drop 24).drop 24).drop 24).drop 24).drop 24).drop 24), List.all_append, w_t9, ← List.take_append_drop 24 (((((((((words1.drop 24).drop 24).drop 24).drop 24).drop 24).drop 24).drop 24).drop 24).drop 24), List.all_append, w_t10, ← List.take_append_drop 24 ((((((((((words1.drop 24).drop 24).drop 24).drop 24).drop 24).drop 24).drop 24).drop 24).drop 24).drop 24), List.all_append, w_t11, ← List.take_append_drop 24 (((((((((((words1.drop 24).drop 24).drop 24).drop 24).drop 24).drop 24).drop 24).drop 24).drop 24).drop 24).drop 24), List.all_append, w_t12, w_t13]
  rfl
set_option maxRecDepth 65536 in
theorem w_rest : rest_1_c.before args0 about1 = true := by decide +kernel
set_option maxRecDepth 65536 in
theorem w_case : (Jvm.Cond.and given_1 narrow_1).before args0 about1 = true := by decide +kernel
theorem w_applies : (headSpec (Jvm.Cond.code x code maxLocals ret :: tables_1) room_1).applies x e0.platform about1 = true :=
  (Spec.applies_iff w_frames).mpr ⟨w_running, w_runnable, w_alone, w_named, w_hears, w_ripe, w_room, w_tables⟩
theorem atStart : AtStart classFile x code maxLocals ret World_1 tables_1 room_1 Calls_1 rest_1 Pre_1 launch0 p0 e0 about1 theMethod args0 below0 :=
  ⟨lists_1, trivial, launch0.admits_env _ _ _, launch0.least_env, fairChoices_fair.cas, fairChoices_fair.clock, w_frames, w_args, w_heap, w_applies, trivial, w_rest, w_case⟩
end start1
theorem witness_1 : WitnessClaimed_1 := ⟨start1.p0, start1.e0, start1.about1, start1.theMethod, start1.args0, start1.below0, start1.atStart⟩
end Jvm.Pilot.@@N@@
