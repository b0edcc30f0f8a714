import JvmDerived
import JvmDerived.Pilot.@@N@@Statement
import JvmDerived.Pilot.@@N@@Code
set_option linter.unusedVariables false
set_option linter.unusedSimpArgs false
namespace Jvm.Pilot.@@N@@
open Jvm Jvm.ClassFile Sem Op Lib Jvm.Free Jvm.Stand Jvm.LawKit Jvm.RoadKit Bundle Jvm.Pilot.@@N@@.Jvm.D
/-! THE LAYER: what a body does from a point on, as one sentence ('own_WP'); a contract is 'own_Met'. K: the launch, the start's state, the string constants that are held, 'nothing is interned'. M: the method, its bytes, its locals, what it returns, its room. -/
abbrev own_Cx : Type := Launch × State × List (String × Nat) × Bool
abbrev own_Cx.l (K : own_Cx) : Launch := K.1
abbrev own_Cx.Z (K : own_Cx) : State := K.2.1
abbrev own_Cx.E (K : own_Cx) : List (String × Nat) := K.2.2.1
abbrev own_Cx.nw (K : own_Cx) : Bool := K.2.2.2
abbrev own_Cx.n (K : own_Cx) : Nat := K.Z.heap.size
abbrev own_Mi : Type := MethodName × ByteArray × Nat × Option FieldType × Room
abbrev own_Mi.y (M : own_Mi) : MethodName := M.1
abbrev own_Mi.b (M : own_Mi) : ByteArray := M.2.1
abbrev own_Mi.mx (M : own_Mi) : Nat := M.2.2.1
abbrev own_Mi.ret (M : own_Mi) : Option FieldType := M.2.2.2.1
abbrev own_Mi.R (M : own_Mi) : Room := M.2.2.2.2
abbrev own_Q : Type := Option Value → Heap → List Addr → Prop
def own_ret (q : Value → Heap → List Addr → Prop) : own_Q := fun v h xs => ∃ w, v = some w ∧ q w h xs
def own_void (q : Heap → List Addr → Prop) : own_Q := fun v h xs => v = none ∧ q h xs
def own_Bdy (K : own_Cx) (M : own_Mi) (p : Program) (s : State) (m : MethodId) (meth : Method) (c : Code) : Prop :=
  p.tables.exec = Jvm.exec ∧ c.code = M.b ∧ c.maxLocals = M.mx ∧ s.vm.findClass M.y.cls = some m.cls ∧ meth.name = M.y.name ∧ meth.sig.returnType = M.ret ∧ meth.locks = false ∧ K.Z.Warmed39 s.vm ∧ ∃ a0, EW K.Z a0 K.E
def own_Sf (K : own_Cx) (vm : Vm) (h : Heap) (xs : List Addr) : Prop := ∀ x ∈ xs, K.n ≤ x ∧ x < h.size ∧ Safe K.Z K.E vm h x
def own_Inv (K : own_Cx) (s : State) (vm0 : Vm) (k0 : Nat) (h : Heap) (sf : List Addr) : Prop :=
  s.Since vm0 k0 ∧ k0 ≤ h.size ∧ (K.nw = true → s.WarmedH vm0) ∧ CHr K.Z K.E s.vm s.heap vm0 h ∧ own_Sf K vm0 h sf ∧ Ext K.Z.heap h
def own_End (K : own_Cx) (R : Room) (Q : own_Q) (s : State) (o : Outcome) (t : State) : Prop :=
  ∃ v L xs, o = .returned v ∧ Q v t.heap xs ∧ Fr K.n L ∧ CHr K.Z K.E s.vm s.heap t.vm t.heap ∧ own_Sf K t.vm t.heap xs ∧ Ext K.Z.heap t.heap ∧ ReturnedEndW s o t L R.cells R.slots ∧ (K.nw = true → s.WarmedH t.vm)
def own_Fin (K : own_Cx) (R : Room) (Q : own_Q) (p : Program) (e : Env) (below : List Frame) (s F : State) : Prop :=
  ∃ s₂ o, Steps p.tables e below F s₂ ∧ s₂.status = .running ∧ Ended s₂ below o ∧ own_End K R Q s o s₂
def own_WP (K : own_Cx) (M : own_Mi) (Q : own_Q) (pc : Nat) (Ls : List Slot) (St : List Value) (sf : List Addr) (h : Heap) (cs sl : Nat) : Prop :=
  ∀ (p : Program) (e : Env) (s : State) (vm0 : Vm) (k0 : Nat) (m : MethodId) (args : Array Value) (below : List Frame) (meth : Method) (c : Code) (T : State) (locs : List Loc) (cs' sl' : Nat),
    own_Bdy K M p (s.setVm vm0) m meth c → Stand p K.l e M.R (s.setVm vm0) m args below meth c T locs cs' sl' → cs' ≤ cs → sl' ≤ sl → T.heap = h → Fr K.n locs → own_Inv K s vm0 k0 h sf →
    own_Fin K M.R Q p e below s (T.setTop (mkF m pc Ls.toArray St))
def own_Met (K : own_Cx) (M : own_Mi) (as' : Array Value) (sf : List Addr) (h : Heap) (Q : own_Q) : Prop :=
  ∀ ws : List Jvm.Cond, MetFree K.l M.y (head1 (Jvm.Cond.code M.y M.b M.mx M.ret :: ws) M.R) (fun a U => a = as' ∧ K.Z.Warmed39 U.vm ∧ U.heap = h ∧ (∃ a0, EW K.Z a0 K.E) ∧ CHv K.Z K.E U.vm h ∧ own_Sf K U.vm h sf ∧ Ext K.Z.heap h) (fun _ _ _ _ _ => True) (fun _ U o U' => own_End K M.R Q U o U')
section Core
variable {K : own_Cx} {M : own_Mi} {Q : own_Q} {pc pc' : Nat} {Ls Ls' : List Slot} {St St' : List Value} {sf : List Addr} {h : Heap} {cs sl : Nat} {a0 : Array Value}
theorem own_ext_trans {h h' h2 : Heap} (E : Ext h h') (E' : Ext h' h2) : Ext h h2 := ⟨Nat.le_trans E.1 E'.1, fun x c q => E'.2 x c (E.2 x c q)⟩
theorem own_ext_refl (h : Heap) : Ext h h := ⟨Nat.le_refl _, fun _ _ q => q⟩
theorem own_met (hpn : plainName M.y.cls = true) {as' : Array Value} (ef : ∀ m : MethodId, entryFrame m as' M.mx = mkF m 0 Ls.toArray []) (k : own_WP K M Q 0 Ls [] sf h 0 0) : own_Met K M as' sf h Q := by
  intro ws
  refine MetFree.of_bodySF (plainFor_of_name hpn) hisR ?_
  intro p e s m args below meth c s₁ Bd hml0 hP hK
  obtain ⟨rfl, hZ, hh, hEW, hC, hsf, hE⟩ := hP
  have hown : s.vm.findClass M.y.cls = some m.cls := findClass_of_methodNamed Bd.named
  have hnm := (name_of_methodNamed Bd.named Bd.method).1
  have X0 : Stand p K.l e M.R s m args below meth c s₁ [] 0 0 := Stand.of_body Bd
  have e0 : s₁.heap = h := by rw [← hh, Bd.state]; rfl
  have hI : own_Inv K s s.vm 0 h sf := ⟨(State.WarmedH.refl s).since _, Nat.zero_le _, fun _ => State.WarmedH.refl s, by rw [← hh]; exact CHr.refl (by rw [hh]; exact hC), hsf, hE⟩
  obtain ⟨s₂, o, h1, h2, h3, h4⟩ := k p e s s.vm 0 m args below meth c s₁ [] 0 0 ⟨Bd.exec, Bd.bytes, hml0, hown, hnm, Bd.returns, BodyLoose.notSynchronized Bd, hZ, hEW⟩ X0 (Nat.le_refl _) (Nat.le_refl _) e0 (Fr.nil _) hI
  refine ⟨s₂, o, ?_, h2, h3, h4⟩
  rw [ef m]
  exact h1
theorem own_step (k : own_WP K M Q pc' Ls' St' sf h cs sl)
    (st : ∀ (p : Program) (e : Env) (s : State) (m : MethodId) (args : Array Value) (below : List Frame) (meth : Method) (c : Code) (T : State) (locs : List Loc) (cs' sl' : Nat), own_Bdy K M p s m meth c → Stand p K.l e M.R s m args below meth c T locs cs' sl' → T.heap = h →
      ∀ t, Steps p.tables e below (T.setTop (mkF m pc' Ls'.toArray St')) t → Steps p.tables e below (T.setTop (mkF m pc Ls.toArray St)) t) : own_WP K M Q pc Ls St sf h cs sl := by
  intro p e s vm0 k0 m args below meth c T locs cs' sl' B X hc hs eT N I
  obtain ⟨s₂, o, h1, r⟩ := k p e s vm0 k0 m args below meth c T locs cs' sl' B X hc hs eT N I
  exact ⟨s₂, o, st p e _ m args below meth c T locs cs' sl' B X eT _ h1, r⟩
theorem own_move (k : own_WP K M Q pc' Ls' St' sf h cs sl)
    (st : ∀ (p : Program) (e : Env) (s : State) (m : MethodId) (args : Array Value) (below : List Frame) (meth : Method) (c : Code) (T : State) (locs : List Loc) (cs' sl' : Nat), own_Bdy K M p s m meth c → Stand p K.l e M.R s m args below meth c T locs cs' sl' → T.heap = h → Ext K.Z.heap h →
      ∃ T', Stand p K.l e M.R s m args below meth c T' locs cs' sl' ∧ T'.heap = h ∧ ∀ t, Steps p.tables e below (T'.setTop (mkF m pc' Ls'.toArray St')) t → Steps p.tables e below (T.setTop (mkF m pc Ls.toArray St)) t) : own_WP K M Q pc Ls St sf h cs sl := by
  intro p e s vm0 k0 m args below meth c T locs cs' sl' B X hc hs eT N I
  obtain ⟨T', X', e', st'⟩ := st p e _ m args below meth c T locs cs' sl' B X eT I.2.2.2.2.2
  obtain ⟨s₂, o, h1, r⟩ := k p e s vm0 k0 m args below meth c T' locs cs' sl' B X' hc hs e' N I
  exact ⟨s₂, o, st' _ h1, r⟩
theorem own_Sf.new {vm : Vm} {h' : Heap} (E : Ext h h') (hH : CHv K.Z K.E vm h) (hE : Ext K.Z.heap h) (hlt : h.size < h'.size) (S : own_Sf K vm h sf) : own_Sf K vm h' (h.size :: sf) := by
  intro x hx
  rcases List.mem_cons.mp hx with rfl | hx
  · exact ⟨hE.1, hlt, Safe.ext E hH (Safe.new (Nat.le_refl _))⟩
  · obtain ⟨q1, q2, q3⟩ := S x hx
    exact ⟨q1, Nat.lt_of_lt_of_le q2 E.1, Safe.ext E hH q3⟩
theorem own_grow {dc ds : Nat} {P : Heap → Prop} (hc : cs + dc ≤ M.R.cells) (hs : sl + ds ≤ M.R.slots)
    (k : ∀ h', Ext h h' → P h' → own_WP K M Q pc' Ls' St' (h.size :: sf) h' (cs + dc) (sl + ds))
    (st : ∀ (p : Program) (e : Env) (s : State) (m : MethodId) (args : Array Value) (below : List Frame) (meth : Method) (c : Code) (T : State) (locs : List Loc) (cs' sl' : Nat), own_Bdy K M p s m meth c → Stand p K.l e M.R s m args below meth c T locs cs' sl' → cs' + dc ≤ M.R.cells → sl' + ds ≤ M.R.slots → T.heap = h →
      ∃ T' h', Stand p K.l e M.R s m args below meth c T' locs (cs' + dc) (sl' + ds) ∧ T'.heap = h' ∧ Ext h h' ∧ h.size < h'.size ∧ P h' ∧ ∀ t, Steps p.tables e below (T'.setTop (mkF m pc' Ls'.toArray St')) t → Steps p.tables e below (T.setTop (mkF m pc Ls.toArray St)) t) : own_WP K M Q pc Ls St sf h cs sl := by
  intro p e s vm0 k0 m args below meth c T locs cs' sl' B X hc' hs' eT N I
  obtain ⟨T', h', X', e', E, hlt, hP, st'⟩ := st p e _ m args below meth c T locs cs' sl' B X (by omega) (by omega) eT
  obtain ⟨i1, i2, i3, i4, i5, i6⟩ := I
  obtain ⟨s₂, o, h1, r⟩ := k h' E hP p e s vm0 k0 m args below meth c T' locs (cs' + dc) (sl' + ds) B X' (by omega) (by omega) e' N ⟨i1, Nat.le_trans i2 E.1, i3, i4.trans (CHr.ext E i4.1), own_Sf.new E i4.1 i6 hlt i5, own_ext_trans i6 E⟩
  exact ⟨s₂, o, st' _ h1, r⟩
theorem own_Sf.wr {vm : Vm} {h' : Heap} {a : Addr} {i : Nat} {v : Value} (W : Wr h h' a i v) (hH : CHv K.Z K.E vm h) (ha : a ∈ sf) (S : own_Sf K vm h sf) : own_Sf K vm h' sf := by
  intro x hx
  obtain ⟨q1, q2, q3⟩ := S x hx
  exact ⟨q1, by rw [W.size]; exact q2, Safe.wr W (S a ha).2.2 hH q3⟩
theorem own_ext_wr {h h' : Heap} {Z : State} {a : Addr} {i : Nat} {v : Value} (W : Wr h h' a i v) (ha : Z.heap.size ≤ a) (E : Ext Z.heap h) : Ext Z.heap h' := by
  have K := Keep.of_wr W
  exact ⟨by rw [W.size]; exact E.1, fun x c q => K.2.1 x c (E.2 x c q) (by
    intro hm
    have h1 : x < Z.heap.size := (Array.getElem?_eq_some_iff.mp q).1
    have h2 := List.mem_singleton.mp hm
    subst h2
    exact Nat.lt_irrefl _ (Nat.lt_of_lt_of_le h1 ha))⟩
theorem own_write {a : Addr} {i : Nat} {v : Value} (ha : a ∈ sf) (k : ∀ h', Wr h h' a i v → own_WP K M Q pc' Ls' St' sf h' cs sl)
    (st : ∀ (p : Program) (e : Env) (s : State) (m : MethodId) (args : Array Value) (below : List Frame) (meth : Method) (c : Code) (T : State) (locs : List Loc) (cs' sl' : Nat), own_Bdy K M p s m meth c → Stand p K.l e M.R s m args below meth c T locs cs' sl' → T.heap = h →
      ∃ T' h', Stand p K.l e M.R s m args below meth c T' (locs ++ [⟨a, i⟩]) cs' sl' ∧ T'.heap = h' ∧ Wr h h' a i v ∧ ∀ t, Steps p.tables e below (T'.setTop (mkF m pc' Ls'.toArray St')) t → Steps p.tables e below (T.setTop (mkF m pc Ls.toArray St)) t) : own_WP K M Q pc Ls St sf h cs sl := by
  intro p e s vm0 k0 m args below meth c T locs cs' sl' B X hc' hs' eT N I
  obtain ⟨T', h', X', e', W, st'⟩ := st p e _ m args below meth c T locs cs' sl' B X eT
  obtain ⟨i1, i2, i3, i4, i5, i6⟩ := I
  have hn := (i5 a ha).1
  obtain ⟨s₂, o, h1, r⟩ := k h' W p e s vm0 k0 m args below meth c T' _ cs' sl' B X' hc' hs' e' (Fr.snoc X' N hn) ⟨i1, by rw [W.size]; exact i2, i3, i4.trans (CHr.wr W (i5 a ha).2.2 i4.1), own_Sf.wr W i4.1 ha i5, own_ext_wr W hn i6⟩
  exact ⟨s₂, o, st' _ h1, r⟩
/-- fewer writable places, more room spent: a weaker sentence -/
theorem own_weak {sf' : List Addr} {cs1 sl1 : Nat} (k : own_WP K M Q pc Ls St sf' h cs1 sl1) (hsf : ∀ x ∈ sf', x ∈ sf) (hc : cs ≤ cs1) (hs : sl ≤ sl1) : own_WP K M Q pc Ls St sf h cs sl :=
  fun p e s vm0 k0 m args below meth c T locs cs' sl' B X hc' hs' eT N I => k p e s vm0 k0 m args below meth c T locs cs' sl' B X (Nat.le_trans hc' hc) (Nat.le_trans hs' hs) eT N ⟨I.1, I.2.1, I.2.2.1, I.2.2.2.1, fun x hx => I.2.2.2.2.1 x (hsf x hx), I.2.2.2.2.2⟩
/-- the end -/
theorem own_leave {v : Option Value} (hv : M.ret = none → v = none) (hc : cs ≤ M.R.cells) (hs : sl ≤ M.R.slots) (q : Q v h sf)
    (st : ∀ (p : Program) (e : Env) (s : State) (m : MethodId) (args : Array Value) (below : List Frame) (meth : Method) (c : Code) (T : State) (locs : List Loc) (cs' sl' : Nat), own_Bdy K M p s m meth c → Stand p K.l e M.R s m args below meth c T locs cs' sl' →
      ∀ fs, (∀ (f : JFrame) (acts : List Action), f.method = m → f.locked = none → f.entered = [] → (doReturn e (T.setTop f) acts v).1 = T.setFrames fs) → Steps p.tables e below (T.setTop (mkF m pc Ls.toArray St)) (T.setFrames fs)) : own_WP K M Q pc Ls St sf h cs sl := by
  intro p e s vm0 k0 m args below meth c T locs cs' sl' B X hc' hs' eT N I
  obtain ⟨i1, i2, i3, i4, i5, i6⟩ := I
  have hlk : meth.locks = false := B.2.2.2.2.2.2.1
  have hr : meth.sig.returnType = M.ret := B.2.2.2.2.2.1
  obtain ⟨a1, hEW⟩ := B.2.2.2.2.2.2.2.2
  obtain ⟨fs, h1, h2, h3, h4⟩ := X.leaveW i1 (by rw [eT]; exact i2) (v := v) (by rw [hr]; exact hv) hlk
  have A : CHr K.Z K.E vm0 h T.vm h := CHv.at X B.2.2.2.2.2.2.2.1 hEW i4.1
  refine ⟨_, _, st p e _ m args below meth c T locs cs' sl' B X fs h1, h2, h3, v, locs, sf, rfl, ?_, N, ?_, ?_, ?_, ?_, ?_⟩
  · show Q v T.heap sf; rw [eT]; exact q
  · show CHr K.Z K.E s.vm s.heap T.vm T.heap; rw [eT]; exact i4.trans A
  · show own_Sf K T.vm T.heap sf
    rw [eT]
    exact fun x hx => ⟨(i5 x hx).1, (i5 x hx).2.1, A.safe (i5 x hx).2.1 (i5 x hx).2.2⟩
  · show Ext K.Z.heap T.heap; rw [eT]; exact i6
  · obtain ⟨r1, r2, r3, r4⟩ := h4
    exact ⟨r1, r2, r3, r4.mono (by omega) (by omega)⟩
  · exact fun q => State.WarmedH.trans (t := s.setVm vm0) (i3 q) X.warmed
end Core
section Calls
variable {K : own_Cx} {M M' : own_Mi} {Q Q' : own_Q} {pc pc' : Nat} {Ls : List Slot} {St rest : List Value} {sf sf' : List Addr} {h : Heap} {cs sl : Nat} {a0 : Array Value}
theorem own_back {R : Room} {p : Program} {e : Env} {s : State} {vm0 : Vm} {k0 : Nat} {below : List Frame} {args as' : Array Value} {len W : Nat} (hM : own_Met K M' as' sf' h Q') (hsf : ∀ x ∈ sf', x ∈ sf) (hZ : K.Z.Warmed39 vm0) (hEW : ∃ a0, EW K.Z a0 K.E) (I : own_Inv K s vm0 k0 h sf)
    (wc : (Jvm.Cond.code M'.y M'.b M'.mx M'.ret).before a0 K.Z = true) (wz : (Jvm.Cond.initialized M'.y.cls).before a0 K.Z = true) (hf : M'.R.frames + 1 ≤ R.frames) (hl : W + (M'.mx + 11) + M'.R.locals ≤ R.locals) :
    BackS K.l R p e below (s.setVm vm0) args M'.y len W (fun A a => a = as' ∧ A.U.heap = h ∧ A.cells + M'.R.cells ≤ R.cells ∧ A.slots + M'.R.slots ≤ R.slots)
      (fun A _ v B => ∃ L xs, Q' v B.U.heap xs ∧ Fr K.n L ∧ B.locs = A.locs ++ L ∧ B.cells = A.cells + M'.R.cells ∧ B.slots = A.slots + M'.R.slots ∧ CHr K.Z K.E vm0 h B.U.vm B.U.heap ∧ own_Sf K B.U.vm B.U.heap xs ∧ Ext K.Z.heap B.U.heap ∧ (K.nw = true → (s.setVm vm0).WarmedH B.U.vm)) := by
  obtain ⟨a1, hE⟩ := hEW
  have H := I.2.2.2.1.1
  exact BackS.of_freeW (bytes := M'.b) (maxL := M'.mx) (ret := M'.ret) (E := fun _ first o t L k n => k = M'.R.cells ∧ n = M'.R.slots ∧ ∃ v xs, o = .returned v ∧ Q' v t.heap xs ∧ Fr K.n L ∧ CHr K.Z K.E first.vm first.heap t.vm t.heap ∧ own_Sf K t.vm t.heap xs ∧ Ext K.Z.heap t.heap ∧ (K.nw = true → first.WarmedH t.vm)) (hM []) hf hl
    (fun m meth c A a Y hp => have hU : K.Z.Warmed39 A.U.vm := wtrans (s := s.setVm vm0) hZ Y.warmed
      ⟨by show (Jvm.Cond.and _ .tt).before a A.U = true; rw [Cond.before_and, mv hU wc]; rfl, mv hU wc, mv hU wz, hp.2.2.1, hp.2.2.2⟩)
    (fun m meth c A a g mk Y hp => ⟨hp.1, wtrans (s := s.setVm vm0) hZ Y.warmed, hp.2.1, ⟨a1, hE⟩, (CHv.at Y hZ hE H).1, fun x hx => have q := I.2.2.2.2.1 x (hsf x hx); ⟨q.1, q.2.1, (CHv.at Y hZ hE H).safe q.2.1 q.2.2⟩, I.2.2.2.2.2⟩)
    (fun _ _ _ _ _ _ _ _ _ => trivial)
    (fun _ _ _ _ ⟨v, L, xs, h1, h2, h3, h4, h5, h6, h7, h8⟩ => ⟨L, _, _, h7, rfl, rfl, v, xs, h1, h2, h3, h4, h5, h6, h8⟩)
    (fun m meth c A a g mk v t L k n Y hp _ _ ⟨e1, e2, v', xs, e3, e4, e5, e6, e7, e8, e9⟩ => by
      cases e3; subst e1 e2
      refine ⟨L, xs, e4, e5, rfl, rfl, rfl, (CHv.at Y hZ hE H).trans ?_, e7, e8, fun q => ?_⟩
      · rw [← hp.2.1]; exact e6
      · exact State.WarmedH.trans Y.warmed (e9 q))
theorem own_called {p : Program} {e : Env} {s : State} {vm0 : Vm} {k0 : Nat} {m : MethodId} {args : Array Value} {below : List Frame} {meth : Method} {c : Code} {T : State} {locs : List Loc} {cs' sl' : Nat} {v : Option Value} {B : Pt}
    (k : ∀ v h' xs, Q' v h' xs → own_WP K M Q pc' Ls (v.toList ++ rest) (xs ++ sf) h' (cs + M'.R.cells) (sl + M'.R.slots)) (Bd : own_Bdy K M p (s.setVm vm0) m meth c) (hc : cs' ≤ cs) (hs : sl' ≤ sl) (eT : T.heap = h) (N : Fr K.n locs) (I : own_Inv K s vm0 k0 h sf)
    (X' : Stand p K.l e M.R ((s.setVm vm0).setVm B.U.vm) m args below meth c B.U B.locs B.cells B.slots) (hS : (s.setVm vm0).Since B.U.vm B.U.heap.size) (hg : T.heap.size ≤ B.U.heap.size)
    (P : ∃ L xs, Q' v B.U.heap xs ∧ Fr K.n L ∧ B.locs = locs ++ L ∧ B.cells = cs' + M'.R.cells ∧ B.slots = sl' + M'.R.slots ∧ CHr K.Z K.E vm0 h B.U.vm B.U.heap ∧ own_Sf K B.U.vm B.U.heap xs ∧ Ext K.Z.heap B.U.heap ∧ (K.nw = true → (s.setVm vm0).WarmedH B.U.vm))
    {F : State} (st : Steps p.tables e below F (B.U.setTop (mkF m pc' Ls.toArray (v.toList ++ rest)))) : own_Fin K M.R Q p e below s F := by
  obtain ⟨U, l1, c1, s1⟩ := B
  obtain ⟨L, xs, q, NL, eL, ec, es, C, S, E, w⟩ := P
  dsimp only [Pt.U, Pt.locs, Pt.cells, Pt.slots] at X' hS hg q eL ec es C S E w st
  subst eL ec es
  obtain ⟨i1, i2, i3, i4, i5, i6⟩ := I
  obtain ⟨b1, b2, b3, b4, b5, b6, b7, b8, b9⟩ := Bd
  obtain ⟨X2, S2, Z2, O2⟩ := rebS (Z := K.Z) (own := M.y.cls) i1 (n1 := T.heap.size) (by rw [eT]; exact i2) X' hS hg b8 b4
  obtain ⟨s₂, o, h1, r⟩ := k v U.heap xs q p e s U.vm U.heap.size m args below meth c U (locs ++ L) _ _ ⟨b1, b2, b3, O2, b5, b6, b7, Z2, b9⟩ X2 (Nat.add_le_add_right hc _) (Nat.add_le_add_right hs _) rfl (N.app NL)
    ⟨S2, Nat.le_refl _, fun q => State.WarmedH.trans (t := s.setVm vm0) (i3 q) (w q), i4.trans C, fun x hx => by
      rcases List.mem_append.mp hx with hx | hx
      · exact S x hx
      · exact ⟨(i5 x hx).1, Nat.lt_of_lt_of_le (i5 x hx).2.1 C.2.1, C.safe (i5 x hx).2.1 (i5 x hx).2.2⟩, E⟩
  exact ⟨s₂, o, st.trans h1, r⟩
theorem own_static {index : Nat} {argsL : List Value} (hd : decode M.b pc = .ok (.invokestatic index, 3)) (hp : pc + 3 = pc') (w1 : (Jvm.Cond.methodLink M.y.cls index M'.y).before a0 K.Z = true) (w2 : (Jvm.Cond.static M'.y).before a0 K.Z = true) (w3 : (Jvm.Cond.initialized M'.y.cls).before a0 K.Z = true) (w4 : (Jvm.Cond.code M'.y M'.b M'.mx M'.ret).before a0 K.Z = true)
    (hy : M'.y.cls ≠ "java/lang/invoke/MethodHandle" ∧ M'.y.cls ≠ "java/lang/invoke/VarHandle") (hsz : Ls.length = M.mx) (hlen : ∀ sig, parseMethodDescriptor M'.y.desc = some sig → argsL.length = sig.parameters.length) (hst : St = argsL.reverse ++ rest)
    (hf : Nat.ble (M'.R.frames + 1) M.R.frames = true) (hl : Nat.ble ((rest.map fun v => v.category).sum + (M'.mx + 11) + M'.R.locals) M.R.locals = true) (hc : Nat.ble (cs + M'.R.cells) M.R.cells = true) (hs : Nat.ble (sl + M'.R.slots) M.R.slots = true)
    (hM : own_Met K M' argsL.toArray sf' h Q') (hsf : ∀ x ∈ sf', x ∈ sf) (k : ∀ v h' xs, Q' v h' xs → own_WP K M Q pc' Ls (v.toList ++ rest) (xs ++ sf) h' (cs + M'.R.cells) (sl + M'.R.slots)) : own_WP K M Q pc Ls St sf h cs sl := by
  subst hst hp
  intro p e s vm0 k0 m args below meth c T locs cs' sl' B X hc' hs' eT N I
  have q1 := Nat.le_of_ble_eq_true hf
  have q2 := Nat.le_of_ble_eq_true hl
  have q3 := Nat.le_of_ble_eq_true hc
  have q4 := Nat.le_of_ble_eq_true hs
  obtain ⟨v, vm₁, B', -, X', hS, hg, P, st⟩ := callSS X B.1 (y := M'.y) (bytes := M'.b) (maxL := M'.mx) (ret := M'.ret) B.2.2.2.1 (mv B.2.2.2.2.2.2.2.1 w1) (mv B.2.2.2.2.2.2.2.1 w2) (mv B.2.2.2.2.2.2.2.1 w3) (mv B.2.2.2.2.2.2.2.1 w4) hy
    (own_back (W := (rest.map fun v => v.category).sum) hM hsf B.2.2.2.2.2.2.2.1 B.2.2.2.2.2.2.2.2 I w4 w3 q1 q2) (g := mkF m pc Ls.toArray (argsL.reverse ++ rest)) rfl (by rw [B.2.2.1, ← hsz]; simp) (argsL := argsL) (rest := rest) hlen rfl (by show 2 * 0 + _ ≤ _; omega) (hb B.2.1 hd)
    (fun vm₁ _ => ⟨rfl, eT, by show cs' + _ ≤ _; omega, by show sl' + _ ≤ _; omega⟩)
  exact own_called k B hc' hs' eT N I X' hS hg P st
theorem own_special {index : Nat} {a : Addr} {argsL : List Value} (hd : decode M.b pc = .ok (.invokespecial index, 3)) (hp : pc + 3 = pc') (hn : M'.y.name = "<init>") (hrt : M'.ret = none) (w1 : (Jvm.Cond.methodLink M.y.cls index M'.y).before a0 K.Z = true) (w2 : (Jvm.Cond.instanceMethod M'.y).before a0 K.Z = true) (w3 : (Jvm.Cond.initialized M'.y.cls).before a0 K.Z = true) (w4 : (Jvm.Cond.code M'.y M'.b M'.mx M'.ret).before a0 K.Z = true)
    (hy : M'.y.cls ≠ "java/lang/invoke/MethodHandle" ∧ M'.y.cls ≠ "java/lang/invoke/VarHandle") (hsz : Ls.length = M.mx) (hlen : ∀ sig, parseMethodDescriptor M'.y.desc = some sig → argsL.length = sig.parameters.length) (hst : St = argsL.reverse ++ .ref a :: rest)
    (hf : Nat.ble (M'.R.frames + 1) M.R.frames = true) (hl : Nat.ble ((rest.map fun v => v.category).sum + (M'.mx + 11) + M'.R.locals) M.R.locals = true) (hc : Nat.ble (cs + M'.R.cells) M.R.cells = true) (hs : Nat.ble (sl + M'.R.slots) M.R.slots = true)
    (hM : own_Met K M' (.ref a :: argsL).toArray sf' h Q') (hsf : ∀ x ∈ sf', x ∈ sf) (k : ∀ v h' xs, Q' v h' xs → own_WP K M Q pc' Ls (v.toList ++ rest) (xs ++ sf) h' (cs + M'.R.cells) (sl + M'.R.slots)) : own_WP K M Q pc Ls St sf h cs sl := by
  subst hst hp
  intro p e s vm0 k0 m args below meth c T locs cs' sl' B X hc' hs' eT N I
  have q1 := Nat.le_of_ble_eq_true hf
  have q2 := Nat.le_of_ble_eq_true hl
  have q3 := Nat.le_of_ble_eq_true hc
  have q4 := Nat.le_of_ble_eq_true hs
  have w4' : (Jvm.Cond.code M'.y M'.b M'.mx none).before a0 K.Z = true := by rw [← hrt]; exact w4
  obtain ⟨v, vm₁, B', -, X', hS, hg, P, st⟩ := X.specialBackS B.1 (y := M'.y) hn B.2.2.2.1 (mv B.2.2.2.2.2.2.2.1 w1) (mv B.2.2.2.2.2.2.2.1 w2) (bytes := M'.b) (maxL := M'.mx) (mv B.2.2.2.2.2.2.2.1 w4') hy
    (own_back (W := (rest.map fun v => v.category).sum) hM hsf B.2.2.2.2.2.2.2.1 B.2.2.2.2.2.2.2.2 I w4 w3 q1 q2) (g := mkF m pc Ls.toArray (argsL.reverse ++ .ref a :: rest)) rfl (by rw [B.2.2.1, ← hsz]; simp) (Steps.refl _) (a := a) (argsL := argsL) (rest := rest) hlen rfl (by show 2 * 0 + _ ≤ _; omega) (hb B.2.1 hd)
    (fun vm₁ _ => ⟨rfl, eT, by show cs' + _ ≤ _; omega, by show sl' + _ ≤ _; omega⟩)
  exact own_called k B hc' hs' eT N I X' hS hg P st
theorem own_virtual {index : Nat} {a : Addr} {C : String} {argsL : List Value} (hd : decode M.b pc = .ok (.invokevirtual index, 3)) (hp : pc + 3 = pc') (w1 : (Jvm.Cond.methodLink M.y.cls index M'.y).before a0 K.Z = true) (w2 : (Jvm.Cond.declares M'.y).before a0 K.Z = true) (w5 : (Jvm.Cond.selects C M'.y M'.y).before a0 K.Z = true) (w6 : (Jvm.Cond.instanceMethod M'.y).before a0 K.Z = true) (w3 : (Jvm.Cond.initialized M'.y.cls).before a0 K.Z = true) (w4 : (Jvm.Cond.code M'.y M'.b M'.mx M'.ret).before a0 K.Z = true)
    (hy : M'.y.cls ≠ "java/lang/invoke/MethodHandle" ∧ M'.y.cls ≠ "java/lang/invoke/VarHandle") (hsz : Ls.length = M.mx) (hlen : ∀ sig, parseMethodDescriptor M'.y.desc = some sig → argsL.length = sig.parameters.length) (hst : St = argsL.reverse ++ .ref a :: rest)
    (hf : Nat.ble (M'.R.frames + 1) M.R.frames = true) (hl : Nat.ble ((rest.map fun v => v.category).sum + (M'.mx + 11) + M'.R.locals) M.R.locals = true) (hc : Nat.ble (cs + M'.R.cells) M.R.cells = true) (hs : Nat.ble (sl + M'.R.slots) M.R.slots = true)
    (E : Exa K.Z h a C) (hM : own_Met K M' (.ref a :: argsL).toArray sf' h Q') (hsf : ∀ x ∈ sf', x ∈ sf) (k : ∀ v h' xs, Q' v h' xs → own_WP K M Q pc' Ls (v.toList ++ rest) (xs ++ sf) h' (cs + M'.R.cells) (sl + M'.R.slots)) : own_WP K M Q pc Ls St sf h cs sl := by
  subst hst hp
  intro p e s vm0 k0 m args below meth c T locs cs' sl' B X hc' hs' eT N I
  have q1 := Nat.le_of_ble_eq_true hf
  have q2 := Nat.le_of_ble_eq_true hl
  have q3 := Nat.le_of_ble_eq_true hc
  have q4 := Nat.le_of_ble_eq_true hs
  obtain ⟨cB, kB, r1, r2, r3⟩ := isOf (T := T) B.2.2.2.2.2.2.2.1 eT E
  obtain ⟨v, vm₁, B', -, X', hS, hg, P, st⟩ := X.virtualBackS B.1 (y := M'.y) (z := M'.y) B.2.2.2.1 (mv B.2.2.2.2.2.2.2.1 w1) (mv B.2.2.2.2.2.2.2.1 w2) (notFace_of_selects (args := #[]) (mv B.2.2.2.2.2.2.2.1 w5)) (mv B.2.2.2.2.2.2.2.1 w5) (mv B.2.2.2.2.2.2.2.1 w6) hy
    (own_back (W := (rest.map fun v => v.category).sum) hM hsf B.2.2.2.2.2.2.2.1 B.2.2.2.2.2.2.2.2 I w4 w3 q1 q2) r1 r3 (g := mkF m pc Ls.toArray (argsL.reverse ++ .ref a :: rest)) rfl (by rw [B.2.2.1, ← hsz]; simp) (Steps.refl _) (argsL := argsL) (rest := rest) hlen rfl (by show 2 * 0 + _ ≤ _; omega) (hb B.2.1 hd)
    (fun vm₁ _ => ⟨rfl, eT, by show cs' + _ ≤ _; omega, by show sl' + _ ≤ _; omega⟩)
  exact own_called k B hc' hs' eT N I X' hS hg P st
theorem own_static1v {index : Nat} {v0 : Value} {q' : Value → Heap → List Addr → Prop} (hd : decode M.b pc = .ok (.invokestatic index, 3)) (hp : pc + 3 = pc') (w1 : (Jvm.Cond.methodLink M.y.cls index M'.y).before a0 K.Z = true) (w2 : (Jvm.Cond.static M'.y).before a0 K.Z = true) (w3 : (Jvm.Cond.initialized M'.y.cls).before a0 K.Z = true) (w4 : (Jvm.Cond.code M'.y M'.b M'.mx M'.ret).before a0 K.Z = true) (hy : M'.y.cls ≠ "java/lang/invoke/MethodHandle" ∧ M'.y.cls ≠ "java/lang/invoke/VarHandle") (hsz : Ls.length = M.mx) (hlen : ∀ sig, parseMethodDescriptor M'.y.desc = some sig → 1 = sig.parameters.length)
    (hf : Nat.ble (M'.R.frames + 1) M.R.frames = true) (hl : Nat.ble ((rest.map fun v => v.category).sum + (M'.mx + 11) + M'.R.locals) M.R.locals = true) (hc : Nat.ble (cs + M'.R.cells) M.R.cells = true) (hs : Nat.ble (sl + M'.R.slots) M.R.slots = true) (hM : own_Met K M' #[v0] sf' h (own_ret q')) (hsf : ∀ x ∈ sf', x ∈ sf) (k : ∀ w h' xs, q' w h' xs → own_WP K M Q pc' Ls (w :: rest) (xs ++ sf) h' (cs + M'.R.cells) (sl + M'.R.slots)) :
    own_WP K M Q pc Ls (v0 :: rest) sf h cs sl := own_static (argsL := [v0]) hd hp w1 w2 w3 w4 hy hsz hlen rfl hf hl hc hs hM hsf (fun v h' xs ⟨w, e, q⟩ => by subst e; exact k w h' xs q)
theorem own_static2v {index : Nat} {v0 v1 : Value} {q' : Value → Heap → List Addr → Prop} (hd : decode M.b pc = .ok (.invokestatic index, 3)) (hp : pc + 3 = pc') (w1 : (Jvm.Cond.methodLink M.y.cls index M'.y).before a0 K.Z = true) (w2 : (Jvm.Cond.static M'.y).before a0 K.Z = true) (w3 : (Jvm.Cond.initialized M'.y.cls).before a0 K.Z = true) (w4 : (Jvm.Cond.code M'.y M'.b M'.mx M'.ret).before a0 K.Z = true) (hy : M'.y.cls ≠ "java/lang/invoke/MethodHandle" ∧ M'.y.cls ≠ "java/lang/invoke/VarHandle") (hsz : Ls.length = M.mx) (hlen : ∀ sig, parseMethodDescriptor M'.y.desc = some sig → 2 = sig.parameters.length)
    (hf : Nat.ble (M'.R.frames + 1) M.R.frames = true) (hl : Nat.ble ((rest.map fun v => v.category).sum + (M'.mx + 11) + M'.R.locals) M.R.locals = true) (hc : Nat.ble (cs + M'.R.cells) M.R.cells = true) (hs : Nat.ble (sl + M'.R.slots) M.R.slots = true) (hM : own_Met K M' #[v0, v1] sf' h (own_ret q')) (hsf : ∀ x ∈ sf', x ∈ sf) (k : ∀ w h' xs, q' w h' xs → own_WP K M Q pc' Ls (w :: rest) (xs ++ sf) h' (cs + M'.R.cells) (sl + M'.R.slots)) :
    own_WP K M Q pc Ls (v1 :: v0 :: rest) sf h cs sl := own_static (argsL := [v0, v1]) hd hp w1 w2 w3 w4 hy hsz hlen rfl hf hl hc hs hM hsf (fun v h' xs ⟨w, e, q⟩ => by subst e; exact k w h' xs q)
theorem own_static2n {index : Nat} {v0 v1 : Value} {q' : Heap → List Addr → Prop} (hd : decode M.b pc = .ok (.invokestatic index, 3)) (hp : pc + 3 = pc') (w1 : (Jvm.Cond.methodLink M.y.cls index M'.y).before a0 K.Z = true) (w2 : (Jvm.Cond.static M'.y).before a0 K.Z = true) (w3 : (Jvm.Cond.initialized M'.y.cls).before a0 K.Z = true) (w4 : (Jvm.Cond.code M'.y M'.b M'.mx M'.ret).before a0 K.Z = true) (hy : M'.y.cls ≠ "java/lang/invoke/MethodHandle" ∧ M'.y.cls ≠ "java/lang/invoke/VarHandle") (hsz : Ls.length = M.mx) (hlen : ∀ sig, parseMethodDescriptor M'.y.desc = some sig → 2 = sig.parameters.length)
    (hf : Nat.ble (M'.R.frames + 1) M.R.frames = true) (hl : Nat.ble ((rest.map fun v => v.category).sum + (M'.mx + 11) + M'.R.locals) M.R.locals = true) (hc : Nat.ble (cs + M'.R.cells) M.R.cells = true) (hs : Nat.ble (sl + M'.R.slots) M.R.slots = true) (hM : own_Met K M' #[v0, v1] sf' h (own_void q')) (hsf : ∀ x ∈ sf', x ∈ sf) (k : ∀ h' xs, q' h' xs → own_WP K M Q pc' Ls rest (xs ++ sf) h' (cs + M'.R.cells) (sl + M'.R.slots)) :
    own_WP K M Q pc Ls (v1 :: v0 :: rest) sf h cs sl := own_static (argsL := [v0, v1]) hd hp w1 w2 w3 w4 hy hsz hlen rfl hf hl hc hs hM hsf (fun v h' xs ⟨e, q⟩ => by subst e; exact k h' xs q)
theorem own_static3v {index : Nat} {v0 v1 v2 : Value} {q' : Value → Heap → List Addr → Prop} (hd : decode M.b pc = .ok (.invokestatic index, 3)) (hp : pc + 3 = pc') (w1 : (Jvm.Cond.methodLink M.y.cls index M'.y).before a0 K.Z = true) (w2 : (Jvm.Cond.static M'.y).before a0 K.Z = true) (w3 : (Jvm.Cond.initialized M'.y.cls).before a0 K.Z = true) (w4 : (Jvm.Cond.code M'.y M'.b M'.mx M'.ret).before a0 K.Z = true) (hy : M'.y.cls ≠ "java/lang/invoke/MethodHandle" ∧ M'.y.cls ≠ "java/lang/invoke/VarHandle") (hsz : Ls.length = M.mx) (hlen : ∀ sig, parseMethodDescriptor M'.y.desc = some sig → 3 = sig.parameters.length)
    (hf : Nat.ble (M'.R.frames + 1) M.R.frames = true) (hl : Nat.ble ((rest.map fun v => v.category).sum + (M'.mx + 11) + M'.R.locals) M.R.locals = true) (hc : Nat.ble (cs + M'.R.cells) M.R.cells = true) (hs : Nat.ble (sl + M'.R.slots) M.R.slots = true) (hM : own_Met K M' #[v0, v1, v2] sf' h (own_ret q')) (hsf : ∀ x ∈ sf', x ∈ sf) (k : ∀ w h' xs, q' w h' xs → own_WP K M Q pc' Ls (w :: rest) (xs ++ sf) h' (cs + M'.R.cells) (sl + M'.R.slots)) :
    own_WP K M Q pc Ls (v2 :: v1 :: v0 :: rest) sf h cs sl := own_static (argsL := [v0, v1, v2]) hd hp w1 w2 w3 w4 hy hsz hlen rfl hf hl hc hs hM hsf (fun v h' xs ⟨w, e, q⟩ => by subst e; exact k w h' xs q)
theorem own_static5v {index : Nat} {v0 v1 v2 v3 v4 : Value} {q' : Value → Heap → List Addr → Prop} (hd : decode M.b pc = .ok (.invokestatic index, 3)) (hp : pc + 3 = pc') (w1 : (Jvm.Cond.methodLink M.y.cls index M'.y).before a0 K.Z = true) (w2 : (Jvm.Cond.static M'.y).before a0 K.Z = true) (w3 : (Jvm.Cond.initialized M'.y.cls).before a0 K.Z = true) (w4 : (Jvm.Cond.code M'.y M'.b M'.mx M'.ret).before a0 K.Z = true) (hy : M'.y.cls ≠ "java/lang/invoke/MethodHandle" ∧ M'.y.cls ≠ "java/lang/invoke/VarHandle") (hsz : Ls.length = M.mx) (hlen : ∀ sig, parseMethodDescriptor M'.y.desc = some sig → 5 = sig.parameters.length)
    (hf : Nat.ble (M'.R.frames + 1) M.R.frames = true) (hl : Nat.ble ((rest.map fun v => v.category).sum + (M'.mx + 11) + M'.R.locals) M.R.locals = true) (hc : Nat.ble (cs + M'.R.cells) M.R.cells = true) (hs : Nat.ble (sl + M'.R.slots) M.R.slots = true) (hM : own_Met K M' #[v0, v1, v2, v3, v4] sf' h (own_ret q')) (hsf : ∀ x ∈ sf', x ∈ sf) (k : ∀ w h' xs, q' w h' xs → own_WP K M Q pc' Ls (w :: rest) (xs ++ sf) h' (cs + M'.R.cells) (sl + M'.R.slots)) :
    own_WP K M Q pc Ls (v4 :: v3 :: v2 :: v1 :: v0 :: rest) sf h cs sl := own_static (argsL := [v0, v1, v2, v3, v4]) hd hp w1 w2 w3 w4 hy hsz hlen rfl hf hl hc hs hM hsf (fun v h' xs ⟨w, e, q⟩ => by subst e; exact k w h' xs q)
theorem own_special1n {index : Nat} {a : Addr} {v0 : Value} {q' : Heap → List Addr → Prop} (hd : decode M.b pc = .ok (.invokespecial index, 3)) (hp : pc + 3 = pc') (hn : M'.y.name = "<init>") (hrt : M'.ret = none) (w1 : (Jvm.Cond.methodLink M.y.cls index M'.y).before a0 K.Z = true) (w2 : (Jvm.Cond.instanceMethod M'.y).before a0 K.Z = true) (w3 : (Jvm.Cond.initialized M'.y.cls).before a0 K.Z = true) (w4 : (Jvm.Cond.code M'.y M'.b M'.mx M'.ret).before a0 K.Z = true) (hy : M'.y.cls ≠ "java/lang/invoke/MethodHandle" ∧ M'.y.cls ≠ "java/lang/invoke/VarHandle") (hsz : Ls.length = M.mx) (hlen : ∀ sig, parseMethodDescriptor M'.y.desc = some sig → 1 = sig.parameters.length)
    (hf : Nat.ble (M'.R.frames + 1) M.R.frames = true) (hl : Nat.ble ((rest.map fun v => v.category).sum + (M'.mx + 11) + M'.R.locals) M.R.locals = true) (hc : Nat.ble (cs + M'.R.cells) M.R.cells = true) (hs : Nat.ble (sl + M'.R.slots) M.R.slots = true) (hM : own_Met K M' #[.ref a, v0] sf' h (own_void q')) (hsf : ∀ x ∈ sf', x ∈ sf) (k : ∀ h' xs, q' h' xs → own_WP K M Q pc' Ls rest (xs ++ sf) h' (cs + M'.R.cells) (sl + M'.R.slots)) :
    own_WP K M Q pc Ls (v0 :: .ref a :: rest) sf h cs sl := own_special (argsL := [v0]) hd hp hn hrt w1 w2 w3 w4 hy hsz hlen rfl hf hl hc hs hM hsf (fun v h' xs ⟨e, q⟩ => by subst e; exact k h' xs q)
theorem own_special4n {index : Nat} {a : Addr} {v0 v1 v2 v3 : Value} {q' : Heap → List Addr → Prop} (hd : decode M.b pc = .ok (.invokespecial index, 3)) (hp : pc + 3 = pc') (hn : M'.y.name = "<init>") (hrt : M'.ret = none) (w1 : (Jvm.Cond.methodLink M.y.cls index M'.y).before a0 K.Z = true) (w2 : (Jvm.Cond.instanceMethod M'.y).before a0 K.Z = true) (w3 : (Jvm.Cond.initialized M'.y.cls).before a0 K.Z = true) (w4 : (Jvm.Cond.code M'.y M'.b M'.mx M'.ret).before a0 K.Z = true) (hy : M'.y.cls ≠ "java/lang/invoke/MethodHandle" ∧ M'.y.cls ≠ "java/lang/invoke/VarHandle") (hsz : Ls.length = M.mx) (hlen : ∀ sig, parseMethodDescriptor M'.y.desc = some sig → 4 = sig.parameters.length)
    (hf : Nat.ble (M'.R.frames + 1) M.R.frames = true) (hl : Nat.ble ((rest.map fun v => v.category).sum + (M'.mx + 11) + M'.R.locals) M.R.locals = true) (hc : Nat.ble (cs + M'.R.cells) M.R.cells = true) (hs : Nat.ble (sl + M'.R.slots) M.R.slots = true) (hM : own_Met K M' #[.ref a, v0, v1, v2, v3] sf' h (own_void q')) (hsf : ∀ x ∈ sf', x ∈ sf) (k : ∀ h' xs, q' h' xs → own_WP K M Q pc' Ls rest (xs ++ sf) h' (cs + M'.R.cells) (sl + M'.R.slots)) :
    own_WP K M Q pc Ls (v3 :: v2 :: v1 :: v0 :: .ref a :: rest) sf h cs sl := own_special (argsL := [v0, v1, v2, v3]) hd hp hn hrt w1 w2 w3 w4 hy hsz hlen rfl hf hl hc hs hM hsf (fun v h' xs ⟨e, q⟩ => by subst e; exact k h' xs q)
theorem own_virtual0v {index : Nat} {a : Addr} {C : String} {q' : Value → Heap → List Addr → Prop} (hd : decode M.b pc = .ok (.invokevirtual index, 3)) (hp : pc + 3 = pc') (w1 : (Jvm.Cond.methodLink M.y.cls index M'.y).before a0 K.Z = true) (w2 : (Jvm.Cond.declares M'.y).before a0 K.Z = true) (w5 : (Jvm.Cond.selects C M'.y M'.y).before a0 K.Z = true) (w6 : (Jvm.Cond.instanceMethod M'.y).before a0 K.Z = true) (w3 : (Jvm.Cond.initialized M'.y.cls).before a0 K.Z = true) (w4 : (Jvm.Cond.code M'.y M'.b M'.mx M'.ret).before a0 K.Z = true) (hy : M'.y.cls ≠ "java/lang/invoke/MethodHandle" ∧ M'.y.cls ≠ "java/lang/invoke/VarHandle") (hsz : Ls.length = M.mx) (hlen : ∀ sig, parseMethodDescriptor M'.y.desc = some sig → 0 = sig.parameters.length)
    (hf : Nat.ble (M'.R.frames + 1) M.R.frames = true) (hl : Nat.ble ((rest.map fun v => v.category).sum + (M'.mx + 11) + M'.R.locals) M.R.locals = true) (hc : Nat.ble (cs + M'.R.cells) M.R.cells = true) (hs : Nat.ble (sl + M'.R.slots) M.R.slots = true) (E : Exa K.Z h a C) (hM : own_Met K M' #[.ref a] sf' h (own_ret q')) (hsf : ∀ x ∈ sf', x ∈ sf) (k : ∀ w h' xs, q' w h' xs → own_WP K M Q pc' Ls (w :: rest) (xs ++ sf) h' (cs + M'.R.cells) (sl + M'.R.slots)) :
    own_WP K M Q pc Ls (.ref a :: rest) sf h cs sl := own_virtual (argsL := []) hd hp w1 w2 w5 w6 w3 w4 hy hsz hlen rfl hf hl hc hs E hM hsf (fun v h' xs ⟨w, e, q⟩ => by subst e; exact k w h' xs q)
theorem own_virtual1v {index : Nat} {a : Addr} {C : String} {v0 : Value} {q' : Value → Heap → List Addr → Prop} (hd : decode M.b pc = .ok (.invokevirtual index, 3)) (hp : pc + 3 = pc') (w1 : (Jvm.Cond.methodLink M.y.cls index M'.y).before a0 K.Z = true) (w2 : (Jvm.Cond.declares M'.y).before a0 K.Z = true) (w5 : (Jvm.Cond.selects C M'.y M'.y).before a0 K.Z = true) (w6 : (Jvm.Cond.instanceMethod M'.y).before a0 K.Z = true) (w3 : (Jvm.Cond.initialized M'.y.cls).before a0 K.Z = true) (w4 : (Jvm.Cond.code M'.y M'.b M'.mx M'.ret).before a0 K.Z = true) (hy : M'.y.cls ≠ "java/lang/invoke/MethodHandle" ∧ M'.y.cls ≠ "java/lang/invoke/VarHandle") (hsz : Ls.length = M.mx) (hlen : ∀ sig, parseMethodDescriptor M'.y.desc = some sig → 1 = sig.parameters.length)
    (hf : Nat.ble (M'.R.frames + 1) M.R.frames = true) (hl : Nat.ble ((rest.map fun v => v.category).sum + (M'.mx + 11) + M'.R.locals) M.R.locals = true) (hc : Nat.ble (cs + M'.R.cells) M.R.cells = true) (hs : Nat.ble (sl + M'.R.slots) M.R.slots = true) (E : Exa K.Z h a C) (hM : own_Met K M' #[.ref a, v0] sf' h (own_ret q')) (hsf : ∀ x ∈ sf', x ∈ sf) (k : ∀ w h' xs, q' w h' xs → own_WP K M Q pc' Ls (w :: rest) (xs ++ sf) h' (cs + M'.R.cells) (sl + M'.R.slots)) :
    own_WP K M Q pc Ls (v0 :: .ref a :: rest) sf h cs sl := own_virtual (argsL := [v0]) hd hp w1 w2 w5 w6 w3 w4 hy hsz hlen rfl hf hl hc hs E hM hsf (fun v h' xs ⟨w, e, q⟩ => by subst e; exact k w h' xs q)
end Calls
section Plain
variable {K : own_Cx} {M : own_Mi} {Q : own_Q} {pc pc' : Nat} {Ls : List Slot} {St : List Value} {sf : List Addr} {h : Heap} {cs sl : Nat} {a0 : Array Value}
theorem own_get {α : Type} {L : List α} {k : Nat} {v : α} (q : L[k]? = some v) : L.toArray[k]? = some v := by simpa using q
theorem own_aload_n {i : Fin 4} {v : Value} (hp : pc + 1 = pc') (hd : decode M.b pc = .ok (.aload_n i, 1)) (hl : Ls[i.val]? = some (.val v)) (hv : v.isRef = true) (k : own_WP K M Q pc' Ls (v :: St) sf h cs sl) : own_WP K M Q pc Ls St sf h cs sl :=
  own_step k fun p e s m args below meth c T locs cs' sl' B X eT t q => XS.aloadN X.here B.1 rfl (hb B.2.1 hd) (own_get hl) hv (by subst hp; exact q)
theorem own_aload {i : Nat} {v : Value} (hp : pc + 2 = pc') (hd : decode M.b pc = .ok (.aload i, 2)) (hl : Ls[i]? = some (.val v)) (hv : v.isRef = true) (k : own_WP K M Q pc' Ls (v :: St) sf h cs sl) : own_WP K M Q pc Ls St sf h cs sl :=
  own_step k fun p e s m args below meth c T locs cs' sl' B X eT t q => XS.aload X.here B.1 rfl (hb B.2.1 hd) (own_get hl) hv (by subst hp; exact q)
theorem own_iload_n {i : Fin 4} {v : Int32} (hp : pc + 1 = pc') (hd : decode M.b pc = .ok (.iload_n i, 1)) (hl : Ls[i.val]? = some (.val (.int v))) (k : own_WP K M Q pc' Ls (.int v :: St) sf h cs sl) : own_WP K M Q pc Ls St sf h cs sl :=
  own_step k fun p e s m args below meth c T locs cs' sl' B X eT t q => XS.iloadN X.here B.1 rfl (hb B.2.1 hd) (own_get hl) (by subst hp; exact q)
theorem own_iload {i : Nat} {v : Int32} (hp : pc + 2 = pc') (hd : decode M.b pc = .ok (.iload i, 2)) (hl : Ls[i]? = some (.val (.int v))) (k : own_WP K M Q pc' Ls (.int v :: St) sf h cs sl) : own_WP K M Q pc Ls St sf h cs sl :=
  own_step k fun p e s m args below meth c T locs cs' sl' B X eT t q => XS.iload X.here B.1 rfl (hb B.2.1 hd) (own_get hl) (by subst hp; exact q)
theorem own_iconst {i : Int} {v : Int32} (hp : pc + 1 = pc') (hd : decode M.b pc = .ok (.iconst i, 1)) (hv : Int32.ofInt i = v) (k : own_WP K M Q pc' Ls (.int v :: St) sf h cs sl) : own_WP K M Q pc Ls St sf h cs sl :=
  own_step k fun p e s m args below meth c T locs cs' sl' B X eT t q => XS.iconst X.here B.1 rfl (hb B.2.1 hd) (by subst hp hv; exact q)
theorem own_bipush {i : Int} {v : Int32} (hp : pc + 2 = pc') (hd : decode M.b pc = .ok (.bipush i, 2)) (hv : (Int8.ofInt i).toInt32 = v) (k : own_WP K M Q pc' Ls (.int v :: St) sf h cs sl) : own_WP K M Q pc Ls St sf h cs sl :=
  own_step k fun p e s m args below meth c T locs cs' sl' B X eT t q => XS.bipush X.here B.1 rfl (hb B.2.1 hd) (by subst hp hv; exact q)
theorem own_sipush {i : Int} {v : Int32} (hp : pc + 3 = pc') (hd : decode M.b pc = .ok (.sipush i, 3)) (hv : (Int16.ofInt i).toInt32 = v) (k : own_WP K M Q pc' Ls (.int v :: St) sf h cs sl) : own_WP K M Q pc Ls St sf h cs sl :=
  own_step k fun p e s m args below meth c T locs cs' sl' B X eT t q => XS.sipush X.here B.1 rfl (hb B.2.1 hd) (by subst hp hv; exact q)
theorem own_aconst_null (hp : pc + 1 = pc') (hd : decode M.b pc = .ok (.aconst_null, 1)) (k : own_WP K M Q pc' Ls (.null :: St) sf h cs sl) : own_WP K M Q pc Ls St sf h cs sl :=
  own_step k fun p e s m args below meth c T locs cs' sl' B X eT t q => XS.aconstNull X.here B.1 rfl (hb B.2.1 hd) (by subst hp; exact q)
theorem own_iadd {x y : Int32} (hp : pc + 1 = pc') (hd : decode M.b pc = .ok (.iadd, 1)) (k : own_WP K M Q pc' Ls (.int (x + y) :: St) sf h cs sl) : own_WP K M Q pc Ls (.int y :: .int x :: St) sf h cs sl :=
  own_step k fun p e s m args below meth c T locs cs' sl' B X eT t q => XS.iadd X.here B.1 rfl (hb B.2.1 hd) rfl (by subst hp; exact q)
theorem own_isub {x y : Int32} (hp : pc + 1 = pc') (hd : decode M.b pc = .ok (.isub, 1)) (k : own_WP K M Q pc' Ls (.int (x - y) :: St) sf h cs sl) : own_WP K M Q pc Ls (.int y :: .int x :: St) sf h cs sl :=
  own_step k fun p e s m args below meth c T locs cs' sl' B X eT t q => XS.isub X.here B.1 rfl (hb B.2.1 hd) rfl (by subst hp; exact q)
theorem own_iand {x y : Int32} (hp : pc + 1 = pc') (hd : decode M.b pc = .ok (.iand, 1)) (k : own_WP K M Q pc' Ls (.int (x &&& y) :: St) sf h cs sl) : own_WP K M Q pc Ls (.int y :: .int x :: St) sf h cs sl :=
  own_step k fun p e s m args below meth c T locs cs' sl' B X eT t q => XS.iand X.here B.1 rfl (hb B.2.1 hd) rfl (by subst hp; exact q)
theorem own_ishr {x y : Int32} (hp : pc + 1 = pc') (hd : decode M.b pc = .ok (.ishr, 1)) (k : own_WP K M Q pc' Ls (.int (x >>> (y &&& 31)) :: St) sf h cs sl) : own_WP K M Q pc Ls (.int y :: .int x :: St) sf h cs sl :=
  own_step k fun p e s m args below meth c T locs cs' sl' B X eT t q => XS.ishr X.here B.1 rfl (hb B.2.1 hd) rfl (by subst hp; exact q)
theorem own_iushr {x y : Int32} (hp : pc + 1 = pc') (hd : decode M.b pc = .ok (.iushr, 1)) (k : own_WP K M Q pc' Ls (.int (XT.ushr x y) :: St) sf h cs sl) : own_WP K M Q pc Ls (.int y :: .int x :: St) sf h cs sl :=
  own_step k fun p e s m args below meth c T locs cs' sl' B X eT t q => XT.iushr X.here B.1 rfl (hb B.2.1 hd) rfl (by subst hp; exact q)
theorem own_irem {x y : Int32} (hp : pc + 1 = pc') (hd : decode M.b pc = .ok (.irem, 1)) (hy : y ≠ 0) (k : own_WP K M Q pc' Ls (.int (x % y) :: St) sf h cs sl) : own_WP K M Q pc Ls (.int y :: .int x :: St) sf h cs sl :=
  own_step k fun p e s m args below meth c T locs cs' sl' B X eT t q => XS.irem X.here B.1 rfl (hb B.2.1 hd) rfl hy (by subst hp; rw [irem_eq_mod]; exact q)
theorem own_i2b {x : Int32} (hp : pc + 1 = pc') (hd : decode M.b pc = .ok (.i2b, 1)) (k : own_WP K M Q pc' Ls (.int (x.toInt8.toInt32) :: St) sf h cs sl) : own_WP K M Q pc Ls (.int x :: St) sf h cs sl :=
  own_step k fun p e s m args below meth c T locs cs' sl' B X eT t q => XS.i2b X.here B.1 rfl (hb B.2.1 hd) rfl (by subst hp; exact q)
theorem own_i2c {x : Int32} (hp : pc + 1 = pc') (hd : decode M.b pc = .ok (.i2c, 1)) (k : own_WP K M Q pc' Ls (.int (x.toUInt32.toUInt16.toUInt32.toInt32) :: St) sf h cs sl) : own_WP K M Q pc Ls (.int x :: St) sf h cs sl :=
  own_step k fun p e s m args below meth c T locs cs' sl' B X eT t q => XS.i2c X.here B.1 rfl (hb B.2.1 hd) rfl (by subst hp; exact q)
theorem own_dup {x : Value} (hp : pc + 1 = pc') (hd : decode M.b pc = .ok (.dup, 1)) (hc : x.category = 1) (k : own_WP K M Q pc' Ls (x :: x :: St) sf h cs sl) : own_WP K M Q pc Ls (x :: St) sf h cs sl :=
  own_step k fun p e s m args below meth c T locs cs' sl' B X eT t q => XS.dup X.here B.1 rfl (hb B.2.1 hd) rfl hc (by subst hp; exact q)
theorem own_pop {x : Value} (hp : pc + 1 = pc') (hd : decode M.b pc = .ok (.pop, 1)) (hc : x.category = 1) (k : own_WP K M Q pc' Ls St sf h cs sl) : own_WP K M Q pc Ls (x :: St) sf h cs sl :=
  own_step k fun p e s m args below meth c T locs cs' sl' B X eT t q => XS.pop X.here B.1 rfl (hb B.2.1 hd) rfl hc (by subst hp; exact q)
theorem own_store {Ls : List Slot} {i : Nat} {v : Value} {o : Slot} (ho : One o) (hv : v.category = 1) (hold : Ls[i]? = some o) : storeLocals Ls.toArray i v = some (Ls.set i (.val v)).toArray := by
  rw [XS.store1 (own_get hold) ho hv]; simp
theorem own_istore_n1 {u0 o : Slot} {r : List Slot} {x : Int32} (hp : pc + 1 = pc') (hd : decode M.b pc = .ok (.istore_n 1, 1)) (ho : One o) (k : own_WP K M Q pc' (u0 :: .val (.int x) :: r) St sf h cs sl) : own_WP K M Q pc (u0 :: o :: r) (.int x :: St) sf h cs sl :=
  own_step k fun p e s m args below meth c T locs cs' sl' B X eT t q => XS.istoreN X.here B.1 rfl (hb B.2.1 hd) rfl (own_store (Ls := u0 :: o :: r) (i := 1) ho rfl rfl) (by subst hp; exact q)
theorem own_iinc_1 {u0 : Slot} {r : List Slot} {x : Int32} {cst : Int} {z : Int32} (hp : pc + 3 = pc') (hd : decode M.b pc = .ok (.iinc 1 cst, 3)) (hz : Int32.ofInt cst = z) (k : own_WP K M Q pc' (u0 :: .val (.int (x + z)) :: r) St sf h cs sl) : own_WP K M Q pc (u0 :: .val (.int x) :: r) St sf h cs sl :=
  own_step k fun p e s m args below meth c T locs cs' sl' B X eT t q => XS.iinc X.here B.1 rfl (hb B.2.1 hd) (x := x) (own_get (L := u0 :: .val (.int x) :: r) (k := 1) rfl) (own_store (Ls := u0 :: .val (.int x) :: r) (i := 1) (One.val rfl) rfl rfl) (by subst hp hz; exact q)
theorem own_istore_n2 {u0 u1 o : Slot} {r : List Slot} {x : Int32} (hp : pc + 1 = pc') (hd : decode M.b pc = .ok (.istore_n 2, 1)) (ho : One o) (k : own_WP K M Q pc' (u0 :: u1 :: .val (.int x) :: r) St sf h cs sl) : own_WP K M Q pc (u0 :: u1 :: o :: r) (.int x :: St) sf h cs sl :=
  own_step k fun p e s m args below meth c T locs cs' sl' B X eT t q => XS.istoreN X.here B.1 rfl (hb B.2.1 hd) rfl (own_store (Ls := u0 :: u1 :: o :: r) (i := 2) ho rfl rfl) (by subst hp; exact q)
theorem own_istore_n3 {u0 u1 u2 o : Slot} {r : List Slot} {x : Int32} (hp : pc + 1 = pc') (hd : decode M.b pc = .ok (.istore_n 3, 1)) (ho : One o) (k : own_WP K M Q pc' (u0 :: u1 :: u2 :: .val (.int x) :: r) St sf h cs sl) : own_WP K M Q pc (u0 :: u1 :: u2 :: o :: r) (.int x :: St) sf h cs sl :=
  own_step k fun p e s m args below meth c T locs cs' sl' B X eT t q => XS.istoreN X.here B.1 rfl (hb B.2.1 hd) rfl (own_store (Ls := u0 :: u1 :: u2 :: o :: r) (i := 3) ho rfl rfl) (by subst hp; exact q)
theorem own_astore_n3 {u0 u1 u2 o : Slot} {r : List Slot} {x : Value} (hp : pc + 1 = pc') (hd : decode M.b pc = .ok (.astore_n 3, 1)) (ho : One o) (hv : x.isRef = true) (k : own_WP K M Q pc' (u0 :: u1 :: u2 :: .val x :: r) St sf h cs sl) : own_WP K M Q pc (u0 :: u1 :: u2 :: o :: r) (x :: St) sf h cs sl :=
  own_step k fun p e s m args below meth c T locs cs' sl' B X eT t q => XS.astoreN X.here B.1 rfl (hb B.2.1 hd) rfl hv (own_store (Ls := u0 :: u1 :: u2 :: o :: r) (i := 3) ho (by rcases ref_cases hv with rfl | ⟨_, rfl⟩ <;> rfl) rfl) (by subst hp; exact q)
theorem own_iinc_3 {u0 u1 u2 : Slot} {r : List Slot} {x : Int32} {cst : Int} {z : Int32} (hp : pc + 3 = pc') (hd : decode M.b pc = .ok (.iinc 3 cst, 3)) (hz : Int32.ofInt cst = z) (k : own_WP K M Q pc' (u0 :: u1 :: u2 :: .val (.int (x + z)) :: r) St sf h cs sl) : own_WP K M Q pc (u0 :: u1 :: u2 :: .val (.int x) :: r) St sf h cs sl :=
  own_step k fun p e s m args below meth c T locs cs' sl' B X eT t q => XS.iinc X.here B.1 rfl (hb B.2.1 hd) (x := x) (own_get (L := u0 :: u1 :: u2 :: .val (.int x) :: r) (k := 3) rfl) (own_store (Ls := u0 :: u1 :: u2 :: .val (.int x) :: r) (i := 3) (One.val rfl) rfl rfl) (by subst hp hz; exact q)
theorem own_istore_4 {u0 u1 u2 u3 o : Slot} {r : List Slot} {x : Int32} (hp : pc + 2 = pc') (hd : decode M.b pc = .ok (.istore 4, 2)) (ho : One o) (k : own_WP K M Q pc' (u0 :: u1 :: u2 :: u3 :: .val (.int x) :: r) St sf h cs sl) : own_WP K M Q pc (u0 :: u1 :: u2 :: u3 :: o :: r) (.int x :: St) sf h cs sl :=
  own_step k fun p e s m args below meth c T locs cs' sl' B X eT t q => XS.istore X.here B.1 rfl (hb B.2.1 hd) rfl (own_store (Ls := u0 :: u1 :: u2 :: u3 :: o :: r) (i := 4) ho rfl rfl) (by subst hp; exact q)
theorem own_istore_5 {u0 u1 u2 u3 u4 o : Slot} {r : List Slot} {x : Int32} (hp : pc + 2 = pc') (hd : decode M.b pc = .ok (.istore 5, 2)) (ho : One o) (k : own_WP K M Q pc' (u0 :: u1 :: u2 :: u3 :: u4 :: .val (.int x) :: r) St sf h cs sl) : own_WP K M Q pc (u0 :: u1 :: u2 :: u3 :: u4 :: o :: r) (.int x :: St) sf h cs sl :=
  own_step k fun p e s m args below meth c T locs cs' sl' B X eT t q => XS.istore X.here B.1 rfl (hb B.2.1 hd) rfl (own_store (Ls := u0 :: u1 :: u2 :: u3 :: u4 :: o :: r) (i := 5) ho rfl rfl) (by subst hp; exact q)
theorem own_astore_5 {u0 u1 u2 u3 u4 o : Slot} {r : List Slot} {x : Value} (hp : pc + 2 = pc') (hd : decode M.b pc = .ok (.astore 5, 2)) (ho : One o) (hv : x.isRef = true) (k : own_WP K M Q pc' (u0 :: u1 :: u2 :: u3 :: u4 :: .val x :: r) St sf h cs sl) : own_WP K M Q pc (u0 :: u1 :: u2 :: u3 :: u4 :: o :: r) (x :: St) sf h cs sl :=
  own_step k fun p e s m args below meth c T locs cs' sl' B X eT t q => XS.astore X.here B.1 rfl (hb B.2.1 hd) rfl hv (own_store (Ls := u0 :: u1 :: u2 :: u3 :: u4 :: o :: r) (i := 5) ho (by rcases ref_cases hv with rfl | ⟨_, rfl⟩ <;> rfl) rfl) (by subst hp; exact q)
theorem own_iinc_5 {u0 u1 u2 u3 u4 : Slot} {r : List Slot} {x : Int32} {cst : Int} {z : Int32} (hp : pc + 3 = pc') (hd : decode M.b pc = .ok (.iinc 5 cst, 3)) (hz : Int32.ofInt cst = z) (k : own_WP K M Q pc' (u0 :: u1 :: u2 :: u3 :: u4 :: .val (.int (x + z)) :: r) St sf h cs sl) : own_WP K M Q pc (u0 :: u1 :: u2 :: u3 :: u4 :: .val (.int x) :: r) St sf h cs sl :=
  own_step k fun p e s m args below meth c T locs cs' sl' B X eT t q => XS.iinc X.here B.1 rfl (hb B.2.1 hd) (x := x) (own_get (L := u0 :: u1 :: u2 :: u3 :: u4 :: .val (.int x) :: r) (k := 5) rfl) (own_store (Ls := u0 :: u1 :: u2 :: u3 :: u4 :: .val (.int x) :: r) (i := 5) (One.val rfl) rfl rfl) (by subst hp hz; exact q)
theorem own_istore_6 {u0 u1 u2 u3 u4 u5 o : Slot} {r : List Slot} {x : Int32} (hp : pc + 2 = pc') (hd : decode M.b pc = .ok (.istore 6, 2)) (ho : One o) (k : own_WP K M Q pc' (u0 :: u1 :: u2 :: u3 :: u4 :: u5 :: .val (.int x) :: r) St sf h cs sl) : own_WP K M Q pc (u0 :: u1 :: u2 :: u3 :: u4 :: u5 :: o :: r) (.int x :: St) sf h cs sl :=
  own_step k fun p e s m args below meth c T locs cs' sl' B X eT t q => XS.istore X.here B.1 rfl (hb B.2.1 hd) rfl (own_store (Ls := u0 :: u1 :: u2 :: u3 :: u4 :: u5 :: o :: r) (i := 6) ho rfl rfl) (by subst hp; exact q)
theorem own_astore_6 {u0 u1 u2 u3 u4 u5 o : Slot} {r : List Slot} {x : Value} (hp : pc + 2 = pc') (hd : decode M.b pc = .ok (.astore 6, 2)) (ho : One o) (hv : x.isRef = true) (k : own_WP K M Q pc' (u0 :: u1 :: u2 :: u3 :: u4 :: u5 :: .val x :: r) St sf h cs sl) : own_WP K M Q pc (u0 :: u1 :: u2 :: u3 :: u4 :: u5 :: o :: r) (x :: St) sf h cs sl :=
  own_step k fun p e s m args below meth c T locs cs' sl' B X eT t q => XS.astore X.here B.1 rfl (hb B.2.1 hd) rfl hv (own_store (Ls := u0 :: u1 :: u2 :: u3 :: u4 :: u5 :: o :: r) (i := 6) ho (by rcases ref_cases hv with rfl | ⟨_, rfl⟩ <;> rfl) rfl) (by subst hp; exact q)
theorem own_istore_7 {u0 u1 u2 u3 u4 u5 u6 o : Slot} {r : List Slot} {x : Int32} (hp : pc + 2 = pc') (hd : decode M.b pc = .ok (.istore 7, 2)) (ho : One o) (k : own_WP K M Q pc' (u0 :: u1 :: u2 :: u3 :: u4 :: u5 :: u6 :: .val (.int x) :: r) St sf h cs sl) : own_WP K M Q pc (u0 :: u1 :: u2 :: u3 :: u4 :: u5 :: u6 :: o :: r) (.int x :: St) sf h cs sl :=
  own_step k fun p e s m args below meth c T locs cs' sl' B X eT t q => XS.istore X.here B.1 rfl (hb B.2.1 hd) rfl (own_store (Ls := u0 :: u1 :: u2 :: u3 :: u4 :: u5 :: u6 :: o :: r) (i := 7) ho rfl rfl) (by subst hp; exact q)
theorem own_astore_7 {u0 u1 u2 u3 u4 u5 u6 o : Slot} {r : List Slot} {x : Value} (hp : pc + 2 = pc') (hd : decode M.b pc = .ok (.astore 7, 2)) (ho : One o) (hv : x.isRef = true) (k : own_WP K M Q pc' (u0 :: u1 :: u2 :: u3 :: u4 :: u5 :: u6 :: .val x :: r) St sf h cs sl) : own_WP K M Q pc (u0 :: u1 :: u2 :: u3 :: u4 :: u5 :: u6 :: o :: r) (x :: St) sf h cs sl :=
  own_step k fun p e s m args below meth c T locs cs' sl' B X eT t q => XS.astore X.here B.1 rfl (hb B.2.1 hd) rfl hv (own_store (Ls := u0 :: u1 :: u2 :: u3 :: u4 :: u5 :: u6 :: o :: r) (i := 7) ho (by rcases ref_cases hv with rfl | ⟨_, rfl⟩ <;> rfl) rfl) (by subst hp; exact q)
theorem own_istore_8 {u0 u1 u2 u3 u4 u5 u6 u7 o : Slot} {r : List Slot} {x : Int32} (hp : pc + 2 = pc') (hd : decode M.b pc = .ok (.istore 8, 2)) (ho : One o) (k : own_WP K M Q pc' (u0 :: u1 :: u2 :: u3 :: u4 :: u5 :: u6 :: u7 :: .val (.int x) :: r) St sf h cs sl) : own_WP K M Q pc (u0 :: u1 :: u2 :: u3 :: u4 :: u5 :: u6 :: u7 :: o :: r) (.int x :: St) sf h cs sl :=
  own_step k fun p e s m args below meth c T locs cs' sl' B X eT t q => XS.istore X.here B.1 rfl (hb B.2.1 hd) rfl (own_store (Ls := u0 :: u1 :: u2 :: u3 :: u4 :: u5 :: u6 :: u7 :: o :: r) (i := 8) ho rfl rfl) (by subst hp; exact q)
theorem own_istore_9 {u0 u1 u2 u3 u4 u5 u6 u7 u8 o : Slot} {r : List Slot} {x : Int32} (hp : pc + 2 = pc') (hd : decode M.b pc = .ok (.istore 9, 2)) (ho : One o) (k : own_WP K M Q pc' (u0 :: u1 :: u2 :: u3 :: u4 :: u5 :: u6 :: u7 :: u8 :: .val (.int x) :: r) St sf h cs sl) : own_WP K M Q pc (u0 :: u1 :: u2 :: u3 :: u4 :: u5 :: u6 :: u7 :: u8 :: o :: r) (.int x :: St) sf h cs sl :=
  own_step k fun p e s m args below meth c T locs cs' sl' B X eT t q => XS.istore X.here B.1 rfl (hb B.2.1 hd) rfl (own_store (Ls := u0 :: u1 :: u2 :: u3 :: u4 :: u5 :: u6 :: u7 :: u8 :: o :: r) (i := 9) ho rfl rfl) (by subst hp; exact q)
theorem own_istore_10 {u0 u1 u2 u3 u4 u5 u6 u7 u8 u9 o : Slot} {r : List Slot} {x : Int32} (hp : pc + 2 = pc') (hd : decode M.b pc = .ok (.istore 10, 2)) (ho : One o) (k : own_WP K M Q pc' (u0 :: u1 :: u2 :: u3 :: u4 :: u5 :: u6 :: u7 :: u8 :: u9 :: .val (.int x) :: r) St sf h cs sl) : own_WP K M Q pc (u0 :: u1 :: u2 :: u3 :: u4 :: u5 :: u6 :: u7 :: u8 :: u9 :: o :: r) (.int x :: St) sf h cs sl :=
  own_step k fun p e s m args below meth c T locs cs' sl' B X eT t q => XS.istore X.here B.1 rfl (hb B.2.1 hd) rfl (own_store (Ls := u0 :: u1 :: u2 :: u3 :: u4 :: u5 :: u6 :: u7 :: u8 :: u9 :: o :: r) (i := 10) ho rfl rfl) (by subst hp; exact q)
theorem own_istore_11 {u0 u1 u2 u3 u4 u5 u6 u7 u8 u9 u10 o : Slot} {r : List Slot} {x : Int32} (hp : pc + 2 = pc') (hd : decode M.b pc = .ok (.istore 11, 2)) (ho : One o) (k : own_WP K M Q pc' (u0 :: u1 :: u2 :: u3 :: u4 :: u5 :: u6 :: u7 :: u8 :: u9 :: u10 :: .val (.int x) :: r) St sf h cs sl) : own_WP K M Q pc (u0 :: u1 :: u2 :: u3 :: u4 :: u5 :: u6 :: u7 :: u8 :: u9 :: u10 :: o :: r) (.int x :: St) sf h cs sl :=
  own_step k fun p e s m args below meth c T locs cs' sl' B X eT t q => XS.istore X.here B.1 rfl (hb B.2.1 hd) rfl (own_store (Ls := u0 :: u1 :: u2 :: u3 :: u4 :: u5 :: u6 :: u7 :: u8 :: u9 :: u10 :: o :: r) (i := 11) ho rfl rfl) (by subst hp; exact q)
theorem own_goto {o : Int} (hd : decode M.b pc = .ok (.goto o, 3)) (ho : 0 ≤ (pc : Int) + o) (hp : ((pc : Int) + o).toNat = pc') (k : own_WP K M Q pc' Ls St sf h cs sl) : own_WP K M Q pc Ls St sf h cs sl :=
  own_step k fun p e s m args below meth c T locs cs' sl' B X eT t q => XS.goto X.here B.1 rfl (pc0 := pc) rfl (hb B.2.1 hd) ho hp q
theorem own_if {cd : ClassFile.Cond} {o : Int} {x : Int32} {pcT pcF : Nat} (hd : decode M.b pc = .ok (.ifCond cd o, 3)) (ho : 0 ≤ (pc : Int) + o) (hp : ((pc : Int) + o).toNat = pcT) (hp' : pc + 3 = pcF)
    (kT : ifCond.holds cd x = true → own_WP K M Q pcT Ls St sf h cs sl) (kF : ifCond.holds cd x = false → own_WP K M Q pcF Ls St sf h cs sl) : own_WP K M Q pc Ls (.int x :: St) sf h cs sl := by
  cases hc : ifCond.holds cd x
  · exact own_step (kF hc) fun p e s m args below meth c T locs cs' sl' B X eT t q => XS.ifNo X.here B.1 rfl (hb B.2.1 hd) rfl hc (by subst hp'; exact q)
  · exact own_step (kT hc) fun p e s m args below meth c T locs cs' sl' B X eT t q => XS.ifYes X.here B.1 rfl (pc0 := pc) rfl (hb B.2.1 hd) rfl hc ho hp q
theorem own_icmp {cd : ClassFile.Cond} {o : Int} {x y : Int32} {pcT pcF : Nat} (hd : decode M.b pc = .ok (.if_icmp cd o, 3)) (ho : 0 ≤ (pc : Int) + o) (hp : ((pc : Int) + o).toNat = pcT) (hp' : pc + 3 = pcF)
    (kT : if_icmp.holds cd x y = true → own_WP K M Q pcT Ls St sf h cs sl) (kF : if_icmp.holds cd x y = false → own_WP K M Q pcF Ls St sf h cs sl) : own_WP K M Q pc Ls (.int y :: .int x :: St) sf h cs sl := by
  cases hc : if_icmp.holds cd x y
  · exact own_step (kF hc) fun p e s m args below meth c T locs cs' sl' B X eT t q => XS.icmpNo X.here B.1 rfl (hb B.2.1 hd) rfl hc (by subst hp'; exact q)
  · exact own_step (kT hc) fun p e s m args below meth c T locs cs' sl' B X eT t q => XS.icmpYes X.here B.1 rfl (pc0 := pc) rfl (hb B.2.1 hd) rfl hc ho hp q
theorem own_ifeq {o : Int} {x : Int32} {pcT pcF : Nat} (hd : decode M.b pc = .ok (.ifCond .eq o, 3)) (ho : 0 ≤ (pc : Int) + o) (hp : ((pc : Int) + o).toNat = pcT) (hp' : pc + 3 = pcF) (kT : x = 0 → own_WP K M Q pcT Ls St sf h cs sl) (kF : ¬ x = 0 → own_WP K M Q pcF Ls St sf h cs sl) : own_WP K M Q pc Ls (.int x :: St) sf h cs sl := by
  refine own_if hd ho hp hp' (fun c => ?_) (fun c => ?_)
  · rw [if0] at c; by_cases q : x = 0
    · exact kT q
    · have z := (feq q).1; rw [z] at c; cases c
  · rw [if0] at c; by_cases q : x = 0
    · have z := (teq q).1; rw [z] at c; cases c
    · exact kF q
theorem own_icmpeq {o : Int} {x y : Int32} {pcT pcF : Nat} (hd : decode M.b pc = .ok (.if_icmp .eq o, 3)) (ho : 0 ≤ (pc : Int) + o) (hp : ((pc : Int) + o).toNat = pcT) (hp' : pc + 3 = pcF) (kT : x = y → own_WP K M Q pcT Ls St sf h cs sl) (kF : ¬ x = y → own_WP K M Q pcF Ls St sf h cs sl) : own_WP K M Q pc Ls (.int y :: .int x :: St) sf h cs sl := by
  refine own_icmp hd ho hp hp' (fun c => ?_) (fun c => ?_)
  · by_cases q : x = y
    · exact kT q
    · have z := (feq q).1; rw [z] at c; cases c
  · by_cases q : x = y
    · have z := (teq q).1; rw [z] at c; cases c
    · exact kF q
theorem own_ifne {o : Int} {x : Int32} {pcT pcF : Nat} (hd : decode M.b pc = .ok (.ifCond .ne o, 3)) (ho : 0 ≤ (pc : Int) + o) (hp : ((pc : Int) + o).toNat = pcT) (hp' : pc + 3 = pcF) (kT : ¬ x = 0 → own_WP K M Q pcT Ls St sf h cs sl) (kF : x = 0 → own_WP K M Q pcF Ls St sf h cs sl) : own_WP K M Q pc Ls (.int x :: St) sf h cs sl := by
  refine own_if hd ho hp hp' (fun c => ?_) (fun c => ?_)
  · rw [if0] at c; by_cases q : x = 0
    · have z := (teq q).2; rw [z] at c; cases c
    · exact kT q
  · rw [if0] at c; by_cases q : x = 0
    · exact kF q
    · have z := (feq q).2; rw [z] at c; cases c
theorem own_icmpne {o : Int} {x y : Int32} {pcT pcF : Nat} (hd : decode M.b pc = .ok (.if_icmp .ne o, 3)) (ho : 0 ≤ (pc : Int) + o) (hp : ((pc : Int) + o).toNat = pcT) (hp' : pc + 3 = pcF) (kT : ¬ x = y → own_WP K M Q pcT Ls St sf h cs sl) (kF : x = y → own_WP K M Q pcF Ls St sf h cs sl) : own_WP K M Q pc Ls (.int y :: .int x :: St) sf h cs sl := by
  refine own_icmp hd ho hp hp' (fun c => ?_) (fun c => ?_)
  · by_cases q : x = y
    · have z := (teq q).2; rw [z] at c; cases c
    · exact kT q
  · by_cases q : x = y
    · exact kF q
    · have z := (feq q).2; rw [z] at c; cases c
theorem own_iflt {o : Int} {x : Int32} {pcT pcF : Nat} (hd : decode M.b pc = .ok (.ifCond .lt o, 3)) (ho : 0 ≤ (pc : Int) + o) (hp : ((pc : Int) + o).toNat = pcT) (hp' : pc + 3 = pcF) (kT : x < 0 → own_WP K M Q pcT Ls St sf h cs sl) (kF : ¬ x < 0 → own_WP K M Q pcF Ls St sf h cs sl) : own_WP K M Q pc Ls (.int x :: St) sf h cs sl := by
  refine own_if hd ho hp hp' (fun c => ?_) (fun c => ?_)
  · rw [if0] at c; by_cases q : x < 0
    · exact kT q
    · have z := (flt q).1; rw [z] at c; cases c
  · rw [if0] at c; by_cases q : x < 0
    · have z := (tlt q).1; rw [z] at c; cases c
    · exact kF q
theorem own_icmplt {o : Int} {x y : Int32} {pcT pcF : Nat} (hd : decode M.b pc = .ok (.if_icmp .lt o, 3)) (ho : 0 ≤ (pc : Int) + o) (hp : ((pc : Int) + o).toNat = pcT) (hp' : pc + 3 = pcF) (kT : x < y → own_WP K M Q pcT Ls St sf h cs sl) (kF : ¬ x < y → own_WP K M Q pcF Ls St sf h cs sl) : own_WP K M Q pc Ls (.int y :: .int x :: St) sf h cs sl := by
  refine own_icmp hd ho hp hp' (fun c => ?_) (fun c => ?_)
  · by_cases q : x < y
    · exact kT q
    · have z := (flt q).1; rw [z] at c; cases c
  · by_cases q : x < y
    · have z := (tlt q).1; rw [z] at c; cases c
    · exact kF q
theorem own_icmpge {o : Int} {x y : Int32} {pcT pcF : Nat} (hd : decode M.b pc = .ok (.if_icmp .ge o, 3)) (ho : 0 ≤ (pc : Int) + o) (hp : ((pc : Int) + o).toNat = pcT) (hp' : pc + 3 = pcF) (kT : ¬ x < y → own_WP K M Q pcT Ls St sf h cs sl) (kF : x < y → own_WP K M Q pcF Ls St sf h cs sl) : own_WP K M Q pc Ls (.int y :: .int x :: St) sf h cs sl := by
  refine own_icmp hd ho hp hp' (fun c => ?_) (fun c => ?_)
  · by_cases q : x < y
    · have z := (tlt q).2.1; rw [z] at c; cases c
    · exact kT q
  · by_cases q : x < y
    · exact kF q
    · have z := (flt q).2.1; rw [z] at c; cases c
theorem own_icmpgt {o : Int} {x y : Int32} {pcT pcF : Nat} (hd : decode M.b pc = .ok (.if_icmp .gt o, 3)) (ho : 0 ≤ (pc : Int) + o) (hp : ((pc : Int) + o).toNat = pcT) (hp' : pc + 3 = pcF) (kT : y < x → own_WP K M Q pcT Ls St sf h cs sl) (kF : ¬ y < x → own_WP K M Q pcF Ls St sf h cs sl) : own_WP K M Q pc Ls (.int y :: .int x :: St) sf h cs sl := by
  refine own_icmp hd ho hp hp' (fun c => ?_) (fun c => ?_)
  · by_cases q : y < x
    · exact kT q
    · have z := (flt q).2.2.1; rw [z] at c; cases c
  · by_cases q : y < x
    · have z := (tlt q).2.2.1; rw [z] at c; cases c
    · exact kF q
theorem own_icmple {o : Int} {x y : Int32} {pcT pcF : Nat} (hd : decode M.b pc = .ok (.if_icmp .le o, 3)) (ho : 0 ≤ (pc : Int) + o) (hp : ((pc : Int) + o).toNat = pcT) (hp' : pc + 3 = pcF) (kT : ¬ y < x → own_WP K M Q pcT Ls St sf h cs sl) (kF : y < x → own_WP K M Q pcF Ls St sf h cs sl) : own_WP K M Q pc Ls (.int y :: .int x :: St) sf h cs sl := by
  refine own_icmp hd ho hp hp' (fun c => ?_) (fun c => ?_)
  · by_cases q : y < x
    · have z := (tlt q).2.2.2; rw [z] at c; cases c
    · exact kT q
  · by_cases q : y < x
    · exact kF q
    · have z := (flt q).2.2.2; rw [z] at c; cases c
theorem own_ifnull_n {o : Int} {b : Addr} (hp : pc + 3 = pc') (hd : decode M.b pc = .ok (.ifnull o, 3)) (k : own_WP K M Q pc' Ls St sf h cs sl) : own_WP K M Q pc Ls (.ref b :: St) sf h cs sl :=
  own_step k fun p e s m args below meth c T locs cs' sl' B X eT t q => XS.ifnullNo X.here B.1 rfl (hb B.2.1 hd) rfl (by subst hp; exact q)
theorem own_ifnonnull_y {o : Int} {b : Addr} (hd : decode M.b pc = .ok (.ifnonnull o, 3)) (ho : 0 ≤ (pc : Int) + o) (hp : ((pc : Int) + o).toNat = pc') (k : own_WP K M Q pc' Ls St sf h cs sl) : own_WP K M Q pc Ls (.ref b :: St) sf h cs sl :=
  own_step k fun p e s m args below meth c T locs cs' sl' B X eT t q => XS.ifnonnullYes X.here B.1 rfl (pc0 := pc) rfl (hb B.2.1 hd) rfl ho hp q
theorem own_acmpne {o : Int} {x y : Value} {pcT pcF : Nat} (hd : decode M.b pc = .ok (.if_acmp .ne o, 3)) (ho : 0 ≤ (pc : Int) + o) (hp : ((pc : Int) + o).toNat = pcT) (hp' : pc + 3 = pcF) (hx : x.isRef = true) (hy : y.isRef = true) (kT : ¬ x = y → own_WP K M Q pcT Ls St sf h cs sl) (kF : x = y → own_WP K M Q pcF Ls St sf h cs sl) : own_WP K M Q pc Ls (y :: x :: St) sf h cs sl := by
  by_cases z : x = y
  · exact own_step (kF z) fun p e s m args below meth c T locs cs' sl' B X eT t q => XT.acmpNo X.here B.1 rfl (hb B.2.1 hd) rfl hx hy (by simp [XT.acmp, z]) (by subst hp'; exact q)
  · exact own_step (kT z) fun p e s m args below meth c T locs cs' sl' B X eT t q => XT.acmpYes X.here B.1 rfl (pc0 := pc) rfl (hb B.2.1 hd) rfl hx hy (by simp [XT.acmp, z]) ho hp q
/-- returns -/
theorem own_return {qn : Heap → List Addr → Prop} (hr : M.ret = none) (hd : decode M.b pc = .ok (.return_, 1)) (hc : Nat.ble cs M.R.cells = true) (hs : Nat.ble sl M.R.slots = true) (q : qn h sf) : own_WP K M (own_void qn) pc Ls [] sf h cs sl :=
  own_leave (v := none) (fun _ => rfl) (Nat.le_of_ble_eq_true hc) (Nat.le_of_ble_eq_true hs) ⟨rfl, q⟩ fun p e s m args below meth c T locs cs' sl' B X fs hl => X.returnOut B.1 (by rw [B.2.2.2.2.2.1, hr]) (hb B.2.1 hd) hl
theorem own_ireturn {qv : Value → Heap → List Addr → Prop} {z : Int32} (hr : M.ret = some .int) (hd : decode M.b pc = .ok (.ireturn, 1)) (hc : Nat.ble cs M.R.cells = true) (hs : Nat.ble sl M.R.slots = true) (q : qv (.int z) h sf) : own_WP K M (own_ret qv) pc Ls (.int z :: St) sf h cs sl :=
  own_leave (v := some (.int z)) (fun n => by rw [hr] at n; cases n) (Nat.le_of_ble_eq_true hc) (Nat.le_of_ble_eq_true hs) ⟨_, rfl, q⟩ fun p e s m args below meth c T locs cs' sl' B X fs hl => retOut X B.1 (t := .int) (by rw [B.2.2.2.2.2.1, hr]) rfl (Or.inl ⟨rfl, Or.inl rfl, z, rfl⟩) (hb B.2.1 hd) hl
theorem own_ireturnN {qv : Value → Heap → List Addr → Prop} {t : FieldType} {z z' : Int32} (hr : M.ret = some t) (ht : t = .boolean ∨ t = .byte ∨ t = .char ∨ t = .short) (hz : nar t z = z') (hd : decode M.b pc = .ok (.ireturn, 1)) (hc : Nat.ble cs M.R.cells = true) (hs : Nat.ble sl M.R.slots = true) (q : qv (.int z') h sf) : own_WP K M (own_ret qv) pc Ls (.int z :: St) sf h cs sl :=
  own_leave (v := some (.int z')) (fun n => by rw [hr] at n; cases n) (Nat.le_of_ble_eq_true hc) (Nat.le_of_ble_eq_true hs) ⟨_, rfl, q⟩ fun p e s m args below meth c T locs cs' sl' B X fs hl => retN X B.1 (t := t) (by rw [B.2.2.2.2.2.1, hr]) ht (hb B.2.1 hd) (by rw [hz]; exact hl)
theorem own_areturn {qv : Value → Heap → List Addr → Prop} {t : FieldType} {v : Value} (hr : M.ret = some t) (ht : t.isReference = true) (hv : v.isRef = true) (hd : decode M.b pc = .ok (.areturn, 1)) (hc : Nat.ble cs M.R.cells = true) (hs : Nat.ble sl M.R.slots = true) (q : qv v h sf) : own_WP K M (own_ret qv) pc Ls (v :: St) sf h cs sl :=
  own_leave (v := some v) (fun n => by rw [hr] at n; cases n) (Nat.le_of_ble_eq_true hc) (Nat.le_of_ble_eq_true hs) ⟨_, rfl, q⟩ fun p e s m args below meth c T locs cs' sl' B X fs hl => retOut X B.1 (t := t) (by rw [B.2.2.2.2.2.1, hr]) (by cases t <;> first | (cases ht; done) | (rcases ref_cases hv with rfl | ⟨_, rfl⟩ <;> rfl)) (Or.inr (Or.inr (Or.inr (Or.inr ⟨rfl, ht, hv⟩)))) (hb B.2.1 hd) hl
/-- constants of the pool, fields, statics, new objects and arrays -/
theorem own_ldcI {index : Nat} {v : Int32} (hp : pc + 2 = pc') (hd : decode M.b pc = .ok (.ldc index, 2)) (w : (Jvm.Cond.constant M.y.cls index v).before a0 K.Z = true) (k : own_WP K M Q pc' Ls (.int v :: St) sf h cs sl) : own_WP K M Q pc Ls St sf h cs sl :=
  own_step k fun p e s m args below meth c T locs cs' sl' B X eT t q => X.ldcInt B.1 B.2.2.2.1 (mv B.2.2.2.2.2.2.2.1 w) (g := mkF m pc Ls.toArray St) rfl (hb B.2.1 hd) t (by subst hp; exact q)
theorem own_getF {index : Nat} {R0 O n d : String} {a : Addr} {v : Value} (hp : pc + 3 = pc') (hd : decode M.b pc = .ok (.getfield index, 3)) (w : (Jvm.Cond.fieldLink M.y.cls index R0 n d).before a0 K.Z = true) (via : Via K.Z R0 O n d) (F : Fld K.Z h a O n d v) (k : own_WP K M Q pc' Ls (v :: St) sf h cs sl) : own_WP K M Q pc Ls (.ref a :: St) sf h cs sl := by
  subst hp
  exact own_move k fun p e s m args below meth c T locs cs' sl' B X eT hE => getF X B.1 B.2.2.2.2.2.2.2.1 (host := "") B.2.2.2.1 (Or.inl w) via eT F (g := mkF m pc Ls.toArray (.ref a :: St)) rfl rfl (hb B.2.1 hd)
theorem own_getS {index : Nat} {R0 O n d : String} {v : Value} (hp : pc + 3 = pc') (hd : decode M.b pc = .ok (.getstatic index, 3)) (w : (Jvm.Cond.fieldLink M.y.cls index R0 n d).before a0 K.Z = true) (via : Via K.Z R0 O n d) (F : Sta K.Z K.Z.heap O n d v) (k : own_WP K M Q pc' Ls (v :: St) sf h cs sl) : own_WP K M Q pc Ls St sf h cs sl := by
  subst hp
  exact own_move k fun p e s m args below meth c T locs cs' sl' B X eT hE => getS X B.1 B.2.2.2.2.2.2.2.1 (host := "") B.2.2.2.1 w via eT (F.ext hE) (g := mkF m pc Ls.toArray St) rfl (hb B.2.1 hd)
theorem own_new {index n : Nat} {C : String} (hp : pc + 3 = pc') (hd : decode M.b pc = .ok (.new index, 3)) (w : (Jvm.Cond.classLink M.y.cls index C).before a0 K.Z = true) (wi : (Jvm.Cond.instantiable C n).before a0 K.Z = true) (wz : (Jvm.Cond.initialized C).before a0 K.Z = true) (hc : Nat.ble (cs + 1) M.R.cells = true) (hs : Nat.ble (sl + n) M.R.slots = true)
    (k : ∀ (a : Addr) (h' : Heap), @Eq Nat a h.size → Ext h h' → Exa K.Z h' a C → (∀ {O nm d : String} {ty : FieldType}, Laid K.Z a0 C O nm d → parseFieldDescriptor d = some ty → Fld K.Z h' a O nm d (defaultValue ty)) → own_WP K M Q pc' Ls (.ref a :: St) (a :: sf) h' (cs + 1) (sl + n)) : own_WP K M Q pc Ls St sf h cs sl := by
  subst hp
  refine own_grow (P := fun h' => Exa K.Z h' h.size C ∧ (∀ {O nm d : String} {ty : FieldType}, Laid K.Z a0 C O nm d → parseFieldDescriptor d = some ty → Fld K.Z h' h.size O nm d (defaultValue ty))) (Nat.le_of_ble_eq_true hc) (Nat.le_of_ble_eq_true hs) (fun h' E P => k _ h' rfl E P.1 P.2) ?_
  intro p e s m args below meth c T locs cs' sl' B X hc' hs' eT
  obtain ⟨T', h', X', e', E, A, D, -, st⟩ := newO X B.1 B.2.2.2.2.2.2.2.1 B.2.2.2.1 w wi wz eT (g := mkF m pc Ls.toArray St) rfl (hb B.2.1 hd) hc' hs'
  exact ⟨T', h', X', e', E, A.lt, ⟨A, D⟩, st⟩
theorem own_putF {index kk : Nat} {R0 O n d C : String} {ty : FieldType} {a : Addr} {v v' old : Value} (hp : pc + 3 = pc') (hd : decode M.b pc = .ok (.putfield index, 3)) (w : (Jvm.Cond.fieldLink M.y.cls index R0 n d).before a0 K.Z = true) (via : Via K.Z R0 O n d)
    (L : (Jvm.Cond.lays C O n d).before a0 K.Z = true ∨ ((Jvm.Cond.laysFinal C O n d).before a0 K.Z = true ∧ M.y.cls = O ∧ M.y.name = "<init>")) (wi : (Jvm.Cond.instantiable C kk).before a0 K.Z = true) (hty : parseFieldDescriptor d = some ty) (hn : narrow ty v = v') (hf : fits ty v' = true) (F : Fld K.Z h a O n d old) (E : Exa K.Z h a C) (ha : a ∈ sf)
    (k : ∀ h', Wr h h' a (RoadKit.slotOf K.Z O n d) v' → own_WP K M Q pc' Ls St sf h' cs sl) : own_WP K M Q pc Ls (v :: .ref a :: St) sf h cs sl := by
  subst hp
  exact own_write ha k fun p e s m args below meth c T locs cs' sl' B X eT => putFN X B.1 B.2.2.2.2.2.2.2.1 B.2.2.2.1 w via eT F E (L.imp id fun q => ⟨q.1, q.2.1, by rw [B.2.2.2.2.1]; exact q.2.2⟩) wi hty hn hf (g := mkF m pc Ls.toArray (v :: .ref a :: St)) rfl rfl (hb B.2.1 hd)
theorem own_initO {index : Nat} {a : Addr} (hp : pc + 3 = pc') (hd : decode M.b pc = .ok (.invokespecial index, 3)) (w1 : (Jvm.Cond.methodLink M.y.cls index Lib.objectInit).before a0 K.Z = true) (w2 : (Jvm.Cond.instanceMethod Lib.objectInit).before a0 K.Z = true) (w3 : (Jvm.Cond.code Lib.objectInit ⟨#[0xb1]⟩ 1 none).before a0 K.Z = true) (hsz : Ls.length = M.mx) (hf : Nat.ble 1 M.R.frames = true) (hl : Nat.ble ((St.map fun v => v.category).sum + 12) M.R.locals = true)
    (k : own_WP K M Q pc' Ls St sf h cs sl) : own_WP K M Q pc Ls (.ref a :: St) sf h cs sl := by
  subst hp
  exact own_move k fun p e s m args below meth c T locs cs' sl' B X eT hE => initO X B.1 B.2.2.2.2.2.2.2.1 B.2.2.2.1 w1 w2 w3 eT (g := mkF m pc Ls.toArray (.ref a :: St)) rfl (by rw [B.2.2.1, ← hsz]; simp) rfl (hb B.2.1 hd) (Nat.le_of_ble_eq_true hf) (W := (St.map fun v => v.category).sum) (by show 2 * 0 + _ ≤ _; omega) (Nat.le_of_ble_eq_true hl)
end Plain
section Arrays
/-- the array at a holds just vs -/
def own_Ary (Z : State) (h : Heap) (a : Addr) (ty : FieldType) (vs : List Value) : Prop := ∃ c : Cell, Arr Z h a c ty ∧ c.slots = vs.toArray ∧ vs.length < 2 ^ 31
variable {K : own_Cx} {M : own_Mi} {Q : own_Q} {pc pc' : Nat} {Ls : List Slot} {St : List Value} {sf : List Addr} {h h' : Heap} {cs sl : Nat} {a0 : Array Value} {Z : State} {a b : Addr} {ty : FieldType} {vs : List Value}
theorem own_Ary.ext (F : own_Ary Z h a ty vs) (E : Ext h h') : own_Ary Z h' a ty vs := by obtain ⟨c, A, r⟩ := F; exact ⟨c, A.ext E, r⟩
theorem own_Ary.lt (F : own_Ary Z h a ty vs) : a < h.size := by obtain ⟨c, A, r⟩ := F; exact A.lt
theorem own_Ary.keep {ws : List Addr} (F : own_Ary Z h a ty vs) (k : Keep h h' ws) (q : a ∉ ws) : own_Ary Z h' a ty vs := by obtain ⟨c, A, r⟩ := F; exact ⟨c, ⟨k.2.1 a c A.1 q, A.2⟩, r⟩
theorem own_Ary.other {i : Nat} {v : Value} (F : own_Ary Z h b ty vs) (W : Wr h h' a i v) (q : b ≠ a) : own_Ary Z h' b ty vs := by obtain ⟨c, A, r⟩ := F; exact ⟨c, A.other W q, r⟩
theorem own_Ary.same {i : Nat} {v : Value} (F : own_Ary Z h a ty vs) (W : Wr h h' a i v) : own_Ary Z h' a ty (vs.set i v) := by
  obtain ⟨c, A, r1, r2⟩ := F
  refine ⟨c.setSlot i v, A.same W, ?_, by simpa using r2⟩
  simp [Cell.setSlot, r1]
theorem own_idx {j : Int32} {i n : Nat} (hj : j.toInt = i) (hi : i < n) : ¬ (j < 0 ∨ n ≤ j.toNatClampNeg) ∧ j.toNatClampNeg = i := by
  have q : j.toNatClampNeg = i := by
    have : j.toNatClampNeg = j.toInt.toNat := rfl
    rw [this, hj]; rfl
  refine ⟨fun z => ?_, q⟩
  rcases z with z | z
  · rw [Int32.lt_iff_toInt_lt, hj] at z
    have : (0 : Int32).toInt = 0 := rfl
    omega
  · omega
theorem own_len {n : Nat} (q : n < 2 ^ 31) : (n.toInt32).toInt = n := Int32.toInt_ofNat_small q
theorem own_arrlen {z : Int32} (hp : pc + 1 = pc') (hd : decode M.b pc = .ok (.arraylength, 1)) (F : own_Ary K.Z h a ty vs) (hz : z.toInt = vs.length) (k : own_WP K M Q pc' Ls (.int z :: St) sf h cs sl) : own_WP K M Q pc Ls (.ref a :: St) sf h cs sl := by
  obtain ⟨cl, A, r1, r2⟩ := F
  have e1 : cl.slots.size.toInt32 = z := by
    apply Int32.toInt_inj.mp
    rw [hz, r1]; simpa using own_len r2
  exact own_step k fun p e s m args below meth c T locs cs' sl' B X eT t q => X.arraylength B.1 (by rw [eT]; exact A.1) (State.isArrayOf_alike B.2.2.2.2.2.2.2.1.alike A.2.1) (g := mkF m pc Ls.toArray (.ref a :: St)) rfl rfl (hb B.2.1 hd) t (by subst hp; rw [e1]; exact q)
theorem own_caload {i : Nat} {j : Int32} {v : Value} (hp : pc + 1 = pc') (hd : decode M.b pc = .ok (.caload, 1)) (F : own_Ary K.Z h a .char vs) (hj : j.toInt = i) (hv : vs[i]? = some v) (k : own_WP K M Q pc' Ls (v :: St) sf h cs sl) : own_WP K M Q pc Ls (.int j :: .ref a :: St) sf h cs sl := by
  obtain ⟨cl, A, r1, r2⟩ := F
  have hi : i < vs.length := (List.getElem?_eq_some_iff.mp hv).1
  have hsz : cl.slots.size = vs.length := by rw [r1]; simp
  obtain ⟨q1, q2⟩ := own_idx (n := cl.slots.size) hj (by rw [hsz]; exact hi)
  exact own_step k fun p e s m args below meth c T locs cs' sl' B X eT t q => X.caload B.1 (j := j) (v := v) (by rw [eT]; exact A.1) (State.isArrayOf_alike B.2.2.2.2.2.2.2.1.alike A.2.1) A.2.2 q1 (by rw [q2, r1]; simpa using hv) (g := mkF m pc Ls.toArray (.int j :: .ref a :: St)) rfl rfl (hb B.2.1 hd) t (by subst hp; exact q)
theorem own_baload {i : Nat} {j : Int32} {v : Value} (hp : pc + 1 = pc') (hd : decode M.b pc = .ok (.baload, 1)) (F : own_Ary K.Z h a .byte vs) (hj : j.toInt = i) (hv : vs[i]? = some v) (k : own_WP K M Q pc' Ls (v :: St) sf h cs sl) : own_WP K M Q pc Ls (.int j :: .ref a :: St) sf h cs sl := by
  obtain ⟨cl, A, r1, r2⟩ := F
  have hi : i < vs.length := (List.getElem?_eq_some_iff.mp hv).1
  have hsz : cl.slots.size = vs.length := by rw [r1]; simp
  obtain ⟨q1, q2⟩ := own_idx (n := cl.slots.size) hj (by rw [hsz]; exact hi)
  exact own_step k fun p e s m args below meth c T locs cs' sl' B X eT t q => X.baloadBytes B.1 (j := j) (v := v) (by rw [eT]; exact A.1) (State.isArrayOf_alike B.2.2.2.2.2.2.2.1.alike A.2.1) A.2.2 q1 (by rw [q2, r1]; simpa using hv) (g := mkF m pc Ls.toArray (.int j :: .ref a :: St)) rfl rfl (hb B.2.1 hd) t (by subst hp; exact q)
theorem own_castore {i : Nat} {j x x' : Int32} (hp : pc + 1 = pc') (hd : decode M.b pc = .ok (.castore, 1)) (F : own_Ary K.Z h a .char vs) (hj : j.toInt = i) (hi : i < vs.length) (hx : nar .char x = x') (ha : a ∈ sf) (k : ∀ h', Keep h h' [a] → own_Ary K.Z h' a .char (vs.set i (.int x')) → own_WP K M Q pc' Ls St sf h' cs sl) : own_WP K M Q pc Ls (.int x :: .int j :: .ref a :: St) sf h cs sl := by
  subst hp hx
  have F' := F
  obtain ⟨cl, A, r1, r2⟩ := F
  have hsz : cl.slots.size = vs.length := by rw [r1]; simp
  obtain ⟨q1, q2⟩ := own_idx (n := cl.slots.size) hj (by rw [hsz]; exact hi)
  refine own_write ha (i := j.toNatClampNeg) (fun h' W => k h' (Keep.of_wr W) (by rw [← q2]; exact F'.same W)) ?_
  exact fun p e s m args below meth c T locs cs' sl' B X eT => stC X B.1 B.2.2.2.2.2.2.2.1 eT A (j := j) q1 (g := mkF m pc Ls.toArray (.int x :: .int j :: .ref a :: St)) rfl rfl (hb B.2.1 hd)
theorem own_bastore {i : Nat} {j x x' : Int32} (hp : pc + 1 = pc') (hd : decode M.b pc = .ok (.bastore, 1)) (F : own_Ary K.Z h a .byte vs) (hj : j.toInt = i) (hi : i < vs.length) (hx : nar .byte x = x') (ha : a ∈ sf) (k : ∀ h', Keep h h' [a] → own_Ary K.Z h' a .byte (vs.set i (.int x')) → own_WP K M Q pc' Ls St sf h' cs sl) : own_WP K M Q pc Ls (.int x :: .int j :: .ref a :: St) sf h cs sl := by
  subst hp hx
  have F' := F
  obtain ⟨cl, A, r1, r2⟩ := F
  have hsz : cl.slots.size = vs.length := by rw [r1]; simp
  obtain ⟨q1, q2⟩ := own_idx (n := cl.slots.size) hj (by rw [hsz]; exact hi)
  refine own_write ha (i := j.toNatClampNeg) (fun h' W => k h' (Keep.of_wr W) (by rw [← q2]; exact F'.same W)) ?_
  exact fun p e s m args below meth c T locs cs' sl' B X eT => stB X B.1 B.2.2.2.2.2.2.2.1 eT A (j := j) q1 (g := mkF m pc Ls.toArray (.int x :: .int j :: .ref a :: St)) rfl rfl (hb B.2.1 hd)
theorem own_newarray {aty : ArrayType} {n : Int32} {N cap : Nat} (hp : pc + 2 = pc') (hd : decode M.b pc = .ok (.newarray aty, 2)) (w : (Jvm.Cond.arrayClass (newarray.typeOf aty)).before a0 K.Z = true) (hn : n.toInt = N) (hcap : N ≤ cap) (hb' : Nat.ble (cap * 8) 536870912 = true) (hc : Nat.ble (cs + 1) M.R.cells = true) (hs : Nat.ble (sl + cap) M.R.slots = true)
    (k : ∀ (a : Addr) (h' : Heap), @Eq Nat a h.size → Ext h h' → own_Ary K.Z h' a (newarray.typeOf aty) (List.replicate N (defaultValue (newarray.typeOf aty))) → own_WP K M Q pc' Ls (.ref a :: St) (a :: sf) h' (cs + 1) (sl + cap)) : own_WP K M Q pc Ls (.int n :: St) sf h cs sl := by
  subst hp
  have hN : n.toNatClampNeg = N := by
    have : n.toNatClampNeg = n.toInt.toNat := rfl
    rw [this, hn]; rfl
  have h0 : ¬ n < 0 := fun z => by
    rw [Int32.lt_iff_toInt_lt, hn] at z
    have : (0 : Int32).toInt = 0 := rfl
    omega
  refine own_grow (P := fun h' => own_Ary K.Z h' h.size (newarray.typeOf aty) (List.replicate N (defaultValue (newarray.typeOf aty)))) (Nat.le_of_ble_eq_true hc) (Nat.le_of_ble_eq_true hs) (fun h' E P => k _ h' rfl E P) ?_
  intro p e s m args below meth c T locs cs' sl' B X hc' hs' eT
  obtain ⟨T', h', cA, X', e', E, A, st⟩ := newP X B.1 B.2.2.2.2.2.2.2.1 w eT (g := mkF m pc Ls.toArray (.int n :: St)) rfl (hb B.2.1 hd) rfl h0 (cap := cap) (by omega) (Nat.le_of_ble_eq_true hb') hc' hs'
  have hlt := (back32 h0).2
  exact ⟨T', h', X', e', E, A.lt, ⟨_, A, by simp [newA, hN], by rw [List.length_replicate, ← hN]; exact hlt⟩, st⟩
end Arrays
theorem own_lenOf {d : String} {ps : List FieldType} {r : Option FieldType} (hd : parseMethodDescriptor d = some ⟨ps, r⟩) {n : Nat} (hl : n = ps.length) : ∀ sig, parseMethodDescriptor d = some sig → n = sig.parameters.length := fun sig q => by cases hd.symm.trans q; exact hl
theorem own_cat {v : Value} (q : v.isRef = true) : v.category = 1 := by rcases ref_cases q with rfl | ⟨_, rfl⟩ <;> rfl
theorem own_nb0 : nar .boolean 0 = 0 := rfl
theorem own_nb1 : nar .boolean 1 = 1 := rfl
theorem own_ints_get {cs : List Int32} {i : Nat} {c : Int32} (hc : cs[i]? = some c) : (cs.map Value.int)[i]? = some (.int c) := by simp [hc]
theorem own_ints_getM {cs : List Int32} {f : Int32 → Int32} {i : Nat} {c : Int32} (hc : cs[i]? = some c) : ((cs.map f).map Value.int)[i]? = some (.int (f c)) := by simp [hc]
theorem tw_0 {a0 : Array Value} {Z : State} (hw : ∀ d ∈ tables_1, d.before a0 Z = true) : (Jvm.Cond.methodLink "com/example/table_to_topic/tabletotopic/TableNameOfPinLaw" (10 : Nat) ({ cls := "com/example/table_to_topic/tabletotopic/TableNameOfPinLaw", name := "pick", desc := "(IZ)C" } : Jvm.MethodName)).before a0 Z = true := hw _ (List.mem_of_getElem? (i := 0) rfl)
theorem tw_1 {a0 : Array Value} {Z : State} (hw : ∀ d ∈ tables_1, d.before a0 Z = true) : (Jvm.Cond.static ({ cls := "com/example/table_to_topic/tabletotopic/TableNameOfPinLaw", name := "pick", desc := "(IZ)C" } : Jvm.MethodName)).before a0 Z = true := hw _ (List.mem_of_getElem? (i := 1) rfl)
theorem tw_2 {a0 : Array Value} {Z : State} (hw : ∀ d ∈ tables_1, d.before a0 Z = true) : (Jvm.Cond.initialized "com/example/table_to_topic/tabletotopic/TableNameOfPinLaw").before a0 Z = true := hw _ (List.mem_of_getElem? (i := 2) rfl)
theorem tw_3 {a0 : Array Value} {Z : State} (hw : ∀ d ∈ tables_1, d.before a0 Z = true) : (Jvm.Cond.code ({ cls := "com/example/table_to_topic/tabletotopic/TableNameOfPinLaw", name := "pick", desc := "(IZ)C" } : Jvm.MethodName) method_2_code (4 : Nat) (Option.some Jvm.ClassFile.FieldType.char)).before a0 Z = true := hw _ (List.mem_of_getElem? (i := 3) rfl)
theorem tw_4 {a0 : Array Value} {Z : State} (hw : ∀ d ∈ tables_1, d.before a0 Z = true) : (Jvm.Cond.constant "com/example/table_to_topic/tabletotopic/TableNameOfPinLaw" (7 : Nat) (2147483647 : Int32)).before a0 Z = true := hw _ (List.mem_of_getElem? (i := 4) rfl)
theorem tw_5 {a0 : Array Value} {Z : State} (hw : ∀ d ∈ tables_1, d.before a0 Z = true) : (Jvm.Cond.classLink "com/example/table_to_topic/tabletotopic/TableNameOfPinLaw" (16 : Nat) "java/lang/String").before a0 Z = true := hw _ (List.mem_of_getElem? (i := 5) rfl)
theorem tw_6 {a0 : Array Value} {Z : State} (hw : ∀ d ∈ tables_1, d.before a0 Z = true) : (Jvm.Cond.instantiable "java/lang/String" (4 : Nat)).before a0 Z = true := hw _ (List.mem_of_getElem? (i := 6) rfl)
theorem tw_7 {a0 : Array Value} {Z : State} (hw : ∀ d ∈ tables_1, d.before a0 Z = true) : (Jvm.Cond.initialized "java/lang/String").before a0 Z = true := hw _ (List.mem_of_getElem? (i := 7) rfl)
theorem tw_8 {a0 : Array Value} {Z : State} (hw : ∀ d ∈ tables_1, d.before a0 Z = true) : (Jvm.Cond.arrayClass Jvm.ClassFile.FieldType.char).before a0 Z = true := hw _ (List.mem_of_getElem? (i := 8) rfl)
theorem tw_9 {a0 : Array Value} {Z : State} (hw : ∀ d ∈ tables_1, d.before a0 Z = true) : (Jvm.Cond.methodLink "com/example/table_to_topic/tabletotopic/TableNameOfPinLaw" (18 : Nat) ({ cls := "java/lang/String", name := "<init>", desc := "([C)V" } : Jvm.MethodName)).before a0 Z = true := hw _ (List.mem_of_getElem? (i := 9) rfl)
theorem tw_10 {a0 : Array Value} {Z : State} (hw : ∀ d ∈ tables_1, d.before a0 Z = true) : (Jvm.Cond.instanceMethod ({ cls := "java/lang/String", name := "<init>", desc := "([C)V" } : Jvm.MethodName)).before a0 Z = true := hw _ (List.mem_of_getElem? (i := 10) rfl)
theorem tw_11 {a0 : Array Value} {Z : State} (hw : ∀ d ∈ tables_1, d.before a0 Z = true) : (Jvm.Cond.code ({ cls := "java/lang/String", name := "<init>", desc := "([C)V" } : Jvm.MethodName) jdk_42_method_3_code (2 : Nat) (Option.none : Option Jvm.ClassFile.FieldType)).before a0 Z = true := hw _ (List.mem_of_getElem? (i := 11) rfl)
theorem tw_12 {a0 : Array Value} {Z : State} (hw : ∀ d ∈ tables_1, d.before a0 Z = true) : (Jvm.Cond.methodLink "java/lang/String" (27 : Nat) ({ cls := "java/lang/String", name := "<init>", desc := "([CIILjava/lang/Void;)V" } : Jvm.MethodName)).before a0 Z = true := hw _ (List.mem_of_getElem? (i := 12) rfl)
theorem tw_13 {a0 : Array Value} {Z : State} (hw : ∀ d ∈ tables_1, d.before a0 Z = true) : (Jvm.Cond.instanceMethod ({ cls := "java/lang/String", name := "<init>", desc := "([CIILjava/lang/Void;)V" } : Jvm.MethodName)).before a0 Z = true := hw _ (List.mem_of_getElem? (i := 13) rfl)
theorem tw_15 {a0 : Array Value} {Z : State} (hw : ∀ d ∈ tables_1, d.before a0 Z = true) : (Jvm.Cond.code ({ cls := "java/lang/String", name := "<init>", desc := "([CIILjava/lang/Void;)V" } : Jvm.MethodName) jdk_42_method_149_code (6 : Nat) (Option.none : Option Jvm.ClassFile.FieldType)).before a0 Z = true := hw _ (List.mem_of_getElem? (i := 15) rfl)
theorem tw_16 {a0 : Array Value} {Z : State} (hw : ∀ d ∈ tables_1, d.before a0 Z = true) : (Jvm.Cond.methodLink "java/lang/String" (1 : Nat) ({ cls := "java/lang/Object", name := "<init>", desc := "()V" } : Jvm.MethodName)).before a0 Z = true := hw _ (List.mem_of_getElem? (i := 16) rfl)
theorem tw_17 {a0 : Array Value} {Z : State} (hw : ∀ d ∈ tables_1, d.before a0 Z = true) : (Jvm.Cond.instanceMethod ({ cls := "java/lang/Object", name := "<init>", desc := "()V" } : Jvm.MethodName)).before a0 Z = true := hw _ (List.mem_of_getElem? (i := 17) rfl)
theorem tw_18 {a0 : Array Value} {Z : State} (hw : ∀ d ∈ tables_1, d.before a0 Z = true) : (Jvm.Cond.code ({ cls := "java/lang/Object", name := "<init>", desc := "()V" } : Jvm.MethodName) object_method_1_code (1 : Nat) (Option.none : Option Jvm.ClassFile.FieldType)).before a0 Z = true := hw _ (List.mem_of_getElem? (i := 18) rfl)
theorem tw_19 {a0 : Array Value} {Z : State} (hw : ∀ d ∈ tables_1, d.before a0 Z = true) : (Jvm.Cond.fieldLink "java/lang/String" (38 : Nat) "java/lang/String" "COMPACT_STRINGS" "Z").before a0 Z = true := hw _ (List.mem_of_getElem? (i := 19) rfl)
theorem tw_20 {a0 : Array Value} {Z : State} (hw : ∀ d ∈ tables_1, d.before a0 Z = true) : (Jvm.Cond.methodLink "java/lang/String" (177 : Nat) ({ cls := "java/lang/StringUTF16", name := "compress", desc := "([CII)[B" } : Jvm.MethodName)).before a0 Z = true := hw _ (List.mem_of_getElem? (i := 20) rfl)
theorem tw_21 {a0 : Array Value} {Z : State} (hw : ∀ d ∈ tables_1, d.before a0 Z = true) : (Jvm.Cond.static ({ cls := "java/lang/StringUTF16", name := "compress", desc := "([CII)[B" } : Jvm.MethodName)).before a0 Z = true := hw _ (List.mem_of_getElem? (i := 21) rfl)
theorem tw_22 {a0 : Array Value} {Z : State} (hw : ∀ d ∈ tables_1, d.before a0 Z = true) : (Jvm.Cond.initialized "java/lang/StringUTF16").before a0 Z = true := hw _ (List.mem_of_getElem? (i := 22) rfl)
theorem tw_23 {a0 : Array Value} {Z : State} (hw : ∀ d ∈ tables_1, d.before a0 Z = true) : (Jvm.Cond.code ({ cls := "java/lang/StringUTF16", name := "compress", desc := "([CII)[B" } : Jvm.MethodName) jdk_52_method_16_code (6 : Nat) (Option.some (Jvm.ClassFile.FieldType.array Jvm.ClassFile.FieldType.byte))).before a0 Z = true := hw _ (List.mem_of_getElem? (i := 23) rfl)
theorem tw_24 {a0 : Array Value} {Z : State} (hw : ∀ d ∈ tables_1, d.before a0 Z = true) : (Jvm.Cond.arrayClass Jvm.ClassFile.FieldType.byte).before a0 Z = true := hw _ (List.mem_of_getElem? (i := 24) rfl)
theorem tw_25 {a0 : Array Value} {Z : State} (hw : ∀ d ∈ tables_1, d.before a0 Z = true) : (Jvm.Cond.methodLink "java/lang/StringUTF16" (115 : Nat) ({ cls := "java/lang/StringUTF16", name := "compress", desc := "([CI[BII)I" } : Jvm.MethodName)).before a0 Z = true := hw _ (List.mem_of_getElem? (i := 25) rfl)
theorem tw_26 {a0 : Array Value} {Z : State} (hw : ∀ d ∈ tables_1, d.before a0 Z = true) : (Jvm.Cond.static ({ cls := "java/lang/StringUTF16", name := "compress", desc := "([CI[BII)I" } : Jvm.MethodName)).before a0 Z = true := hw _ (List.mem_of_getElem? (i := 26) rfl)
theorem tw_27 {a0 : Array Value} {Z : State} (hw : ∀ d ∈ tables_1, d.before a0 Z = true) : (Jvm.Cond.code ({ cls := "java/lang/StringUTF16", name := "compress", desc := "([CI[BII)I" } : Jvm.MethodName) jdk_52_method_21_code (7 : Nat) (Option.some Jvm.ClassFile.FieldType.int)).before a0 Z = true := hw _ (List.mem_of_getElem? (i := 27) rfl)
theorem tw_28 {a0 : Array Value} {Z : State} (hw : ∀ d ∈ tables_1, d.before a0 Z = true) : (Jvm.Cond.methodLink "java/lang/String" (47 : Nat) ({ cls := "java/lang/StringUTF16", name := "coderFromArrayLen", desc := "([BI)B" } : Jvm.MethodName)).before a0 Z = true := hw _ (List.mem_of_getElem? (i := 28) rfl)
theorem tw_29 {a0 : Array Value} {Z : State} (hw : ∀ d ∈ tables_1, d.before a0 Z = true) : (Jvm.Cond.static ({ cls := "java/lang/StringUTF16", name := "coderFromArrayLen", desc := "([BI)B" } : Jvm.MethodName)).before a0 Z = true := hw _ (List.mem_of_getElem? (i := 29) rfl)
theorem tw_30 {a0 : Array Value} {Z : State} (hw : ∀ d ∈ tables_1, d.before a0 Z = true) : (Jvm.Cond.code ({ cls := "java/lang/StringUTF16", name := "coderFromArrayLen", desc := "([BI)B" } : Jvm.MethodName) jdk_52_method_15_code (2 : Nat) (Option.some Jvm.ClassFile.FieldType.byte)).before a0 Z = true := hw _ (List.mem_of_getElem? (i := 30) rfl)
theorem tw_31 {a0 : Array Value} {Z : State} (hw : ∀ d ∈ tables_1, d.before a0 Z = true) : (Jvm.Cond.fieldLink "java/lang/String" (15 : Nat) "java/lang/String" "coder" "B").before a0 Z = true := hw _ (List.mem_of_getElem? (i := 31) rfl)
theorem tw_32 {a0 : Array Value} {Z : State} (hw : ∀ d ∈ tables_1, d.before a0 Z = true) : (Jvm.Cond.laysFinal "java/lang/String" "java/lang/String" "coder" "B").before a0 Z = true := hw _ (List.mem_of_getElem? (i := 32) rfl)
theorem tw_33 {a0 : Array Value} {Z : State} (hw : ∀ d ∈ tables_1, d.before a0 Z = true) : (Jvm.Cond.fieldLink "java/lang/String" (9 : Nat) "java/lang/String" "value" "[B").before a0 Z = true := hw _ (List.mem_of_getElem? (i := 33) rfl)
theorem tw_34 {a0 : Array Value} {Z : State} (hw : ∀ d ∈ tables_1, d.before a0 Z = true) : (Jvm.Cond.laysFinal "java/lang/String" "java/lang/String" "value" "[B").before a0 Z = true := hw _ (List.mem_of_getElem? (i := 34) rfl)
theorem tw_35 {a0 : Array Value} {Z : State} (hw : ∀ d ∈ tables_1, d.before a0 Z = true) : (Jvm.Cond.methodLink "com/example/table_to_topic/tabletotopic/TableNameOfPinLaw" (21 : Nat) ({ cls := "com/example/table_to_topic/tabletotopic/TableName", name := "of", desc := "(Ljava/lang/String;)Lcom/example/table_to_topic/tabletotopic/TableName;" } : Jvm.MethodName)).before a0 Z = true := hw _ (List.mem_of_getElem? (i := 35) rfl)
theorem tw_36 {a0 : Array Value} {Z : State} (hw : ∀ d ∈ tables_1, d.before a0 Z = true) : (Jvm.Cond.static ({ cls := "com/example/table_to_topic/tabletotopic/TableName", name := "of", desc := "(Ljava/lang/String;)Lcom/example/table_to_topic/tabletotopic/TableName;" } : Jvm.MethodName)).before a0 Z = true := hw _ (List.mem_of_getElem? (i := 36) rfl)
theorem tw_37 {a0 : Array Value} {Z : State} (hw : ∀ d ∈ tables_1, d.before a0 Z = true) : (Jvm.Cond.initialized "com/example/table_to_topic/tabletotopic/TableName").before a0 Z = true := hw _ (List.mem_of_getElem? (i := 37) rfl)
theorem tw_38 {a0 : Array Value} {Z : State} (hw : ∀ d ∈ tables_1, d.before a0 Z = true) : (Jvm.Cond.code ({ cls := "com/example/table_to_topic/tabletotopic/TableName", name := "of", desc := "(Ljava/lang/String;)Lcom/example/table_to_topic/tabletotopic/TableName;" } : Jvm.MethodName) prog_15_method_2_code (4 : Nat) (Option.some (Jvm.ClassFile.FieldType.object "com/example/table_to_topic/tabletotopic/TableName"))).before a0 Z = true := hw _ (List.mem_of_getElem? (i := 38) rfl)
theorem tw_40 {a0 : Array Value} {Z : State} (hw : ∀ d ∈ tables_1, d.before a0 Z = true) : (Jvm.Cond.soleField "java/lang/String" "value").before a0 Z = true := hw _ (List.mem_of_getElem? (i := 40) rfl)
theorem tw_41 {a0 : Array Value} {Z : State} (hw : ∀ d ∈ tables_1, d.before a0 Z = true) : (Jvm.Cond.soleField "java/lang/String" "coder").before a0 Z = true := hw _ (List.mem_of_getElem? (i := 41) rfl)
theorem tw_42 {a0 : Array Value} {Z : State} (hw : ∀ d ∈ tables_1, d.before a0 Z = true) : (Jvm.Cond.methodLink "com/example/table_to_topic/tabletotopic/TableName" (14 : Nat) ({ cls := "java/util/Objects", name := "requireNonNull", desc := "(Ljava/lang/Object;Ljava/lang/String;)Ljava/lang/Object;" } : Jvm.MethodName)).before a0 Z = true := hw _ (List.mem_of_getElem? (i := 42) rfl)
theorem tw_43 {a0 : Array Value} {Z : State} (hw : ∀ d ∈ tables_1, d.before a0 Z = true) : (Jvm.Cond.static ({ cls := "java/util/Objects", name := "requireNonNull", desc := "(Ljava/lang/Object;Ljava/lang/String;)Ljava/lang/Object;" } : Jvm.MethodName)).before a0 Z = true := hw _ (List.mem_of_getElem? (i := 43) rfl)
theorem tw_44 {a0 : Array Value} {Z : State} (hw : ∀ d ∈ tables_1, d.before a0 Z = true) : (Jvm.Cond.initialized "java/util/Objects").before a0 Z = true := hw _ (List.mem_of_getElem? (i := 44) rfl)
theorem tw_45 {a0 : Array Value} {Z : State} (hw : ∀ d ∈ tables_1, d.before a0 Z = true) : (Jvm.Cond.code ({ cls := "java/util/Objects", name := "requireNonNull", desc := "(Ljava/lang/Object;Ljava/lang/String;)Ljava/lang/Object;" } : Jvm.MethodName) jdk_31_method_11_code (2 : Nat) (Option.some (Jvm.ClassFile.FieldType.object "java/lang/Object"))).before a0 Z = true := hw _ (List.mem_of_getElem? (i := 45) rfl)
theorem tw_46 {a0 : Array Value} {Z : State} (hw : ∀ d ∈ tables_1, d.before a0 Z = true) : (Jvm.Cond.methodLink "com/example/table_to_topic/tabletotopic/TableName" (20 : Nat) ({ cls := "java/lang/String", name := "isEmpty", desc := "()Z" } : Jvm.MethodName)).before a0 Z = true := hw _ (List.mem_of_getElem? (i := 46) rfl)
theorem tw_47 {a0 : Array Value} {Z : State} (hw : ∀ d ∈ tables_1, d.before a0 Z = true) : (Jvm.Cond.declares ({ cls := "java/lang/String", name := "isEmpty", desc := "()Z" } : Jvm.MethodName)).before a0 Z = true := hw _ (List.mem_of_getElem? (i := 47) rfl)
theorem tw_48 {a0 : Array Value} {Z : State} (hw : ∀ d ∈ tables_1, d.before a0 Z = true) : (Jvm.Cond.instanceMethod ({ cls := "java/lang/String", name := "isEmpty", desc := "()Z" } : Jvm.MethodName)).before a0 Z = true := hw _ (List.mem_of_getElem? (i := 48) rfl)
theorem tw_49 {a0 : Array Value} {Z : State} (hw : ∀ d ∈ tables_1, d.before a0 Z = true) : (Jvm.Cond.selects "java/lang/String" ({ cls := "java/lang/String", name := "isEmpty", desc := "()Z" } : Jvm.MethodName) ({ cls := "java/lang/String", name := "isEmpty", desc := "()Z" } : Jvm.MethodName)).before a0 Z = true := hw _ (List.mem_of_getElem? (i := 49) rfl)
theorem tw_50 {a0 : Array Value} {Z : State} (hw : ∀ d ∈ tables_1, d.before a0 Z = true) : (Jvm.Cond.code ({ cls := "java/lang/String", name := "isEmpty", desc := "()Z" } : Jvm.MethodName) jdk_42_method_55_code (1 : Nat) (Option.some Jvm.ClassFile.FieldType.boolean)).before a0 Z = true := hw _ (List.mem_of_getElem? (i := 50) rfl)
theorem tw_51 {a0 : Array Value} {Z : State} (hw : ∀ d ∈ tables_1, d.before a0 Z = true) : (Jvm.Cond.methodLink "com/example/table_to_topic/tabletotopic/TableName" (26 : Nat) ({ cls := "java/lang/String", name := "length", desc := "()I" } : Jvm.MethodName)).before a0 Z = true := hw _ (List.mem_of_getElem? (i := 51) rfl)
theorem tw_52 {a0 : Array Value} {Z : State} (hw : ∀ d ∈ tables_1, d.before a0 Z = true) : (Jvm.Cond.declares ({ cls := "java/lang/String", name := "length", desc := "()I" } : Jvm.MethodName)).before a0 Z = true := hw _ (List.mem_of_getElem? (i := 52) rfl)
theorem tw_53 {a0 : Array Value} {Z : State} (hw : ∀ d ∈ tables_1, d.before a0 Z = true) : (Jvm.Cond.instanceMethod ({ cls := "java/lang/String", name := "length", desc := "()I" } : Jvm.MethodName)).before a0 Z = true := hw _ (List.mem_of_getElem? (i := 53) rfl)
theorem tw_54 {a0 : Array Value} {Z : State} (hw : ∀ d ∈ tables_1, d.before a0 Z = true) : (Jvm.Cond.selects "java/lang/String" ({ cls := "java/lang/String", name := "length", desc := "()I" } : Jvm.MethodName) ({ cls := "java/lang/String", name := "length", desc := "()I" } : Jvm.MethodName)).before a0 Z = true := hw _ (List.mem_of_getElem? (i := 54) rfl)
theorem tw_55 {a0 : Array Value} {Z : State} (hw : ∀ d ∈ tables_1, d.before a0 Z = true) : (Jvm.Cond.code ({ cls := "java/lang/String", name := "length", desc := "()I" } : Jvm.MethodName) jdk_42_method_54_code (1 : Nat) (Option.some Jvm.ClassFile.FieldType.int)).before a0 Z = true := hw _ (List.mem_of_getElem? (i := 55) rfl)
theorem tw_56 {a0 : Array Value} {Z : State} (hw : ∀ d ∈ tables_1, d.before a0 Z = true) : (Jvm.Cond.methodLink "java/lang/String" (335 : Nat) ({ cls := "java/lang/String", name := "coder", desc := "()B" } : Jvm.MethodName)).before a0 Z = true := hw _ (List.mem_of_getElem? (i := 56) rfl)
theorem tw_57 {a0 : Array Value} {Z : State} (hw : ∀ d ∈ tables_1, d.before a0 Z = true) : (Jvm.Cond.declares ({ cls := "java/lang/String", name := "coder", desc := "()B" } : Jvm.MethodName)).before a0 Z = true := hw _ (List.mem_of_getElem? (i := 57) rfl)
theorem tw_58 {a0 : Array Value} {Z : State} (hw : ∀ d ∈ tables_1, d.before a0 Z = true) : (Jvm.Cond.instanceMethod ({ cls := "java/lang/String", name := "coder", desc := "()B" } : Jvm.MethodName)).before a0 Z = true := hw _ (List.mem_of_getElem? (i := 58) rfl)
theorem tw_59 {a0 : Array Value} {Z : State} (hw : ∀ d ∈ tables_1, d.before a0 Z = true) : (Jvm.Cond.selects "java/lang/String" ({ cls := "java/lang/String", name := "coder", desc := "()B" } : Jvm.MethodName) ({ cls := "java/lang/String", name := "coder", desc := "()B" } : Jvm.MethodName)).before a0 Z = true := hw _ (List.mem_of_getElem? (i := 59) rfl)
theorem tw_60 {a0 : Array Value} {Z : State} (hw : ∀ d ∈ tables_1, d.before a0 Z = true) : (Jvm.Cond.code ({ cls := "java/lang/String", name := "coder", desc := "()B" } : Jvm.MethodName) jdk_42_method_152_code (1 : Nat) (Option.some Jvm.ClassFile.FieldType.byte)).before a0 Z = true := hw _ (List.mem_of_getElem? (i := 60) rfl)
theorem tw_61 {a0 : Array Value} {Z : State} (hw : ∀ d ∈ tables_1, d.before a0 Z = true) : (Jvm.Cond.methodLink "com/example/table_to_topic/tabletotopic/TableName" (47 : Nat) ({ cls := "java/lang/String", name := "charAt", desc := "(I)C" } : Jvm.MethodName)).before a0 Z = true := hw _ (List.mem_of_getElem? (i := 61) rfl)
theorem tw_62 {a0 : Array Value} {Z : State} (hw : ∀ d ∈ tables_1, d.before a0 Z = true) : (Jvm.Cond.declares ({ cls := "java/lang/String", name := "charAt", desc := "(I)C" } : Jvm.MethodName)).before a0 Z = true := hw _ (List.mem_of_getElem? (i := 62) rfl)
theorem tw_63 {a0 : Array Value} {Z : State} (hw : ∀ d ∈ tables_1, d.before a0 Z = true) : (Jvm.Cond.instanceMethod ({ cls := "java/lang/String", name := "charAt", desc := "(I)C" } : Jvm.MethodName)).before a0 Z = true := hw _ (List.mem_of_getElem? (i := 63) rfl)
theorem tw_64 {a0 : Array Value} {Z : State} (hw : ∀ d ∈ tables_1, d.before a0 Z = true) : (Jvm.Cond.selects "java/lang/String" ({ cls := "java/lang/String", name := "charAt", desc := "(I)C" } : Jvm.MethodName) ({ cls := "java/lang/String", name := "charAt", desc := "(I)C" } : Jvm.MethodName)).before a0 Z = true := hw _ (List.mem_of_getElem? (i := 64) rfl)
theorem tw_65 {a0 : Array Value} {Z : State} (hw : ∀ d ∈ tables_1, d.before a0 Z = true) : (Jvm.Cond.code ({ cls := "java/lang/String", name := "charAt", desc := "(I)C" } : Jvm.MethodName) jdk_42_method_56_code (2 : Nat) (Option.some Jvm.ClassFile.FieldType.char)).before a0 Z = true := hw _ (List.mem_of_getElem? (i := 65) rfl)
theorem tw_66 {a0 : Array Value} {Z : State} (hw : ∀ d ∈ tables_1, d.before a0 Z = true) : (Jvm.Cond.methodLink "java/lang/String" (492 : Nat) ({ cls := "java/lang/String", name := "isLatin1", desc := "()Z" } : Jvm.MethodName)).before a0 Z = true := hw _ (List.mem_of_getElem? (i := 66) rfl)
theorem tw_67 {a0 : Array Value} {Z : State} (hw : ∀ d ∈ tables_1, d.before a0 Z = true) : (Jvm.Cond.declares ({ cls := "java/lang/String", name := "isLatin1", desc := "()Z" } : Jvm.MethodName)).before a0 Z = true := hw _ (List.mem_of_getElem? (i := 67) rfl)
theorem tw_68 {a0 : Array Value} {Z : State} (hw : ∀ d ∈ tables_1, d.before a0 Z = true) : (Jvm.Cond.instanceMethod ({ cls := "java/lang/String", name := "isLatin1", desc := "()Z" } : Jvm.MethodName)).before a0 Z = true := hw _ (List.mem_of_getElem? (i := 68) rfl)
theorem tw_69 {a0 : Array Value} {Z : State} (hw : ∀ d ∈ tables_1, d.before a0 Z = true) : (Jvm.Cond.selects "java/lang/String" ({ cls := "java/lang/String", name := "isLatin1", desc := "()Z" } : Jvm.MethodName) ({ cls := "java/lang/String", name := "isLatin1", desc := "()Z" } : Jvm.MethodName)).before a0 Z = true := hw _ (List.mem_of_getElem? (i := 69) rfl)
theorem tw_70 {a0 : Array Value} {Z : State} (hw : ∀ d ∈ tables_1, d.before a0 Z = true) : (Jvm.Cond.code ({ cls := "java/lang/String", name := "isLatin1", desc := "()Z" } : Jvm.MethodName) jdk_42_method_154_code (1 : Nat) (Option.some Jvm.ClassFile.FieldType.boolean)).before a0 Z = true := hw _ (List.mem_of_getElem? (i := 70) rfl)
theorem tw_71 {a0 : Array Value} {Z : State} (hw : ∀ d ∈ tables_1, d.before a0 Z = true) : (Jvm.Cond.methodLink "java/lang/String" (495 : Nat) ({ cls := "java/lang/StringLatin1", name := "charAt", desc := "([BI)C" } : Jvm.MethodName)).before a0 Z = true := hw _ (List.mem_of_getElem? (i := 71) rfl)
theorem tw_72 {a0 : Array Value} {Z : State} (hw : ∀ d ∈ tables_1, d.before a0 Z = true) : (Jvm.Cond.static ({ cls := "java/lang/StringLatin1", name := "charAt", desc := "([BI)C" } : Jvm.MethodName)).before a0 Z = true := hw _ (List.mem_of_getElem? (i := 72) rfl)
theorem tw_73 {a0 : Array Value} {Z : State} (hw : ∀ d ∈ tables_1, d.before a0 Z = true) : (Jvm.Cond.initialized "java/lang/StringLatin1").before a0 Z = true := hw _ (List.mem_of_getElem? (i := 73) rfl)
theorem tw_74 {a0 : Array Value} {Z : State} (hw : ∀ d ∈ tables_1, d.before a0 Z = true) : (Jvm.Cond.code ({ cls := "java/lang/StringLatin1", name := "charAt", desc := "([BI)C" } : Jvm.MethodName) jdk_43_method_2_code (2 : Nat) (Option.some Jvm.ClassFile.FieldType.char)).before a0 Z = true := hw _ (List.mem_of_getElem? (i := 74) rfl)
theorem tw_75 {a0 : Array Value} {Z : State} (hw : ∀ d ∈ tables_1, d.before a0 Z = true) : (Jvm.Cond.methodLink "java/lang/StringLatin1" (9 : Nat) ({ cls := "java/lang/String", name := "checkIndex", desc := "(II)V" } : Jvm.MethodName)).before a0 Z = true := hw _ (List.mem_of_getElem? (i := 75) rfl)
theorem tw_76 {a0 : Array Value} {Z : State} (hw : ∀ d ∈ tables_1, d.before a0 Z = true) : (Jvm.Cond.static ({ cls := "java/lang/String", name := "checkIndex", desc := "(II)V" } : Jvm.MethodName)).before a0 Z = true := hw _ (List.mem_of_getElem? (i := 76) rfl)
theorem tw_77 {a0 : Array Value} {Z : State} (hw : ∀ d ∈ tables_1, d.before a0 Z = true) : (Jvm.Cond.code ({ cls := "java/lang/String", name := "checkIndex", desc := "(II)V" } : Jvm.MethodName) jdk_42_method_155_code (2 : Nat) (Option.none : Option Jvm.ClassFile.FieldType)).before a0 Z = true := hw _ (List.mem_of_getElem? (i := 77) rfl)
theorem tw_78 {a0 : Array Value} {Z : State} (hw : ∀ d ∈ tables_1, d.before a0 Z = true) : (Jvm.Cond.fieldLink "java/lang/String" (1053 : Nat) "jdk/internal/util/Preconditions" "SIOOBE_FORMATTER" "Ljava/util/function/BiFunction;").before a0 Z = true := hw _ (List.mem_of_getElem? (i := 78) rfl)
theorem tw_79 {a0 : Array Value} {Z : State} (hw : ∀ d ∈ tables_1, d.before a0 Z = true) : (Jvm.Cond.initialized "jdk/internal/util/Preconditions").before a0 Z = true := hw _ (List.mem_of_getElem? (i := 79) rfl)
theorem tw_80 {a0 : Array Value} {Z : State} (hw : ∀ d ∈ tables_1, d.before a0 Z = true) : (Jvm.Cond.methodLink "java/lang/String" (1059 : Nat) ({ cls := "jdk/internal/util/Preconditions", name := "checkIndex", desc := "(IILjava/util/function/BiFunction;)I" } : Jvm.MethodName)).before a0 Z = true := hw _ (List.mem_of_getElem? (i := 80) rfl)
theorem tw_81 {a0 : Array Value} {Z : State} (hw : ∀ d ∈ tables_1, d.before a0 Z = true) : (Jvm.Cond.static ({ cls := "jdk/internal/util/Preconditions", name := "checkIndex", desc := "(IILjava/util/function/BiFunction;)I" } : Jvm.MethodName)).before a0 Z = true := hw _ (List.mem_of_getElem? (i := 81) rfl)
theorem tw_82 {a0 : Array Value} {Z : State} (hw : ∀ d ∈ tables_1, d.before a0 Z = true) : (Jvm.Cond.code ({ cls := "jdk/internal/util/Preconditions", name := "checkIndex", desc := "(IILjava/util/function/BiFunction;)I" } : Jvm.MethodName) jdk_41_method_11_code (3 : Nat) (Option.some Jvm.ClassFile.FieldType.int)).before a0 Z = true := hw _ (List.mem_of_getElem? (i := 82) rfl)
theorem tw_83 {a0 : Array Value} {Z : State} (hw : ∀ d ∈ tables_1, d.before a0 Z = true) : (Jvm.Cond.methodLink "com/example/table_to_topic/tabletotopic/TableName" (51 : Nat) ({ cls := "com/example/table_to_topic/tabletotopic/TableName", name := "isAllowed", desc := "(CZ)Z" } : Jvm.MethodName)).before a0 Z = true := hw _ (List.mem_of_getElem? (i := 83) rfl)
theorem tw_84 {a0 : Array Value} {Z : State} (hw : ∀ d ∈ tables_1, d.before a0 Z = true) : (Jvm.Cond.static ({ cls := "com/example/table_to_topic/tabletotopic/TableName", name := "isAllowed", desc := "(CZ)Z" } : Jvm.MethodName)).before a0 Z = true := hw _ (List.mem_of_getElem? (i := 84) rfl)
theorem tw_85 {a0 : Array Value} {Z : State} (hw : ∀ d ∈ tables_1, d.before a0 Z = true) : (Jvm.Cond.code ({ cls := "com/example/table_to_topic/tabletotopic/TableName", name := "isAllowed", desc := "(CZ)Z" } : Jvm.MethodName) prog_15_method_4_code (4 : Nat) (Option.some Jvm.ClassFile.FieldType.boolean)).before a0 Z = true := hw _ (List.mem_of_getElem? (i := 85) rfl)
theorem tw_86 {a0 : Array Value} {Z : State} (hw : ∀ d ∈ tables_1, d.before a0 Z = true) : (Jvm.Cond.classLink "com/example/table_to_topic/tabletotopic/TableName" (8 : Nat) "com/example/table_to_topic/tabletotopic/TableName").before a0 Z = true := hw _ (List.mem_of_getElem? (i := 86) rfl)
theorem tw_87 {a0 : Array Value} {Z : State} (hw : ∀ d ∈ tables_1, d.before a0 Z = true) : (Jvm.Cond.instantiable "com/example/table_to_topic/tabletotopic/TableName" (1 : Nat)).before a0 Z = true := hw _ (List.mem_of_getElem? (i := 87) rfl)
theorem tw_88 {a0 : Array Value} {Z : State} (hw : ∀ d ∈ tables_1, d.before a0 Z = true) : (Jvm.Cond.methodLink "com/example/table_to_topic/tabletotopic/TableName" (66 : Nat) ({ cls := "com/example/table_to_topic/tabletotopic/TableName", name := "<init>", desc := "(Ljava/lang/String;)V" } : Jvm.MethodName)).before a0 Z = true := hw _ (List.mem_of_getElem? (i := 88) rfl)
theorem tw_89 {a0 : Array Value} {Z : State} (hw : ∀ d ∈ tables_1, d.before a0 Z = true) : (Jvm.Cond.instanceMethod ({ cls := "com/example/table_to_topic/tabletotopic/TableName", name := "<init>", desc := "(Ljava/lang/String;)V" } : Jvm.MethodName)).before a0 Z = true := hw _ (List.mem_of_getElem? (i := 89) rfl)
theorem tw_90 {a0 : Array Value} {Z : State} (hw : ∀ d ∈ tables_1, d.before a0 Z = true) : (Jvm.Cond.code ({ cls := "com/example/table_to_topic/tabletotopic/TableName", name := "<init>", desc := "(Ljava/lang/String;)V" } : Jvm.MethodName) prog_15_method_1_code (2 : Nat) (Option.none : Option Jvm.ClassFile.FieldType)).before a0 Z = true := hw _ (List.mem_of_getElem? (i := 90) rfl)
theorem tw_91 {a0 : Array Value} {Z : State} (hw : ∀ d ∈ tables_1, d.before a0 Z = true) : (Jvm.Cond.methodLink "com/example/table_to_topic/tabletotopic/TableName" (1 : Nat) ({ cls := "java/lang/Object", name := "<init>", desc := "()V" } : Jvm.MethodName)).before a0 Z = true := hw _ (List.mem_of_getElem? (i := 91) rfl)
theorem tw_92 {a0 : Array Value} {Z : State} (hw : ∀ d ∈ tables_1, d.before a0 Z = true) : (Jvm.Cond.fieldLink "com/example/table_to_topic/tabletotopic/TableName" (7 : Nat) "com/example/table_to_topic/tabletotopic/TableName" "name" "Ljava/lang/String;").before a0 Z = true := hw _ (List.mem_of_getElem? (i := 92) rfl)
theorem tw_93 {a0 : Array Value} {Z : State} (hw : ∀ d ∈ tables_1, d.before a0 Z = true) : (Jvm.Cond.laysFinal "com/example/table_to_topic/tabletotopic/TableName" "com/example/table_to_topic/tabletotopic/TableName" "name" "Ljava/lang/String;").before a0 Z = true := hw _ (List.mem_of_getElem? (i := 93) rfl)
theorem tw_94 {a0 : Array Value} {Z : State} (hw : ∀ d ∈ tables_1, d.before a0 Z = true) : (Jvm.Cond.methodLink "com/example/table_to_topic/tabletotopic/TableNameOfPinLaw" (27 : Nat) ({ cls := "com/example/table_to_topic/tabletotopic/TableName", name := "toString", desc := "()Ljava/lang/String;" } : Jvm.MethodName)).before a0 Z = true := hw _ (List.mem_of_getElem? (i := 94) rfl)
theorem tw_95 {a0 : Array Value} {Z : State} (hw : ∀ d ∈ tables_1, d.before a0 Z = true) : (Jvm.Cond.declares ({ cls := "com/example/table_to_topic/tabletotopic/TableName", name := "toString", desc := "()Ljava/lang/String;" } : Jvm.MethodName)).before a0 Z = true := hw _ (List.mem_of_getElem? (i := 95) rfl)
theorem tw_96 {a0 : Array Value} {Z : State} (hw : ∀ d ∈ tables_1, d.before a0 Z = true) : (Jvm.Cond.instanceMethod ({ cls := "com/example/table_to_topic/tabletotopic/TableName", name := "toString", desc := "()Ljava/lang/String;" } : Jvm.MethodName)).before a0 Z = true := hw _ (List.mem_of_getElem? (i := 96) rfl)
theorem tw_97 {a0 : Array Value} {Z : State} (hw : ∀ d ∈ tables_1, d.before a0 Z = true) : (Jvm.Cond.selects "com/example/table_to_topic/tabletotopic/TableName" ({ cls := "com/example/table_to_topic/tabletotopic/TableName", name := "toString", desc := "()Ljava/lang/String;" } : Jvm.MethodName) ({ cls := "com/example/table_to_topic/tabletotopic/TableName", name := "toString", desc := "()Ljava/lang/String;" } : Jvm.MethodName)).before a0 Z = true := hw _ (List.mem_of_getElem? (i := 97) rfl)
theorem tw_98 {a0 : Array Value} {Z : State} (hw : ∀ d ∈ tables_1, d.before a0 Z = true) : (Jvm.Cond.code ({ cls := "com/example/table_to_topic/tabletotopic/TableName", name := "toString", desc := "()Ljava/lang/String;" } : Jvm.MethodName) prog_15_method_3_code (1 : Nat) (Option.some (Jvm.ClassFile.FieldType.object "java/lang/String"))).before a0 Z = true := hw _ (List.mem_of_getElem? (i := 98) rfl)
theorem tw_99 {a0 : Array Value} {Z : State} (hw : ∀ d ∈ tables_1, d.before a0 Z = true) : (Jvm.Cond.methodLink "com/example/table_to_topic/tabletotopic/TableNameOfPinLaw" (31 : Nat) ({ cls := "java/lang/String", name := "equals", desc := "(Ljava/lang/Object;)Z" } : Jvm.MethodName)).before a0 Z = true := hw _ (List.mem_of_getElem? (i := 99) rfl)
theorem tw_100 {a0 : Array Value} {Z : State} (hw : ∀ d ∈ tables_1, d.before a0 Z = true) : (Jvm.Cond.declares ({ cls := "java/lang/String", name := "equals", desc := "(Ljava/lang/Object;)Z" } : Jvm.MethodName)).before a0 Z = true := hw _ (List.mem_of_getElem? (i := 100) rfl)
theorem tw_101 {a0 : Array Value} {Z : State} (hw : ∀ d ∈ tables_1, d.before a0 Z = true) : (Jvm.Cond.instanceMethod ({ cls := "java/lang/String", name := "equals", desc := "(Ljava/lang/Object;)Z" } : Jvm.MethodName)).before a0 Z = true := hw _ (List.mem_of_getElem? (i := 101) rfl)
theorem tw_102 {a0 : Array Value} {Z : State} (hw : ∀ d ∈ tables_1, d.before a0 Z = true) : (Jvm.Cond.selects "java/lang/String" ({ cls := "java/lang/String", name := "equals", desc := "(Ljava/lang/Object;)Z" } : Jvm.MethodName) ({ cls := "java/lang/String", name := "equals", desc := "(Ljava/lang/Object;)Z" } : Jvm.MethodName)).before a0 Z = true := hw _ (List.mem_of_getElem? (i := 102) rfl)
theorem tw_103 {a0 : Array Value} {Z : State} (hw : ∀ d ∈ tables_1, d.before a0 Z = true) : (Jvm.Cond.code ({ cls := "java/lang/String", name := "equals", desc := "(Ljava/lang/Object;)Z" } : Jvm.MethodName) jdk_42_method_66_code (3 : Nat) (Option.some Jvm.ClassFile.FieldType.boolean)).before a0 Z = true := hw _ (List.mem_of_getElem? (i := 103) rfl)
theorem pd_0 : parseMethodDescriptor "([CI[BII)I" = some ⟨[(.array .char), .int, (.array .byte), .int, .int], some .int⟩ := by decide +kernel
theorem pd_1 : parseMethodDescriptor "([CII)[B" = some ⟨[(.array .char), .int, .int], some (.array .byte)⟩ := by decide +kernel
theorem pd_2 : parseMethodDescriptor "([BI)B" = some ⟨[(.array .byte), .int], some .byte⟩ := by decide +kernel
theorem pd_3 : parseMethodDescriptor "([CIILjava/lang/Void;)V" = some ⟨[(.array .char), .int, .int, (.object "java/lang/Void")], none⟩ := by decide +kernel
theorem pd_4 : parseMethodDescriptor "()B" = some ⟨[], some .byte⟩ := by decide +kernel
theorem pd_5 : parseMethodDescriptor "(IILjava/util/function/BiFunction;)I" = some ⟨[.int, .int, (.object "java/util/function/BiFunction")], some .int⟩ := by decide +kernel
theorem pd_6 : parseMethodDescriptor "(II)V" = some ⟨[.int, .int], none⟩ := by decide +kernel
theorem pd_7 : parseMethodDescriptor "()Z" = some ⟨[], some .boolean⟩ := by decide +kernel
theorem pd_8 : parseMethodDescriptor "([BI)C" = some ⟨[(.array .byte), .int], some .char⟩ := by decide +kernel
theorem pd_9 : parseMethodDescriptor "(Ljava/lang/Object;Ljava/lang/String;)Ljava/lang/Object;" = some ⟨[(.object "java/lang/Object"), (.object "java/lang/String")], some (.object "java/lang/Object")⟩ := by decide +kernel
theorem pd_10 : parseMethodDescriptor "()I" = some ⟨[], some .int⟩ := by decide +kernel
theorem pd_11 : parseMethodDescriptor "(Ljava/lang/String;)V" = some ⟨[(.object "java/lang/String")], none⟩ := by decide +kernel
theorem pd_12 : parseMethodDescriptor "(I)C" = some ⟨[.int], some .char⟩ := by decide +kernel
theorem pd_13 : parseMethodDescriptor "(CZ)Z" = some ⟨[.char, .boolean], some .boolean⟩ := by decide +kernel
theorem pd_14 : parseMethodDescriptor "(IZ)C" = some ⟨[.int, .boolean], some .char⟩ := by decide +kernel
theorem pd_15 : parseMethodDescriptor "([C)V" = some ⟨[(.array .char)], none⟩ := by decide +kernel
theorem pd_16 : parseMethodDescriptor "(Ljava/lang/String;)Lcom/example/table_to_topic/tabletotopic/TableName;" = some ⟨[(.object "java/lang/String")], some (.object "com/example/table_to_topic/tabletotopic/TableName")⟩ := by decide +kernel
theorem pd_17 : parseMethodDescriptor "()Ljava/lang/String;" = some ⟨[], some (.object "java/lang/String")⟩ := by decide +kernel
theorem pd_18 : parseMethodDescriptor "(Ljava/lang/Object;)Z" = some ⟨[(.object "java/lang/Object")], some .boolean⟩ := by decide +kernel
theorem own_met_1_0 {K : own_Cx} {M : own_Mi} {Q : own_Q} {sf : List Addr} {h : Heap} {v0 : Value} (hpn : plainName M.y.cls = true) (hm : M.mx = 1) (c0 : v0.category = 1) (k : own_WP K M Q 0 [.val v0] [] sf h 0 0) : own_Met K M #[v0] sf h Q := own_met hpn (fun m => by rw [hm]; simp [entryFrame, mkF, argsToLocals, c0, List.replicate, Array.replicate]) k
theorem own_met_1_3 {K : own_Cx} {M : own_Mi} {Q : own_Q} {sf : List Addr} {h : Heap} {v0 : Value} (hpn : plainName M.y.cls = true) (hm : M.mx = 4) (c0 : v0.category = 1) (k : own_WP K M Q 0 [.val v0, .unset, .unset, .unset] [] sf h 0 0) : own_Met K M #[v0] sf h Q := own_met hpn (fun m => by rw [hm]; simp [entryFrame, mkF, argsToLocals, c0, List.replicate, Array.replicate]) k
theorem own_met_2_0 {K : own_Cx} {M : own_Mi} {Q : own_Q} {sf : List Addr} {h : Heap} {v0 v1 : Value} (hpn : plainName M.y.cls = true) (hm : M.mx = 2) (c0 : v0.category = 1) (c1 : v1.category = 1) (k : own_WP K M Q 0 [.val v0, .val v1] [] sf h 0 0) : own_Met K M #[v0, v1] sf h Q := own_met hpn (fun m => by rw [hm]; simp [entryFrame, mkF, argsToLocals, c0, c1, List.replicate, Array.replicate]) k
theorem own_met_2_1 {K : own_Cx} {M : own_Mi} {Q : own_Q} {sf : List Addr} {h : Heap} {v0 v1 : Value} (hpn : plainName M.y.cls = true) (hm : M.mx = 3) (c0 : v0.category = 1) (c1 : v1.category = 1) (k : own_WP K M Q 0 [.val v0, .val v1, .unset] [] sf h 0 0) : own_Met K M #[v0, v1] sf h Q := own_met hpn (fun m => by rw [hm]; simp [entryFrame, mkF, argsToLocals, c0, c1, List.replicate, Array.replicate]) k
theorem own_met_2_2 {K : own_Cx} {M : own_Mi} {Q : own_Q} {sf : List Addr} {h : Heap} {v0 v1 : Value} (hpn : plainName M.y.cls = true) (hm : M.mx = 4) (c0 : v0.category = 1) (c1 : v1.category = 1) (k : own_WP K M Q 0 [.val v0, .val v1, .unset, .unset] [] sf h 0 0) : own_Met K M #[v0, v1] sf h Q := own_met hpn (fun m => by rw [hm]; simp [entryFrame, mkF, argsToLocals, c0, c1, List.replicate, Array.replicate]) k
theorem own_met_3_0 {K : own_Cx} {M : own_Mi} {Q : own_Q} {sf : List Addr} {h : Heap} {v0 v1 v2 : Value} (hpn : plainName M.y.cls = true) (hm : M.mx = 3) (c0 : v0.category = 1) (c1 : v1.category = 1) (c2 : v2.category = 1) (k : own_WP K M Q 0 [.val v0, .val v1, .val v2] [] sf h 0 0) : own_Met K M #[v0, v1, v2] sf h Q := own_met hpn (fun m => by rw [hm]; simp [entryFrame, mkF, argsToLocals, c0, c1, c2, List.replicate, Array.replicate]) k
theorem own_met_3_3 {K : own_Cx} {M : own_Mi} {Q : own_Q} {sf : List Addr} {h : Heap} {v0 v1 v2 : Value} (hpn : plainName M.y.cls = true) (hm : M.mx = 6) (c0 : v0.category = 1) (c1 : v1.category = 1) (c2 : v2.category = 1) (k : own_WP K M Q 0 [.val v0, .val v1, .val v2, .unset, .unset, .unset] [] sf h 0 0) : own_Met K M #[v0, v1, v2] sf h Q := own_met hpn (fun m => by rw [hm]; simp [entryFrame, mkF, argsToLocals, c0, c1, c2, List.replicate, Array.replicate]) k
theorem own_met_5_1 {K : own_Cx} {M : own_Mi} {Q : own_Q} {sf : List Addr} {h : Heap} {v0 v1 v2 v3 v4 : Value} (hpn : plainName M.y.cls = true) (hm : M.mx = 6) (c0 : v0.category = 1) (c1 : v1.category = 1) (c2 : v2.category = 1) (c3 : v3.category = 1) (c4 : v4.category = 1) (k : own_WP K M Q 0 [.val v0, .val v1, .val v2, .val v3, .val v4, .unset] [] sf h 0 0) : own_Met K M #[v0, v1, v2, v3, v4] sf h Q := own_met hpn (fun m => by rw [hm]; simp [entryFrame, mkF, argsToLocals, c0, c1, c2, c3, c4, List.replicate, Array.replicate]) k
theorem own_met_5_2 {K : own_Cx} {M : own_Mi} {Q : own_Q} {sf : List Addr} {h : Heap} {v0 v1 v2 v3 v4 : Value} (hpn : plainName M.y.cls = true) (hm : M.mx = 7) (c0 : v0.category = 1) (c1 : v1.category = 1) (c2 : v2.category = 1) (c3 : v3.category = 1) (c4 : v4.category = 1) (k : own_WP K M Q 0 [.val v0, .val v1, .val v2, .val v3, .val v4, .unset, .unset] [] sf h 0 0) : own_Met K M #[v0, v1, v2, v3, v4] sf h Q := own_met hpn (fun m => by rw [hm]; simp [entryFrame, mkF, argsToLocals, c0, c1, c2, c3, c4, List.replicate, Array.replicate]) k
theorem own_met_5_7 {K : own_Cx} {M : own_Mi} {Q : own_Q} {sf : List Addr} {h : Heap} {v0 v1 v2 v3 v4 : Value} (hpn : plainName M.y.cls = true) (hm : M.mx = 12) (c0 : v0.category = 1) (c1 : v1.category = 1) (c2 : v2.category = 1) (c3 : v3.category = 1) (c4 : v4.category = 1) (k : own_WP K M Q 0 [.val v0, .val v1, .val v2, .val v3, .val v4, .unset, .unset, .unset, .unset, .unset, .unset, .unset] [] sf h 0 0) : own_Met K M #[v0, v1, v2, v3, v4] sf h Q := own_met hpn (fun m => by rw [hm]; simp [entryFrame, mkF, argsToLocals, c0, c1, c2, c3, c4, List.replicate, Array.replicate]) k
/-! STRINGS: chars as ints of 0 to 65535; what a String's bytes spell -/
abbrev own_Chs (cs : List Int32) : Prop := ∀ c ∈ cs, 0 ≤ c.toInt ∧ c.toInt < 65536
def own_lat (cs : List Int32) : Bool := cs.all fun c => decide (c.toInt < 256)
def own_bt (c : Int32) : Int32 := c.toInt8.toInt32
def own_hb (c : Int32) : Int32 := (c >>> ((8 : Int32) &&& 31)).toInt8.toInt32
def own_two (cs : List Int32) : List Int32 := cs.flatMap fun c => [own_bt c, own_hb c]
def own_enc (cs : List Int32) : List Int32 := if own_lat cs then cs.map own_bt else own_two cs
def own_cod (cs : List Int32) : Int32 := if own_lat cs then 0 else 1
abbrev own_ints (xs : List Int32) : List Value := xs.map Value.int
def own_Str (Z : State) (h : Heap) (a : Addr) (cs : List Int32) : Prop := Exa Z h a "java/lang/String" ∧ own_Chs cs ∧ cs.length < 2 ^ 30 ∧ ∃ b : Addr, Fld Z h a "java/lang/String" "value" "[B" (.ref b) ∧ Fld Z h a "java/lang/String" "coder" "B" (.int (own_cod cs)) ∧ own_Ary Z h b .byte (own_ints (own_enc cs))
theorem own_Str.ext {Z : State} {h h' : Heap} {a : Addr} {cs : List Int32} (F : own_Str Z h a cs) (E : Ext h h') : own_Str Z h' a cs := by
  obtain ⟨h1, h2, h3, b, h4, h5, h6⟩ := F
  exact ⟨h1.ext E, h2, h3, b, h4.ext E, h5.ext E, h6.ext E⟩
theorem own_Str.keepO {Z : State} {h h' : Heap} {a t : Addr} {cs : List Int32} {C : String} {kk : Nat} {a0 : Array Value} (F : own_Str Z h a cs) (k : Keep h h' [t]) (E : Exa Z h t C) (hC : C ≠ "java/lang/String") (wi : (Jvm.Cond.instantiable C kk).before a0 Z = true) : own_Str Z h' a cs := by
  obtain ⟨h1, h2, h3, b, h4, h5, h6⟩ := F
  have n1 : a ∉ [t] := ninS (ne_exa h1 E (Ne.symm hC)) nin0
  have n2 : b ∉ [t] := ninS (fun q => by obtain ⟨c, A, -⟩ := h6; exact ne_arr E wi A q.symm) nin0
  exact ⟨h1.keep k, h2, h3, b, h4.keep k n1, h5.keep k n1, h6.keep k n2⟩
theorem own_Str.lt {Z : State} {h : Heap} {a : Addr} {cs : List Int32} (F : own_Str Z h a cs) : a < h.size := F.1.lt
theorem own_ext_keep {h0 h h' : Heap} {ws : List Addr} (E : Ext h0 h) (k : Keep h h' ws) (q : ∀ x ∈ ws, h0.size ≤ x) : Ext h0 h' :=
  ⟨Nat.le_trans E.1 k.1, fun x c z => k.2.1 x c (E.2 x c z) fun m => by
    have := q x m
    have := (Array.getElem?_eq_some_iff.mp z).1
    omega⟩
theorem own_lit (n : Nat) (q : n < 2 ^ 31) : (n.toInt32).toInt = n := Int32.toInt_ofNat_small q
theorem own_add {x y : Int32} {a b : Int} (hx : x.toInt = a) (hy : y.toInt = b) (h1 : -2147483648 ≤ a + b) (h2 : a + b < 2147483648) : (x + y).toInt = a + b := by
  have := c_iadd x y
  have := rng32 (x + y)
  omega
theorem own_sub {x y : Int32} {a b : Int} (hx : x.toInt = a) (hy : y.toInt = b) (h1 : -2147483648 ≤ a - b) (h2 : a - b < 2147483648) : (x - y).toInt = a - b := by
  have := c_isub x y
  have := rng32 (x - y)
  omega
theorem own_setmid {α : Type} (L : List α) (z v : α) (k : Nat) : (L ++ List.replicate (k + 1) z).set L.length v = (L ++ [v]) ++ List.replicate k z := by
  simp [List.replicate_succ]
theorem own_bt_nar (c : Int32) : nar .byte (c.toInt8.toInt32) = own_bt c := by
  show (c.toInt8.toInt32).toInt8.toInt32 = c.toInt8.toInt32
  simp
theorem own_lat_get {cs : List Int32} (q : own_lat cs = true) {i : Nat} {c : Int32} (hc : cs[i]? = some c) : c.toInt < 256 := by
  have := List.all_eq_true.mp q c (List.mem_of_getElem? hc)
  simpa using this
theorem own_lat_snoc {cs : List Int32} {i : Nat} {c : Int32} (hc : cs[i]? = some c) (q : own_lat (cs.take i) = true) (hl : c.toInt < 256) : own_lat (cs.take (i + 1)) = true := by
  have e : cs.take (i + 1) = cs.take i ++ [c] := by rw [List.take_add_one, hc]; rfl
  rw [e]
  simp only [own_lat, List.all_append, Bool.and_eq_true] at q ⊢
  exact ⟨q, by simp [hl]⟩
theorem own_lat_no {cs : List Int32} {i : Nat} {c : Int32} (hc : cs[i]? = some c) (hl : ¬ c.toInt < 256) : own_lat cs = false := by
  cases q : own_lat cs
  · rfl
  · exact absurd (own_lat_get q hc) hl
theorem own_cod_byte (cs : List Int32) : narrow .byte (.int (own_cod cs)) = .int (own_cod cs) ∧ fits .byte (.int (own_cod cs)) = true := by
  unfold own_cod; split <;> exact ⟨rfl, rfl⟩
theorem own_enc_lat {cs : List Int32} (q : own_lat cs = true) : own_enc cs = cs.map own_bt ∧ own_cod cs = 0 := by simp [own_enc, own_cod, q]
theorem own_enc_utf {cs : List Int32} (q : own_lat cs = false) : own_enc cs = own_two cs ∧ own_cod cs = 1 := by simp [own_enc, own_cod, q]
theorem own_two_len (cs : List Int32) : (own_two cs).length = 2 * cs.length := by
  induction cs with
  | nil => rfl
  | cons c r ih => simp [own_two] at ih ⊢; omega
theorem own_ushr31 {x : Int32} (q : x.toInt < 0) : XT.ushr x 31 = 1 := by
  apply Int32.toInt_inj.mp
  have := c_iushr x 31 31 (by decide) (by decide)
  have r := rng32 x
  have e : (XT.ushr x 31).toInt = (x.toInt % 4294967296) / (2 ^ 31 : Nat) := this
  rw [e]
  have : (1 : Int32).toInt = 1 := rfl
  omega
theorem own_shr0 (x : Int32) : x >>> ((0 : Int32) &&& 31) = x := by
  apply Int32.toInt_inj.mp
  have := c_ishr x 0 0 (by decide)
  rw [this]; simp
theorem own_i2c_id {x : Int32} (h0 : 0 ≤ x.toInt) (h1 : x.toInt < 65536) : x.toUInt32.toUInt16.toUInt32.toInt32 = x := by
  apply Int32.toInt_inj.mp
  have := c_i2c x
  omega
theorem d_cp5_0 : decode jdk_52_method_21_code 0 = .ok (.iconst 0, 1) := by decide +kernel
theorem d_cp5_1 : decode jdk_52_method_21_code 1 = .ok (.istore 5, 2) := by decide +kernel
theorem d_cp5_3 : decode jdk_52_method_21_code 3 = .ok (.iload 5, 2) := by decide +kernel
theorem d_cp5_5 : decode jdk_52_method_21_code 5 = .ok (.iload 4, 2) := by decide +kernel
theorem d_cp5_7 : decode jdk_52_method_21_code 7 = .ok (.if_icmp .ge 37, 3) := by decide +kernel
theorem d_cp5_10 : decode jdk_52_method_21_code 10 = .ok (.aload_n 0, 1) := by decide +kernel
theorem d_cp5_11 : decode jdk_52_method_21_code 11 = .ok (.iload_n 1, 1) := by decide +kernel
theorem d_cp5_12 : decode jdk_52_method_21_code 12 = .ok (.caload, 1) := by decide +kernel
theorem d_cp5_13 : decode jdk_52_method_21_code 13 = .ok (.istore 6, 2) := by decide +kernel
theorem d_cp5_15 : decode jdk_52_method_21_code 15 = .ok (.iload 6, 2) := by decide +kernel
theorem d_cp5_17 : decode jdk_52_method_21_code 17 = .ok (.sipush 255, 3) := by decide +kernel
theorem d_cp5_20 : decode jdk_52_method_21_code 20 = .ok (.if_icmp .le 6, 3) := by decide +kernel
theorem d_cp5_23 : decode jdk_52_method_21_code 23 = .ok (.iload 5, 2) := by decide +kernel
theorem d_cp5_25 : decode jdk_52_method_21_code 25 = .ok (.ireturn, 1) := by decide +kernel
theorem d_cp5_26 : decode jdk_52_method_21_code 26 = .ok (.aload_n 2, 1) := by decide +kernel
theorem d_cp5_27 : decode jdk_52_method_21_code 27 = .ok (.iload_n 3, 1) := by decide +kernel
theorem d_cp5_28 : decode jdk_52_method_21_code 28 = .ok (.iload 6, 2) := by decide +kernel
theorem d_cp5_30 : decode jdk_52_method_21_code 30 = .ok (.i2b, 1) := by decide +kernel
theorem d_cp5_31 : decode jdk_52_method_21_code 31 = .ok (.bastore, 1) := by decide +kernel
theorem d_cp5_32 : decode jdk_52_method_21_code 32 = .ok (.iinc 1 1, 3) := by decide +kernel
theorem d_cp5_35 : decode jdk_52_method_21_code 35 = .ok (.iinc 3 1, 3) := by decide +kernel
theorem d_cp5_38 : decode jdk_52_method_21_code 38 = .ok (.iinc 5 1, 3) := by decide +kernel
theorem d_cp5_41 : decode jdk_52_method_21_code 41 = .ok (.goto (-38), 3) := by decide +kernel
theorem d_cp5_44 : decode jdk_52_method_21_code 44 = .ok (.iload 4, 2) := by decide +kernel
theorem d_cp5_46 : decode jdk_52_method_21_code 46 = .ok (.ireturn, 1) := by decide +kernel
abbrev M_cp5 : own_Mi := ((⟨"java/lang/StringUTF16", "compress", "([CI[BII)I"⟩ : MethodName), jdk_52_method_21_code, 7, (Option.some FieldType.int), ({ frames := 0, cells := 0, slots := 0, locals := 0 } : Room))
theorem pn_cp5 : plainName "java/lang/StringUTF16" = true := by first | (simp [plainName, overriddenIn]; done) | decide +kernel
def Q_cp5 (K : own_Cx) (b : Addr) (n : Int32) (cs : List Int32) (h : Heap) : own_Q := own_ret fun w h' _ => ∃ r : Int32, w = .int r ∧ Keep h h' [b] ∧ ((own_lat cs = true ∧ r = n ∧ own_Ary K.Z h' b .byte (own_ints (cs.map own_bt))) ∨ (own_lat cs = false ∧ ∃ (i : Nat) (c : Int32), r.toInt = i ∧ cs[i]? = some c ∧ 256 ≤ c.toInt))
set_option maxRecDepth 65536 in
set_option maxHeartbeats 40000000 in
theorem c_cp5 (K : own_Cx) (a0 : Array Value) (hw : ∀ d ∈ tables_1, d.before a0 K.Z = true) (a b : Addr) (n : Int32) (cs : List Int32) (h : Heap) (hn : n.toInt = cs.length) (hcs : own_Chs cs) (A : own_Ary K.Z h a .char (own_ints cs)) (Bq : own_Ary K.Z h b .byte (List.replicate cs.length (.int 0))) (hab : a ≠ b) :
    own_Met K M_cp5 #[.ref a, .int 0, .ref b, .int 0, .int n] [b] h (Q_cp5 K b n cs h) := by
  have hlen := rng32 n
  refine own_met_5_2 (M := M_cp5) pn_cp5 rfl (by first | rfl | exact own_cat (by assumption)) (by first | rfl | exact own_cat (by assumption)) (by first | rfl | exact own_cat (by assumption)) (by first | rfl | exact own_cat (by assumption)) (by first | rfl | exact own_cat (by assumption)) ?_
  refine own_iconst (v := (0 : Int32)) (pc' := 1) rfl d_cp5_0 rfl ?_
  refine own_istore_5 (pc' := 3) rfl d_cp5_1 (by first | exact One.u | exact One.val rfl | assumption | exact One.val (by assumption)) ?_
  suffices key : ∀ (k i : Nat) (j : Int32) (h1 : Heap) (o : Slot), i + k = cs.length → j.toInt = i → One o → Keep h h1 [b] → own_lat (cs.take i) = true → own_Ary K.Z h1 b .byte (own_ints ((cs.take i).map own_bt) ++ List.replicate k (.int 0)) → own_WP K M_cp5 (Q_cp5 K b n cs h) 3 [.val (.ref a), .val (.int j), .val (.ref b), .val (.int j), .val (.int n), .val (.int j), o] [] [b] h1 0 0 from
    key cs.length 0 0 h .unset (by simp) rfl One.u (Keep.refl _ _) (by simp [own_lat]) (by simpa using Bq)
  intro k
  induction k with
  | zero =>
    intro i j h1 o hik hj ho hk hl hA
    refine own_iload (pc' := 5) rfl d_cp5_3 rfl ?_
    refine own_iload (pc' := 7) rfl d_cp5_5 rfl ?_
    refine own_icmpge (pcT := 44) (pcF := 10) d_cp5_7 (by decide) (by decide) rfl (fun q => ?_) (fun q => ?_)
    · skip
      refine own_iload (pc' := 46) rfl d_cp5_44 rfl ?_
      refine own_ireturn rfl d_cp5_46 rfl rfl ?_
      have e : cs.take i = cs := List.take_of_length_le (by omega)
      rw [e] at hl hA
      exact ⟨n, rfl, hk, Or.inl ⟨hl, rfl, by simpa using hA⟩⟩
    · rw [Int32.lt_iff_toInt_lt] at q
      omega
  | succ k ih =>
    intro i j h1 o hik hj ho hk hl hA
    have hi : i < cs.length := by omega
    obtain ⟨c, hc⟩ : ∃ c, cs[i]? = some c := ⟨cs[i], by simp [hi]⟩
    have hcr := hcs c (List.mem_of_getElem? hc)
    refine own_iload (pc' := 5) rfl d_cp5_3 rfl ?_
    refine own_iload (pc' := 7) rfl d_cp5_5 rfl ?_
    refine own_icmpge (pcT := 44) (pcF := 10) d_cp5_7 (by decide) (by decide) rfl (fun q => ?_) (fun q => ?_)
    · exact absurd (by rw [Int32.lt_iff_toInt_lt]; omega) q
    · skip
      refine own_aload_n (pc' := 11) rfl d_cp5_10 rfl (by first | rfl | assumption) ?_
      refine own_iload_n (pc' := 12) rfl d_cp5_11 rfl ?_
      refine own_caload (pc' := 13) rfl d_cp5_12 (A.keep hk (ninS hab nin0)) (i := i) hj (by first | exact own_ints_get hc | exact own_ints_getM hc) ?_
      refine own_istore_6 (pc' := 15) rfl d_cp5_13 (by first | exact One.u | exact One.val rfl | assumption | exact One.val (by assumption)) ?_
      refine own_iload (pc' := 17) rfl d_cp5_15 rfl ?_
      refine own_sipush (v := (255 : Int32)) (pc' := 20) rfl d_cp5_17 rfl ?_
      refine own_icmple (pcT := 26) (pcF := 23) d_cp5_20 (by decide) (by decide) rfl (fun q2 => ?_) (fun q2 => ?_)
      · have hc2 : c.toInt < 256 := by
          rw [Int32.lt_iff_toInt_lt] at q2
          have : (255 : Int32).toInt = 255 := rfl
          omega
        refine own_aload_n (pc' := 27) rfl d_cp5_26 rfl (by first | rfl | assumption) ?_
        refine own_iload_n (pc' := 28) rfl d_cp5_27 rfl ?_
        refine own_iload (pc' := 30) rfl d_cp5_28 rfl ?_
        refine own_i2b (pc' := 31) rfl d_cp5_30 ?_
        refine own_bastore (pc' := 32) rfl d_cp5_31 hA (i := i) hj (by simp; omega) (own_bt_nar c) (by simp) ?_
        intro h2 k2 hA2
        refine own_iinc_1 (z := (1 : Int32)) (pc' := 35) rfl d_cp5_32 rfl ?_
        refine own_iinc_3 (z := (1 : Int32)) (pc' := 38) rfl d_cp5_35 rfl ?_
        refine own_iinc_5 (z := (1 : Int32)) (pc' := 41) rfl d_cp5_38 rfl ?_
        refine own_goto (pc' := 3) d_cp5_41 (by decide) (by decide) ?_
        have e1 : i = (own_ints ((cs.take i).map own_bt)).length := by simp; omega
        have e2 : own_ints ((cs.take (i + 1)).map own_bt) = own_ints ((cs.take i).map own_bt) ++ [.int (own_bt c)] := by
          have e : cs.take (i + 1) = cs.take i ++ [c] := by rw [List.take_add_one, hc]; rfl
          rw [e]; simp [own_ints]
        refine ih (i + 1) (j + 1) h2 _ (by omega) (by rw [own_add hj (by rfl : (1 : Int32).toInt = 1)] <;> omega) (One.val rfl) (hk.trans k2 (fun x hx => Or.inl hx)) (own_lat_snoc hc hl hc2) ?_
        rw [e2, ← own_setmid, ← e1]
        exact hA2
      · skip
        refine own_iload (pc' := 25) rfl d_cp5_23 rfl ?_
        refine own_ireturn rfl d_cp5_25 rfl rfl ?_
        have hc2 : 256 ≤ c.toInt := by
          rw [Int32.lt_iff_toInt_lt] at q2
          have : (255 : Int32).toInt = 255 := rfl
          omega
        exact ⟨j, rfl, hk, Or.inr ⟨own_lat_no hc (by omega), i, c, hj, hc, hc2⟩⟩
theorem d_cfa_0 : decode jdk_52_method_15_code 0 = .ok (.iload_n 1, 1) := by decide +kernel
theorem d_cfa_1 : decode jdk_52_method_15_code 1 = .ok (.aload_n 0, 1) := by decide +kernel
theorem d_cfa_2 : decode jdk_52_method_15_code 2 = .ok (.arraylength, 1) := by decide +kernel
theorem d_cfa_3 : decode jdk_52_method_15_code 3 = .ok (.isub, 1) := by decide +kernel
theorem d_cfa_4 : decode jdk_52_method_15_code 4 = .ok (.bipush 31, 2) := by decide +kernel
theorem d_cfa_6 : decode jdk_52_method_15_code 6 = .ok (.iushr, 1) := by decide +kernel
theorem d_cfa_7 : decode jdk_52_method_15_code 7 = .ok (.i2b, 1) := by decide +kernel
theorem d_cfa_8 : decode jdk_52_method_15_code 8 = .ok (.ireturn, 1) := by decide +kernel
abbrev M_cfa : own_Mi := ((⟨"java/lang/StringUTF16", "coderFromArrayLen", "([BI)B"⟩ : MethodName), jdk_52_method_15_code, 2, (Option.some FieldType.byte), ({ frames := 0, cells := 0, slots := 0, locals := 0 } : Room))
theorem pn_cfa : plainName "java/lang/StringUTF16" = true := by first | (simp [plainName, overriddenIn]; done) | decide +kernel
set_option maxRecDepth 65536 in
set_option maxHeartbeats 40000000 in
theorem c_cfa (K : own_Cx) (a0 : Array Value) (hw : ∀ d ∈ tables_1, d.before a0 K.Z = true) (b : Addr) (n : Int32) (cs : List Int32) (h : Heap) (hn : n.toInt = cs.length) (hl : cs.length < 2 ^ 30) (hp : 0 < cs.length) (Bq : own_Ary K.Z h b .byte (own_ints (own_enc cs))) :
    own_Met K M_cfa #[.ref b, .int n] [] h (own_ret fun w h' _ => w = .int (own_cod cs) ∧ h' = h) := by
  cases ql : own_lat cs
  · have hz : ((2 * cs.length).toInt32).toInt = ((2 * cs.length : Nat) : Int) := own_lit _ (by omega)
    refine own_met_2_0 (M := M_cfa) pn_cfa rfl (by first | rfl | exact own_cat (by assumption)) (by first | rfl | exact own_cat (by assumption)) ?_
    refine own_iload_n (pc' := 1) rfl d_cfa_0 rfl ?_
    refine own_aload_n (pc' := 2) rfl d_cfa_1 rfl (by first | rfl | assumption) ?_
    refine own_arrlen (z := (2 * cs.length).toInt32) (pc' := 3) rfl d_cfa_2 Bq (by rw [hz]; simp [(own_enc_utf ql).1, own_two_len]) ?_
    refine own_isub (pc' := 4) rfl d_cfa_3 ?_
    refine own_bipush (v := (31 : Int32)) (pc' := 6) rfl d_cfa_4 rfl ?_
    refine own_iushr (pc' := 7) rfl d_cfa_6 ?_
    refine own_i2b (pc' := 8) rfl d_cfa_7 ?_
    have e : XT.ushr (n - (2 * cs.length).toInt32) 31 = 1 := own_ushr31 (by rw [own_sub hn hz] <;> omega)
    rw [e]
    refine own_ireturnN (t := .byte) rfl (by simp) (z' := 1) rfl d_cfa_8 rfl rfl ?_
    exact ⟨by rw [(own_enc_utf ql).2], rfl⟩
  · skip
    refine own_met_2_0 (M := M_cfa) pn_cfa rfl (by first | rfl | exact own_cat (by assumption)) (by first | rfl | exact own_cat (by assumption)) ?_
    refine own_iload_n (pc' := 1) rfl d_cfa_0 rfl ?_
    refine own_aload_n (pc' := 2) rfl d_cfa_1 rfl (by first | rfl | assumption) ?_
    refine own_arrlen (z := n) (pc' := 3) rfl d_cfa_2 Bq (by rw [hn]; simp [(own_enc_lat ql).1]) ?_
    refine own_isub (pc' := 4) rfl d_cfa_3 ?_
    refine own_bipush (v := (31 : Int32)) (pc' := 6) rfl d_cfa_4 rfl ?_
    refine own_iushr (pc' := 7) rfl d_cfa_6 ?_
    refine own_i2b (pc' := 8) rfl d_cfa_7 ?_
    have e : XT.ushr (n - n) 31 = 0 := by rw [Int32.sub_self]; decide
    rw [e]
    refine own_ireturnN (t := .byte) rfl (by simp) (z' := 0) rfl d_cfa_8 rfl rfl ?_
    exact ⟨by rw [(own_enc_lat ql).2], rfl⟩
theorem d_cp3_0 : decode jdk_52_method_16_code 0 = .ok (.iload_n 2, 1) := by decide +kernel
theorem d_cp3_1 : decode jdk_52_method_16_code 1 = .ok (.newarray .byte, 2) := by decide +kernel
theorem d_cp3_3 : decode jdk_52_method_16_code 3 = .ok (.astore_n 3, 1) := by decide +kernel
theorem d_cp3_4 : decode jdk_52_method_16_code 4 = .ok (.aload_n 0, 1) := by decide +kernel
theorem d_cp3_5 : decode jdk_52_method_16_code 5 = .ok (.iload_n 1, 1) := by decide +kernel
theorem d_cp3_6 : decode jdk_52_method_16_code 6 = .ok (.aload_n 3, 1) := by decide +kernel
theorem d_cp3_7 : decode jdk_52_method_16_code 7 = .ok (.iconst 0, 1) := by decide +kernel
theorem d_cp3_8 : decode jdk_52_method_16_code 8 = .ok (.iload_n 2, 1) := by decide +kernel
theorem d_cp3_9 : decode jdk_52_method_16_code 9 = .ok (.invokestatic 115, 3) := by decide +kernel
theorem d_cp3_12 : decode jdk_52_method_16_code 12 = .ok (.istore 4, 2) := by decide +kernel
theorem d_cp3_14 : decode jdk_52_method_16_code 14 = .ok (.iload 4, 2) := by decide +kernel
theorem d_cp3_16 : decode jdk_52_method_16_code 16 = .ok (.iload_n 2, 1) := by decide +kernel
theorem d_cp3_17 : decode jdk_52_method_16_code 17 = .ok (.if_icmp .eq 40, 3) := by decide +kernel
theorem d_cp3_57 : decode jdk_52_method_16_code 57 = .ok (.aload_n 3, 1) := by decide +kernel
theorem d_cp3_58 : decode jdk_52_method_16_code 58 = .ok (.areturn, 1) := by decide +kernel
abbrev M_cp3 : own_Mi := ((⟨"java/lang/StringUTF16", "compress", "([CII)[B"⟩ : MethodName), jdk_52_method_16_code, 6, (Option.some (FieldType.array FieldType.byte)), ({ frames := 1, cells := 1, slots := 4, locals := 24 } : Room))
theorem pn_cp3 : plainName "java/lang/StringUTF16" = true := by first | (simp [plainName, overriddenIn]; done) | decide +kernel
set_option maxRecDepth 65536 in
set_option maxHeartbeats 40000000 in
theorem c_cp3 (K : own_Cx) (a0 : Array Value) (hw : ∀ d ∈ tables_1, d.before a0 K.Z = true)
    (a : Addr) (n : Int32) (cs : List Int32) (h : Heap) (hn : n.toInt = cs.length) (hcap : cs.length ≤ 4) (hcs : own_Chs cs) (A : own_Ary K.Z h a .char (own_ints cs))
    (hl : own_lat cs = true)
    : own_Met K M_cp3 #[.ref a, .int 0, .int n] [] h (own_ret fun w h' _ => ∃ b : Addr, w = .ref b ∧ Ext h h' ∧ h.size ≤ b ∧ own_Ary K.Z h' b .byte (own_ints (own_enc cs))) := by
  refine own_met_3_3 (M := M_cp3) pn_cp3 rfl (by first | rfl | exact own_cat (by assumption)) (by first | rfl | exact own_cat (by assumption)) (by first | rfl | exact own_cat (by assumption)) ?_
  refine own_iload_n (pc' := 1) rfl d_cp3_0 rfl ?_
  refine own_newarray (pc' := 3) rfl d_cp3_1 (tw_24 hw) (N := cs.length) (cap := 4) hn hcap rfl rfl rfl ?_
  intro b h1 eb E1 B1
  have hab : a ≠ b := by show @Ne Nat a b; have : @LT.lt Nat _ _ _ := A.lt; omega
  refine own_astore_n3 (pc' := 4) rfl d_cp3_3 (by first | exact One.u | exact One.val rfl | assumption | exact One.val (by assumption)) (by first | rfl | assumption) ?_
  refine own_aload_n (pc' := 5) rfl d_cp3_4 rfl (by first | rfl | assumption) ?_
  refine own_iload_n (pc' := 6) rfl d_cp3_5 rfl ?_
  refine own_aload_n (pc' := 7) rfl d_cp3_6 rfl (by first | rfl | assumption) ?_
  refine own_iconst (v := (0 : Int32)) (pc' := 8) rfl d_cp3_7 rfl ?_
  refine own_iload_n (pc' := 9) rfl d_cp3_8 rfl ?_
  refine own_static5v (M' := M_cp5) d_cp3_9 (pc' := 12) rfl (tw_25 hw) (tw_26 hw) (tw_22 hw) (tw_27 hw) (by decide) rfl (own_lenOf pd_0 rfl) rfl rfl rfl rfl (c_cp5 K a0 hw a b n cs h1 hn hcs (A.ext E1) B1 hab) (by simp) ?_
  rintro w h2 xs ⟨r, rfl, k2, q⟩
  have E2 := own_ext_keep E1 k2 (by intro x hx; cases List.mem_singleton.mp hx; omega)
  refine own_istore_4 (pc' := 14) rfl d_cp3_12 (by first | exact One.u | exact One.val rfl | assumption | exact One.val (by assumption)) ?_
  refine own_iload (pc' := 16) rfl d_cp3_14 rfl ?_
  refine own_iload_n (pc' := 17) rfl d_cp3_16 rfl ?_
  refine own_icmpeq (pcT := 57) (pcF := 20) d_cp3_17 (by decide) (by decide) rfl (fun z => ?_) (fun z => ?_)
  · rcases q with ⟨q1, q2, q3⟩ | ⟨q1, i, c, q2, q3, q4⟩
    · skip
      refine own_aload_n (pc' := 58) rfl d_cp3_57 rfl (by first | rfl | assumption) ?_
      refine own_areturn rfl rfl (by first | rfl | assumption) d_cp3_58 rfl rfl ?_
      exact ⟨b, rfl, E2, by omega, by rw [(own_enc_lat q1).1]; exact q3⟩
    · have := (List.getElem?_eq_some_iff.mp q3).1
      rw [z] at q2
      omega
  · rcases q with ⟨q1, q2, q3⟩ | ⟨q1, i, c, q2, q3, q4⟩
    · exact absurd q2 z
    · rw [hl] at q1; cases q1
theorem d_si4_0 : decode jdk_42_method_149_code 0 = .ok (.aload_n 0, 1) := by decide +kernel
theorem d_si4_1 : decode jdk_42_method_149_code 1 = .ok (.invokespecial 1, 3) := by decide +kernel
theorem d_si4_4 : decode jdk_42_method_149_code 4 = .ok (.iload_n 3, 1) := by decide +kernel
theorem d_si4_5 : decode jdk_42_method_149_code 5 = .ok (.ifCond .ne 22, 3) := by decide +kernel
theorem d_si4_27 : decode jdk_42_method_149_code 27 = .ok (.getstatic 38, 3) := by decide +kernel
theorem d_si4_30 : decode jdk_42_method_149_code 30 = .ok (.ifCond .eq 28, 3) := by decide +kernel
theorem d_si4_33 : decode jdk_42_method_149_code 33 = .ok (.aload_n 1, 1) := by decide +kernel
theorem d_si4_34 : decode jdk_42_method_149_code 34 = .ok (.iload_n 2, 1) := by decide +kernel
theorem d_si4_35 : decode jdk_42_method_149_code 35 = .ok (.iload_n 3, 1) := by decide +kernel
theorem d_si4_36 : decode jdk_42_method_149_code 36 = .ok (.invokestatic 177, 3) := by decide +kernel
theorem d_si4_39 : decode jdk_42_method_149_code 39 = .ok (.astore 5, 2) := by decide +kernel
theorem d_si4_41 : decode jdk_42_method_149_code 41 = .ok (.aload_n 0, 1) := by decide +kernel
theorem d_si4_42 : decode jdk_42_method_149_code 42 = .ok (.aload 5, 2) := by decide +kernel
theorem d_si4_44 : decode jdk_42_method_149_code 44 = .ok (.iload_n 3, 1) := by decide +kernel
theorem d_si4_45 : decode jdk_42_method_149_code 45 = .ok (.invokestatic 47, 3) := by decide +kernel
theorem d_si4_48 : decode jdk_42_method_149_code 48 = .ok (.putfield 15, 3) := by decide +kernel
theorem d_si4_51 : decode jdk_42_method_149_code 51 = .ok (.aload_n 0, 1) := by decide +kernel
theorem d_si4_52 : decode jdk_42_method_149_code 52 = .ok (.aload 5, 2) := by decide +kernel
theorem d_si4_54 : decode jdk_42_method_149_code 54 = .ok (.putfield 9, 3) := by decide +kernel
theorem d_si4_57 : decode jdk_42_method_149_code 57 = .ok (.return_, 1) := by decide +kernel
abbrev M_si4 : own_Mi := ((⟨"java/lang/String", "<init>", "([CIILjava/lang/Void;)V"⟩ : MethodName), jdk_42_method_149_code, 6, (Option.none : Option FieldType), ({ frames := 2, cells := 1, slots := 4, locals := 42 } : Room))
theorem pn_si4 : plainName "java/lang/String" = true := by first | (simp [plainName, overriddenIn]; done) | decide +kernel
set_option maxRecDepth 65536 in
set_option maxHeartbeats 40000000 in
theorem c_si4 (K : own_Cx) (a0 : Array Value) (hw : ∀ d ∈ tables_1, d.before a0 K.Z = true)
    (x a : Addr) (n g : Int32) (cs : List Int32) (h : Heap) (hn : n.toInt = cs.length)
    (hp : 0 < cs.length)
    (hcap : cs.length ≤ 4) (hcs : own_Chs cs) (A : own_Ary K.Z h a .char (own_ints cs))
    (E : Exa K.Z h x "java/lang/String") (FV : Fld K.Z h x "java/lang/String" "value" "[B" .null) (FC : Fld K.Z h x "java/lang/String" "coder" "B" (.int 0)) (SC : Sta K.Z K.Z.heap "java/lang/String" "COMPACT_STRINGS" "Z" (.int g)) (hg : ¬ g = 0)
    (hl : own_lat cs = true)
    : own_Met K M_si4 #[.ref x, .ref a, .int 0, .int n, .null] [x] h (own_void fun h' _ => Keep h h' [x] ∧ own_Str K.Z h' x cs) := by
  refine own_met_5_1 (M := M_si4) pn_si4 rfl (by first | rfl | exact own_cat (by assumption)) (by first | rfl | exact own_cat (by assumption)) (by first | rfl | exact own_cat (by assumption)) (by first | rfl | exact own_cat (by assumption)) (by first | rfl | exact own_cat (by assumption)) ?_
  refine own_aload_n (pc' := 1) rfl d_si4_0 rfl (by first | rfl | assumption) ?_
  refine own_initO (pc' := 4) rfl d_si4_1 (tw_16 hw) (tw_17 hw) (tw_18 hw) rfl rfl rfl ?_
  refine own_iload_n (pc' := 5) rfl d_si4_4 rfl ?_
  refine own_ifne (pcT := 27) (pcF := 8) d_si4_5 (by decide) (by decide) rfl (fun z => ?_) (fun z => ?_)
  · skip
    refine own_getS (pc' := 30) rfl d_si4_27 (tw_19 hw) Via.refl (by assumption) ?_
    refine own_ifeq (pcT := 58) (pcF := 33) d_si4_30 (by decide) (by decide) rfl (fun z2 => ?_) (fun z2 => ?_)
    · exact absurd z2 hg
    · skip
      refine own_aload_n (pc' := 34) rfl d_si4_33 rfl (by first | rfl | assumption) ?_
      refine own_iload_n (pc' := 35) rfl d_si4_34 rfl ?_
      refine own_iload_n (pc' := 36) rfl d_si4_35 rfl ?_
      refine own_static3v (M' := M_cp3) d_si4_36 (pc' := 39) rfl (tw_20 hw) (tw_21 hw) (tw_22 hw) (tw_23 hw) (by decide) rfl (own_lenOf pd_1 rfl) rfl rfl rfl rfl (c_cp3 K a0 hw a n cs h hn hcap hcs A hl) (by simp) ?_
      rintro w h1 xs ⟨b, rfl, E1, hb1, B1⟩
      have hxb : b ≠ x := by show @Ne Nat b x; have : @LT.lt Nat _ _ _ := E.lt; omega
      refine own_astore_5 (pc' := 41) rfl d_si4_39 (by first | exact One.u | exact One.val rfl | assumption | exact One.val (by assumption)) (by first | rfl | assumption) ?_
      refine own_aload_n (pc' := 42) rfl d_si4_41 rfl (by first | rfl | assumption) ?_
      refine own_aload (pc' := 44) rfl d_si4_42 rfl (by first | rfl | assumption) ?_
      refine own_iload_n (pc' := 45) rfl d_si4_44 rfl ?_
      have hp : 0 < cs.length := by
        rcases Nat.eq_zero_or_pos cs.length with e | e
        · exact absurd (Int32.toInt_inj.mp (by rw [hn, e]; rfl)) z
        · exact e
      refine own_static2v (M' := M_cfa) d_si4_45 (pc' := 48) rfl (tw_28 hw) (tw_29 hw) (tw_22 hw) (tw_30 hw) (by decide) rfl (own_lenOf pd_2 rfl) rfl rfl rfl rfl (c_cfa K a0 hw b n cs h1 hn (by omega) hp B1) (by simp) ?_
      rintro w h2 xs2 ⟨rfl, rfl⟩
      refine own_putF (pc' := 51) rfl d_si4_48 (tw_31 hw) Via.refl (Or.inr ⟨(tw_32 hw), rfl, rfl⟩) (tw_6 hw) (ty := .byte) (by decide) (own_cod_byte cs).1 (own_cod_byte cs).2 (FC.ext E1) (E.ext E1) (by simp) ?_
      intro h3 W3
      have sne : RoadKit.slotOf K.Z "java/lang/String" "value" "[B" ≠ RoadKit.slotOf K.Z "java/lang/String" "coder" "B" := slot_ne (Or.inr (tw_34 hw)) (Or.inr (tw_32 hw)) (by decide) (t := .array .byte) (t' := .byte) (by decide) (by decide)
      have FV3 := (FV.ext E1).other W3 (Or.inr sne)
      have FC3 := (FC.ext E1).same W3
      have E3 := (E.ext E1).wr W3
      have B3 := B1.other W3 hxb
      refine own_aload_n (pc' := 52) rfl d_si4_51 rfl (by first | rfl | assumption) ?_
      refine own_aload (pc' := 54) rfl d_si4_52 rfl (by first | rfl | assumption) ?_
      refine own_putF (pc' := 57) rfl d_si4_54 (tw_33 hw) Via.refl (Or.inr ⟨(tw_34 hw), rfl, rfl⟩) (tw_6 hw) (ty := (.array .byte)) (by decide) rfl rfl FV3 E3 (by simp) ?_
      intro h4 W4
      refine own_return rfl d_si4_57 rfl rfl ?_
      refine ⟨(((Keep.refl h [x]).ext E1).wr W3 (Or.inl (List.mem_singleton.mpr rfl))).wr W4 (Or.inl (List.mem_singleton.mpr rfl)), E3.wr W4, hcs, by omega, b, FV3.same W4, FC3.other W4 (Or.inr (Ne.symm sne)), B3.other W4 hxb⟩
  · exfalso
    rw [z] at hn
    have : (0 : Int32).toInt = 0 := rfl
    omega
theorem d_si1_0 : decode jdk_42_method_3_code 0 = .ok (.aload_n 0, 1) := by decide +kernel
theorem d_si1_1 : decode jdk_42_method_3_code 1 = .ok (.aload_n 1, 1) := by decide +kernel
theorem d_si1_2 : decode jdk_42_method_3_code 2 = .ok (.iconst 0, 1) := by decide +kernel
theorem d_si1_3 : decode jdk_42_method_3_code 3 = .ok (.aload_n 1, 1) := by decide +kernel
theorem d_si1_4 : decode jdk_42_method_3_code 4 = .ok (.arraylength, 1) := by decide +kernel
theorem d_si1_5 : decode jdk_42_method_3_code 5 = .ok (.aconst_null, 1) := by decide +kernel
theorem d_si1_6 : decode jdk_42_method_3_code 6 = .ok (.invokespecial 27, 3) := by decide +kernel
theorem d_si1_9 : decode jdk_42_method_3_code 9 = .ok (.return_, 1) := by decide +kernel
abbrev M_si1 : own_Mi := ((⟨"java/lang/String", "<init>", "([C)V"⟩ : MethodName), jdk_42_method_3_code, 2, (Option.none : Option FieldType), ({ frames := 3, cells := 1, slots := 4, locals := 59 } : Room))
theorem pn_si1 : plainName "java/lang/String" = true := by first | (simp [plainName, overriddenIn]; done) | decide +kernel
set_option maxRecDepth 65536 in
set_option maxHeartbeats 40000000 in
theorem c_si1 (K : own_Cx) (a0 : Array Value) (hw : ∀ d ∈ tables_1, d.before a0 K.Z = true)
    (x a : Addr) (g : Int32) (cs : List Int32) (h : Heap)
    (hp : 0 < cs.length)
    (hcap : cs.length ≤ 4) (hcs : own_Chs cs) (A : own_Ary K.Z h a .char (own_ints cs))
    (E : Exa K.Z h x "java/lang/String") (FV : Fld K.Z h x "java/lang/String" "value" "[B" .null) (FC : Fld K.Z h x "java/lang/String" "coder" "B" (.int 0)) (SC : Sta K.Z K.Z.heap "java/lang/String" "COMPACT_STRINGS" "Z" (.int g)) (hg : ¬ g = 0)
    (hl : own_lat cs = true)
    : own_Met K M_si1 #[.ref x, .ref a] [x] h (own_void fun h' _ => Keep h h' [x] ∧ own_Str K.Z h' x cs) := by
  have hz : (cs.length.toInt32).toInt = cs.length := own_lit _ (by omega)
  refine own_met_2_0 (M := M_si1) pn_si1 rfl (by first | rfl | exact own_cat (by assumption)) (by first | rfl | exact own_cat (by assumption)) ?_
  refine own_aload_n (pc' := 1) rfl d_si1_0 rfl (by first | rfl | assumption) ?_
  refine own_aload_n (pc' := 2) rfl d_si1_1 rfl (by first | rfl | assumption) ?_
  refine own_iconst (v := (0 : Int32)) (pc' := 3) rfl d_si1_2 rfl ?_
  refine own_aload_n (pc' := 4) rfl d_si1_3 rfl (by first | rfl | assumption) ?_
  refine own_arrlen (z := cs.length.toInt32) (pc' := 5) rfl d_si1_4 A (by rw [hz]; simp) ?_
  refine own_aconst_null (pc' := 6) rfl d_si1_5 ?_
  refine own_special4n (M' := M_si4) d_si1_6 (pc' := 9) rfl rfl rfl (tw_12 hw) (tw_13 hw) (tw_7 hw) (tw_15 hw) (by decide) rfl (own_lenOf pd_3 rfl) rfl rfl rfl rfl (c_si4 K a0 hw   x a _ g cs h hz hp hcap hcs A E FV FC SC hg hl) (by simp) ?_
  intro h1 xs q
  refine own_return rfl d_si1_9 rfl rfl ?_
  exact q
def own_ch (c : Int32) : Int32 := c.toUInt32.toUInt16.toUInt32.toInt32
/-! STRINGS, their methods -/
abbrev own_sC : String := "java/lang/String"
theorem own_len_enc {cs : List Int32} : (own_lat cs = true → (own_ints (own_enc cs)).length = cs.length) ∧ (own_lat cs = false → (own_ints (own_enc cs)).length = 2 * cs.length) :=
  ⟨fun q => by simp [(own_enc_lat q).1], fun q => by simp [(own_enc_utf q).1, own_two_len]⟩
theorem own_lat_byte {c : Int32} (h0 : 0 ≤ c.toInt) (h1 : c.toInt < 256) : own_bt c &&& 255 = c := by
  apply Int32.toInt_inj.mp
  have b1 := c_mask (own_bt c) 255 8 (by decide) (by decide)
  have b2 := (c_i2b c).1
  have : (own_bt c).toInt = c.toInt8.toInt32.toInt := rfl
  omega
theorem d_cdr_0 : decode jdk_42_method_152_code 0 = .ok (.getstatic 38, 3) := by decide +kernel
theorem d_cdr_3 : decode jdk_42_method_152_code 3 = .ok (.ifCond .eq 10, 3) := by decide +kernel
theorem d_cdr_6 : decode jdk_42_method_152_code 6 = .ok (.aload_n 0, 1) := by decide +kernel
theorem d_cdr_7 : decode jdk_42_method_152_code 7 = .ok (.getfield 15, 3) := by decide +kernel
theorem d_cdr_10 : decode jdk_42_method_152_code 10 = .ok (.goto 4, 3) := by decide +kernel
theorem d_cdr_14 : decode jdk_42_method_152_code 14 = .ok (.ireturn, 1) := by decide +kernel
abbrev M_cdr : own_Mi := ((⟨"java/lang/String", "coder", "()B"⟩ : MethodName), jdk_42_method_152_code, 1, (Option.some FieldType.byte), ({ frames := 0, cells := 0, slots := 0, locals := 0 } : Room))
theorem pn_cdr : plainName "java/lang/String" = true := by first | (simp [plainName, overriddenIn]; done) | decide +kernel
set_option maxRecDepth 65536 in
set_option maxHeartbeats 40000000 in
theorem c_cdr (K : own_Cx) (a0 : Array Value) (hw : ∀ d ∈ tables_1, d.before a0 K.Z = true) (g : Int32) (SC : Sta K.Z K.Z.heap own_sC "COMPACT_STRINGS" "Z" (.int g)) (hg : ¬ g = 0) (x : Addr) (cs : List Int32) (h : Heap) (S : own_Str K.Z h x cs) :
    own_Met K M_cdr #[.ref x] [] h (own_ret fun w h' _ => w = .int (own_cod cs) ∧ h' = h) := by
  obtain ⟨E, hcs, hl, b, FV, FC, B⟩ := S
  refine own_met_1_0 (M := M_cdr) pn_cdr rfl (by first | rfl | exact own_cat (by assumption)) ?_
  refine own_getS (pc' := 3) rfl d_cdr_0 (tw_19 hw) Via.refl (by assumption) ?_
  refine own_ifeq (pcT := 13) (pcF := 6) d_cdr_3 (by decide) (by decide) rfl (fun q => ?_) (fun q => ?_)
  · exact absurd q hg
  · skip
    refine own_aload_n (pc' := 7) rfl d_cdr_6 rfl (by first | rfl | assumption) ?_
    refine own_getF (pc' := 10) rfl d_cdr_7 (tw_31 hw) Via.refl (by assumption) ?_
    refine own_goto (pc' := 14) d_cdr_10 (by decide) (by decide) ?_
    refine own_ireturnN (t := .byte) rfl (by simp) (z' := own_cod cs) (by unfold own_cod; split <;> rfl) d_cdr_14 rfl rfl ?_
    exact ⟨rfl, rfl⟩
theorem d_sl_0 : decode jdk_42_method_54_code 0 = .ok (.aload_n 0, 1) := by decide +kernel
theorem d_sl_1 : decode jdk_42_method_54_code 1 = .ok (.getfield 9, 3) := by decide +kernel
theorem d_sl_4 : decode jdk_42_method_54_code 4 = .ok (.arraylength, 1) := by decide +kernel
theorem d_sl_5 : decode jdk_42_method_54_code 5 = .ok (.aload_n 0, 1) := by decide +kernel
theorem d_sl_6 : decode jdk_42_method_54_code 6 = .ok (.invokevirtual 335, 3) := by decide +kernel
theorem d_sl_9 : decode jdk_42_method_54_code 9 = .ok (.ishr, 1) := by decide +kernel
theorem d_sl_10 : decode jdk_42_method_54_code 10 = .ok (.ireturn, 1) := by decide +kernel
abbrev M_sl : own_Mi := ((⟨"java/lang/String", "length", "()I"⟩ : MethodName), jdk_42_method_54_code, 1, (Option.some FieldType.int), ({ frames := 1, cells := 0, slots := 0, locals := 14 } : Room))
theorem pn_sl : plainName "java/lang/String" = true := by first | (simp [plainName, overriddenIn]; done) | decide +kernel
set_option maxRecDepth 65536 in
set_option maxHeartbeats 40000000 in
theorem c_sl (K : own_Cx) (a0 : Array Value) (hw : ∀ d ∈ tables_1, d.before a0 K.Z = true) (g : Int32) (SC : Sta K.Z K.Z.heap own_sC "COMPACT_STRINGS" "Z" (.int g)) (hg : ¬ g = 0) (x : Addr) (cs : List Int32) (h : Heap) (S : own_Str K.Z h x cs) :
    own_Met K M_sl #[.ref x] [] h (own_ret fun w h' _ => w = .int cs.length.toInt32 ∧ h' = h) := by
  have S' := S
  obtain ⟨E, hcs, hl, b, FV, FC, B⟩ := S'
  have hn : (cs.length.toInt32).toInt = cs.length := own_lit _ (by omega)
  cases ql : own_lat cs
  · have hz : ((2 * cs.length).toInt32).toInt = ((2 * cs.length : Nat) : Int) := own_lit _ (by omega)
    refine own_met_1_0 (M := M_sl) pn_sl rfl (by first | rfl | exact own_cat (by assumption)) ?_
    refine own_aload_n (pc' := 1) rfl d_sl_0 rfl (by first | rfl | assumption) ?_
    refine own_getF (pc' := 4) rfl d_sl_1 (tw_33 hw) Via.refl (by assumption) ?_
    refine own_arrlen (z := (2 * cs.length).toInt32) (pc' := 5) rfl d_sl_4 B (by rw [hz, own_len_enc.2 ql]) ?_
    refine own_aload_n (pc' := 6) rfl d_sl_5 rfl (by first | rfl | assumption) ?_
    refine own_virtual0v (M' := M_cdr) d_sl_6 (pc' := 9) rfl (tw_56 hw) (tw_57 hw) (tw_59 hw) (tw_58 hw) (tw_7 hw) (tw_60 hw) (by decide) rfl (own_lenOf pd_4 rfl) rfl rfl rfl rfl E (c_cdr K a0 hw g SC hg x cs h S) (by simp) ?_
    rintro w h1 xs ⟨rfl, rfl⟩
    refine own_ishr (pc' := 10) rfl d_sl_9 ?_
    refine own_ireturn rfl d_sl_10 rfl rfl ?_
    refine ⟨?_, rfl⟩
    rw [(own_enc_utf ql).2]
    congr 1
    apply Int32.toInt_inj.mp
    have := c_ishr (2 * cs.length).toInt32 1 1 (by decide)
    rw [this, hn, hz]
    omega
  · skip
    refine own_met_1_0 (M := M_sl) pn_sl rfl (by first | rfl | exact own_cat (by assumption)) ?_
    refine own_aload_n (pc' := 1) rfl d_sl_0 rfl (by first | rfl | assumption) ?_
    refine own_getF (pc' := 4) rfl d_sl_1 (tw_33 hw) Via.refl (by assumption) ?_
    refine own_arrlen (z := cs.length.toInt32) (pc' := 5) rfl d_sl_4 B (by rw [hn, own_len_enc.1 ql]) ?_
    refine own_aload_n (pc' := 6) rfl d_sl_5 rfl (by first | rfl | assumption) ?_
    refine own_virtual0v (M' := M_cdr) d_sl_6 (pc' := 9) rfl (tw_56 hw) (tw_57 hw) (tw_59 hw) (tw_58 hw) (tw_7 hw) (tw_60 hw) (by decide) rfl (own_lenOf pd_4 rfl) rfl rfl rfl rfl E (c_cdr K a0 hw g SC hg x cs h S) (by simp) ?_
    rintro w h1 xs ⟨rfl, rfl⟩
    refine own_ishr (pc' := 10) rfl d_sl_9 ?_
    refine own_ireturn rfl d_sl_10 rfl rfl ?_
    exact ⟨by rw [(own_enc_lat ql).2, own_shr0], rfl⟩
theorem d_ise_0 : decode jdk_42_method_55_code 0 = .ok (.aload_n 0, 1) := by decide +kernel
theorem d_ise_1 : decode jdk_42_method_55_code 1 = .ok (.getfield 9, 3) := by decide +kernel
theorem d_ise_4 : decode jdk_42_method_55_code 4 = .ok (.arraylength, 1) := by decide +kernel
theorem d_ise_5 : decode jdk_42_method_55_code 5 = .ok (.ifCond .ne 7, 3) := by decide +kernel
theorem d_ise_8 : decode jdk_42_method_55_code 8 = .ok (.iconst 1, 1) := by decide +kernel
theorem d_ise_9 : decode jdk_42_method_55_code 9 = .ok (.goto 4, 3) := by decide +kernel
theorem d_ise_12 : decode jdk_42_method_55_code 12 = .ok (.iconst 0, 1) := by decide +kernel
theorem d_ise_13 : decode jdk_42_method_55_code 13 = .ok (.ireturn, 1) := by decide +kernel
abbrev M_ise : own_Mi := ((⟨"java/lang/String", "isEmpty", "()Z"⟩ : MethodName), jdk_42_method_55_code, 1, (Option.some FieldType.boolean), ({ frames := 0, cells := 0, slots := 0, locals := 0 } : Room))
theorem pn_ise : plainName "java/lang/String" = true := by first | (simp [plainName, overriddenIn]; done) | decide +kernel
set_option maxRecDepth 65536 in
set_option maxHeartbeats 40000000 in
theorem c_ise (K : own_Cx) (a0 : Array Value) (hw : ∀ d ∈ tables_1, d.before a0 K.Z = true) (x : Addr) (cs : List Int32) (h : Heap) (S : own_Str K.Z h x cs) :
    own_Met K M_ise #[.ref x] [] h (own_ret fun w h' _ => w = .int (if cs = [] then 1 else 0) ∧ h' = h) := by
  obtain ⟨E, hcs, hl, b, FV, FC, B⟩ := S
  have hz : ((own_ints (own_enc cs)).length.toInt32).toInt = ((own_ints (own_enc cs)).length : Int) := own_lit _ (by
    cases ql : own_lat cs
    · rw [own_len_enc.2 ql]; omega
    · rw [own_len_enc.1 ql]; omega)
  refine own_met_1_0 (M := M_ise) pn_ise rfl (by first | rfl | exact own_cat (by assumption)) ?_
  refine own_aload_n (pc' := 1) rfl d_ise_0 rfl (by first | rfl | assumption) ?_
  refine own_getF (pc' := 4) rfl d_ise_1 (tw_33 hw) Via.refl (by assumption) ?_
  refine own_arrlen (z := (own_ints (own_enc cs)).length.toInt32) (pc' := 5) rfl d_ise_4 B hz ?_
  refine own_ifne (pcT := 12) (pcF := 8) d_ise_5 (by decide) (by decide) rfl (fun q => ?_) (fun q => ?_)
  · skip
    refine own_iconst (v := (0 : Int32)) (pc' := 13) rfl d_ise_12 rfl ?_
    refine own_ireturnN (t := .boolean) rfl (by simp) (by first | exact own_nb0 | exact own_nb1 | rfl) d_ise_13 rfl rfl ?_
    refine ⟨?_, rfl⟩
    rw [if_neg]
    intro e
    subst e
    exact q rfl
  · skip
    refine own_iconst (v := (1 : Int32)) (pc' := 9) rfl d_ise_8 rfl ?_
    refine own_goto (pc' := 13) d_ise_9 (by decide) (by decide) ?_
    refine own_ireturnN (t := .boolean) rfl (by simp) (by first | exact own_nb0 | exact own_nb1 | rfl) d_ise_13 rfl rfl ?_
    refine ⟨?_, rfl⟩
    rw [if_pos]
    rw [q] at hz
    have z0 : (0 : Int32).toInt = 0 := rfl
    rw [z0] at hz
    apply List.eq_nil_of_length_eq_zero
    cases ql : own_lat cs
    · have := own_len_enc.2 ql; omega
    · have := own_len_enc.1 ql; omega
theorem d_isl_0 : decode jdk_42_method_154_code 0 = .ok (.getstatic 38, 3) := by decide +kernel
theorem d_isl_3 : decode jdk_42_method_154_code 3 = .ok (.ifCond .eq 14, 3) := by decide +kernel
theorem d_isl_6 : decode jdk_42_method_154_code 6 = .ok (.aload_n 0, 1) := by decide +kernel
theorem d_isl_7 : decode jdk_42_method_154_code 7 = .ok (.getfield 15, 3) := by decide +kernel
theorem d_isl_10 : decode jdk_42_method_154_code 10 = .ok (.ifCond .ne 7, 3) := by decide +kernel
theorem d_isl_13 : decode jdk_42_method_154_code 13 = .ok (.iconst 1, 1) := by decide +kernel
theorem d_isl_14 : decode jdk_42_method_154_code 14 = .ok (.goto 4, 3) := by decide +kernel
theorem d_isl_17 : decode jdk_42_method_154_code 17 = .ok (.iconst 0, 1) := by decide +kernel
theorem d_isl_18 : decode jdk_42_method_154_code 18 = .ok (.ireturn, 1) := by decide +kernel
abbrev M_isl : own_Mi := ((⟨"java/lang/String", "isLatin1", "()Z"⟩ : MethodName), jdk_42_method_154_code, 1, (Option.some FieldType.boolean), ({ frames := 0, cells := 0, slots := 0, locals := 0 } : Room))
theorem pn_isl : plainName "java/lang/String" = true := by first | (simp [plainName, overriddenIn]; done) | decide +kernel
set_option maxRecDepth 65536 in
set_option maxHeartbeats 40000000 in
theorem c_isl (K : own_Cx) (a0 : Array Value) (hw : ∀ d ∈ tables_1, d.before a0 K.Z = true) (g : Int32) (SC : Sta K.Z K.Z.heap own_sC "COMPACT_STRINGS" "Z" (.int g)) (hg : ¬ g = 0) (x : Addr) (cs : List Int32) (h : Heap) (S : own_Str K.Z h x cs) :
    own_Met K M_isl #[.ref x] [] h (own_ret fun w h' _ => w = .int (if own_lat cs then 1 else 0) ∧ h' = h) := by
  obtain ⟨E, hcs, hl, b, FV, FC, B⟩ := S
  refine own_met_1_0 (M := M_isl) pn_isl rfl (by first | rfl | exact own_cat (by assumption)) ?_
  refine own_getS (pc' := 3) rfl d_isl_0 (tw_19 hw) Via.refl (by assumption) ?_
  refine own_ifeq (pcT := 17) (pcF := 6) d_isl_3 (by decide) (by decide) rfl (fun q => ?_) (fun q => ?_)
  · exact absurd q hg
  · skip
    refine own_aload_n (pc' := 7) rfl d_isl_6 rfl (by first | rfl | assumption) ?_
    refine own_getF (pc' := 10) rfl d_isl_7 (tw_31 hw) Via.refl (by assumption) ?_
    refine own_ifne (pcT := 17) (pcF := 13) d_isl_10 (by decide) (by decide) rfl (fun q2 => ?_) (fun q2 => ?_)
    · skip
      refine own_iconst (v := (0 : Int32)) (pc' := 18) rfl d_isl_17 rfl ?_
      refine own_ireturnN (t := .boolean) rfl (by simp) (by first | exact own_nb0 | exact own_nb1 | rfl) d_isl_18 rfl rfl ?_
      refine ⟨?_, rfl⟩
      cases ql : own_lat cs
      · rfl
      · exact absurd (own_enc_lat ql).2 q2
    · skip
      refine own_iconst (v := (1 : Int32)) (pc' := 14) rfl d_isl_13 rfl ?_
      refine own_goto (pc' := 18) d_isl_14 (by decide) (by decide) ?_
      refine own_ireturnN (t := .boolean) rfl (by simp) (by first | exact own_nb0 | exact own_nb1 | rfl) d_isl_18 rfl rfl ?_
      refine ⟨?_, rfl⟩
      cases ql : own_lat cs
      · rw [(own_enc_utf ql).2] at q2; cases q2
      · rfl
theorem d_pci_0 : decode jdk_41_method_11_code 0 = .ok (.iload_n 0, 1) := by decide +kernel
theorem d_pci_1 : decode jdk_41_method_11_code 1 = .ok (.ifCond .lt 8, 3) := by decide +kernel
theorem d_pci_4 : decode jdk_41_method_11_code 4 = .ok (.iload_n 0, 1) := by decide +kernel
theorem d_pci_5 : decode jdk_41_method_11_code 5 = .ok (.iload_n 1, 1) := by decide +kernel
theorem d_pci_6 : decode jdk_41_method_11_code 6 = .ok (.if_icmp .lt 10, 3) := by decide +kernel
theorem d_pci_16 : decode jdk_41_method_11_code 16 = .ok (.iload_n 0, 1) := by decide +kernel
theorem d_pci_17 : decode jdk_41_method_11_code 17 = .ok (.ireturn, 1) := by decide +kernel
abbrev M_pci : own_Mi := ((⟨"jdk/internal/util/Preconditions", "checkIndex", "(IILjava/util/function/BiFunction;)I"⟩ : MethodName), jdk_41_method_11_code, 3, (Option.some FieldType.int), ({ frames := 0, cells := 0, slots := 0, locals := 0 } : Room))
theorem pn_pci : plainName "jdk/internal/util/Preconditions" = true := by first | (simp [plainName, overriddenIn]; done) | decide +kernel
set_option maxRecDepth 65536 in
set_option maxHeartbeats 40000000 in
theorem c_pci (K : own_Cx) (a0 : Array Value) (hw : ∀ d ∈ tables_1, d.before a0 K.Z = true) (rf : Value) (hrf : rf.isRef = true) (i n : Int32) (h : Heap) (h0 : 0 ≤ i.toInt) (h1 : i.toInt < n.toInt) :
    own_Met K M_pci #[.int i, .int n, rf] [] h (own_ret fun w h' _ => w = .int i ∧ h' = h) := by
  have z0 : (0 : Int32).toInt = 0 := rfl
  rcases ref_cases hrf with rfl | ⟨r, rfl⟩
  all_goals
    refine own_met_3_0 (M := M_pci) pn_pci rfl (by first | rfl | exact own_cat (by assumption)) (by first | rfl | exact own_cat (by assumption)) (by first | rfl | exact own_cat (by assumption)) ?_
    refine own_iload_n (pc' := 1) rfl d_pci_0 rfl ?_
    refine own_iflt (pcT := 9) (pcF := 4) d_pci_1 (by decide) (by decide) rfl (fun q => ?_) (fun q => ?_)
    · rw [Int32.lt_iff_toInt_lt] at q; omega
    · skip
      refine own_iload_n (pc' := 5) rfl d_pci_4 rfl ?_
      refine own_iload_n (pc' := 6) rfl d_pci_5 rfl ?_
      refine own_icmplt (pcT := 16) (pcF := 9) d_pci_6 (by decide) (by decide) rfl (fun q2 => ?_) (fun q2 => ?_)
      · skip
        refine own_iload_n (pc' := 17) rfl d_pci_16 rfl ?_
        refine own_ireturn rfl d_pci_17 rfl rfl ?_
        exact ⟨rfl, rfl⟩
      · rw [Int32.lt_iff_toInt_lt] at q2; omega
theorem d_ski_0 : decode jdk_42_method_155_code 0 = .ok (.iload_n 0, 1) := by decide +kernel
theorem d_ski_1 : decode jdk_42_method_155_code 1 = .ok (.iload_n 1, 1) := by decide +kernel
theorem d_ski_2 : decode jdk_42_method_155_code 2 = .ok (.getstatic 1053, 3) := by decide +kernel
theorem d_ski_5 : decode jdk_42_method_155_code 5 = .ok (.invokestatic 1059, 3) := by decide +kernel
theorem d_ski_8 : decode jdk_42_method_155_code 8 = .ok (.pop, 1) := by decide +kernel
theorem d_ski_9 : decode jdk_42_method_155_code 9 = .ok (.return_, 1) := by decide +kernel
abbrev M_ski : own_Mi := ((⟨"java/lang/String", "checkIndex", "(II)V"⟩ : MethodName), jdk_42_method_155_code, 2, (Option.none : Option FieldType), ({ frames := 1, cells := 0, slots := 0, locals := 14 } : Room))
theorem pn_ski : plainName "java/lang/String" = true := by first | (simp [plainName, overriddenIn]; done) | decide +kernel
set_option maxRecDepth 65536 in
set_option maxHeartbeats 40000000 in
theorem c_ski (K : own_Cx) (a0 : Array Value) (hw : ∀ d ∈ tables_1, d.before a0 K.Z = true) (rf : Value) (hrf : rf.isRef = true) (SF : Sta K.Z K.Z.heap "jdk/internal/util/Preconditions" "SIOOBE_FORMATTER" "Ljava/util/function/BiFunction;" rf) (i n : Int32) (h : Heap) (h0 : 0 ≤ i.toInt) (h1 : i.toInt < n.toInt) :
    own_Met K M_ski #[.int i, .int n] [] h (own_void fun h' _ => h' = h) := by
  refine own_met_2_0 (M := M_ski) pn_ski rfl (by first | rfl | exact own_cat (by assumption)) (by first | rfl | exact own_cat (by assumption)) ?_
  refine own_iload_n (pc' := 1) rfl d_ski_0 rfl ?_
  refine own_iload_n (pc' := 2) rfl d_ski_1 rfl ?_
  refine own_getS (pc' := 5) rfl d_ski_2 (tw_78 hw) Via.refl (by assumption) ?_
  refine own_static3v (M' := M_pci) d_ski_5 (pc' := 8) rfl (tw_80 hw) (tw_81 hw) (tw_79 hw) (tw_82 hw) (by decide) rfl (own_lenOf pd_5 rfl) rfl rfl rfl rfl (c_pci K a0 hw rf hrf i n h h0 h1) (by simp) ?_
  rintro w h2 xs ⟨rfl, rfl⟩
  refine own_pop (pc' := 9) rfl d_ski_8 (by first | rfl | assumption) ?_
  refine own_return rfl d_ski_9 rfl rfl ?_
  rfl
theorem d_lca_0 : decode jdk_43_method_2_code 0 = .ok (.iload_n 1, 1) := by decide +kernel
theorem d_lca_1 : decode jdk_43_method_2_code 1 = .ok (.aload_n 0, 1) := by decide +kernel
theorem d_lca_2 : decode jdk_43_method_2_code 2 = .ok (.arraylength, 1) := by decide +kernel
theorem d_lca_3 : decode jdk_43_method_2_code 3 = .ok (.invokestatic 9, 3) := by decide +kernel
theorem d_lca_6 : decode jdk_43_method_2_code 6 = .ok (.aload_n 0, 1) := by decide +kernel
theorem d_lca_7 : decode jdk_43_method_2_code 7 = .ok (.iload_n 1, 1) := by decide +kernel
theorem d_lca_8 : decode jdk_43_method_2_code 8 = .ok (.baload, 1) := by decide +kernel
theorem d_lca_9 : decode jdk_43_method_2_code 9 = .ok (.sipush 255, 3) := by decide +kernel
theorem d_lca_12 : decode jdk_43_method_2_code 12 = .ok (.iand, 1) := by decide +kernel
theorem d_lca_13 : decode jdk_43_method_2_code 13 = .ok (.i2c, 1) := by decide +kernel
theorem d_lca_14 : decode jdk_43_method_2_code 14 = .ok (.ireturn, 1) := by decide +kernel
abbrev M_lca : own_Mi := ((⟨"java/lang/StringLatin1", "charAt", "([BI)C"⟩ : MethodName), jdk_43_method_2_code, 2, (Option.some FieldType.char), ({ frames := 2, cells := 0, slots := 0, locals := 27 } : Room))
theorem pn_lca : plainName "java/lang/StringLatin1" = true := by first | (simp [plainName, overriddenIn]; done) | decide +kernel
set_option maxRecDepth 65536 in
set_option maxHeartbeats 40000000 in
theorem c_lca (K : own_Cx) (a0 : Array Value) (hw : ∀ d ∈ tables_1, d.before a0 K.Z = true) (rf : Value) (hrf : rf.isRef = true) (SF : Sta K.Z K.Z.heap "jdk/internal/util/Preconditions" "SIOOBE_FORMATTER" "Ljava/util/function/BiFunction;" rf) (b : Addr) (cs : List Int32) (j : Int32) (i : Nat) (c : Int32) (h : Heap) (hcs : own_Chs cs) (hl : cs.length < 2 ^ 30) (ql : own_lat cs = true) (B : own_Ary K.Z h b .byte (own_ints (cs.map own_bt))) (hj : j.toInt = i) (hc : cs[i]? = some c) :
    own_Met K M_lca #[.ref b, .int j] [] h (own_ret fun w h' _ => w = .int c ∧ h' = h) := by
  have hi := (List.getElem?_eq_some_iff.mp hc).1
  have hn : (cs.length.toInt32).toInt = cs.length := own_lit _ (by omega)
  have hcr := hcs c (List.mem_of_getElem? hc)
  have hc2 := own_lat_get ql hc
  refine own_met_2_0 (M := M_lca) pn_lca rfl (by first | rfl | exact own_cat (by assumption)) (by first | rfl | exact own_cat (by assumption)) ?_
  refine own_iload_n (pc' := 1) rfl d_lca_0 rfl ?_
  refine own_aload_n (pc' := 2) rfl d_lca_1 rfl (by first | rfl | assumption) ?_
  refine own_arrlen (z := cs.length.toInt32) (pc' := 3) rfl d_lca_2 B (by rw [hn]; simp) ?_
  refine own_static2n (M' := M_ski) d_lca_3 (pc' := 6) rfl (tw_75 hw) (tw_76 hw) (tw_7 hw) (tw_77 hw) (by decide) rfl (own_lenOf pd_6 rfl) rfl rfl rfl rfl (c_ski K a0 hw rf hrf SF j _ h (by omega) (by omega)) (by simp) ?_
  rintro h1 xs rfl
  refine own_aload_n (pc' := 7) rfl d_lca_6 rfl (by first | rfl | assumption) ?_
  refine own_iload_n (pc' := 8) rfl d_lca_7 rfl ?_
  refine own_baload (pc' := 9) rfl d_lca_8 B (i := i) hj (by first | exact own_ints_get hc | exact own_ints_getM hc) ?_
  refine own_sipush (v := (255 : Int32)) (pc' := 12) rfl d_lca_9 rfl ?_
  refine own_iand (pc' := 13) rfl d_lca_12 ?_
  refine own_i2c (pc' := 14) rfl d_lca_13 ?_
  rw [own_lat_byte hcr.1 hc2, own_i2c_id hcr.1 hcr.2]
  refine own_ireturnN (t := .char) rfl (by simp) (own_i2c_id hcr.1 hcr.2) d_lca_14 rfl rfl ?_
  exact ⟨rfl, rfl⟩
theorem d_sca_0 : decode jdk_42_method_56_code 0 = .ok (.aload_n 0, 1) := by decide +kernel
theorem d_sca_1 : decode jdk_42_method_56_code 1 = .ok (.invokevirtual 492, 3) := by decide +kernel
theorem d_sca_4 : decode jdk_42_method_56_code 4 = .ok (.ifCond .eq 12, 3) := by decide +kernel
theorem d_sca_7 : decode jdk_42_method_56_code 7 = .ok (.aload_n 0, 1) := by decide +kernel
theorem d_sca_8 : decode jdk_42_method_56_code 8 = .ok (.getfield 9, 3) := by decide +kernel
theorem d_sca_11 : decode jdk_42_method_56_code 11 = .ok (.iload_n 1, 1) := by decide +kernel
theorem d_sca_12 : decode jdk_42_method_56_code 12 = .ok (.invokestatic 495, 3) := by decide +kernel
theorem d_sca_15 : decode jdk_42_method_56_code 15 = .ok (.ireturn, 1) := by decide +kernel
abbrev M_sca : own_Mi := ((⟨"java/lang/String", "charAt", "(I)C"⟩ : MethodName), jdk_42_method_56_code, 2, (Option.some FieldType.char), ({ frames := 3, cells := 0, slots := 0, locals := 40 } : Room))
theorem pn_sca : plainName "java/lang/String" = true := by first | (simp [plainName, overriddenIn]; done) | decide +kernel
set_option maxRecDepth 65536 in
set_option maxHeartbeats 40000000 in
theorem c_sca (K : own_Cx) (a0 : Array Value) (hw : ∀ d ∈ tables_1, d.before a0 K.Z = true)
    (g : Int32) (SC : Sta K.Z K.Z.heap own_sC "COMPACT_STRINGS" "Z" (.int g)) (hg : ¬ g = 0) (rf : Value) (hrf : rf.isRef = true) (SF : Sta K.Z K.Z.heap "jdk/internal/util/Preconditions" "SIOOBE_FORMATTER" "Ljava/util/function/BiFunction;" rf) (x : Addr) (cs : List Int32) (j : Int32) (i : Nat) (c : Int32) (h : Heap) (S : own_Str K.Z h x cs) (hl2 : cs.length < 2 ^ 29) (hj : j.toInt = i) (hc : cs[i]? = some c)
    (ql : own_lat cs = true)
    : own_Met K M_sca #[.ref x, .int j] [] h (own_ret fun w h' _ => w = .int c ∧ h' = h) := by
  have S' := S
  obtain ⟨E, hcs, hl, b, FV, FC, B⟩ := S'
  have hcr := hcs c (List.mem_of_getElem? hc)
  refine own_met_2_0 (M := M_sca) pn_sca rfl (by first | rfl | exact own_cat (by assumption)) (by first | rfl | exact own_cat (by assumption)) ?_
  refine own_aload_n (pc' := 1) rfl d_sca_0 rfl (by first | rfl | assumption) ?_
  refine own_virtual0v (M' := M_isl) d_sca_1 (pc' := 4) rfl (tw_66 hw) (tw_67 hw) (tw_69 hw) (tw_68 hw) (tw_7 hw) (tw_70 hw) (by decide) rfl (own_lenOf pd_7 rfl) rfl rfl rfl rfl E (c_isl K a0 hw g SC hg x cs h S) (by simp) ?_
  rintro w h1 xs ⟨rfl, rfl⟩
  rw [ql]
  · skip
    refine own_ifeq (pcT := 16) (pcF := 7) d_sca_4 (by decide) (by decide) rfl (fun q => ?_) (fun q => ?_)
    · exact absurd q (by decide)
    · skip
      refine own_aload_n (pc' := 8) rfl d_sca_7 rfl (by first | rfl | assumption) ?_
      refine own_getF (pc' := 11) rfl d_sca_8 (tw_33 hw) Via.refl (by assumption) ?_
      refine own_iload_n (pc' := 12) rfl d_sca_11 rfl ?_
      refine own_static2v (M' := M_lca) d_sca_12 (pc' := 15) rfl (tw_71 hw) (tw_72 hw) (tw_73 hw) (tw_74 hw) (by decide) rfl (own_lenOf pd_8 rfl) rfl rfl rfl rfl (c_lca K a0 hw rf hrf SF b cs j i c h1 hcs hl ql (by rw [(own_enc_lat ql).1] at B; exact B) hj hc) (by simp) ?_
      rintro w h2 xs2 ⟨rfl, rfl⟩
      refine own_ireturnN (t := .char) rfl (by simp) (own_i2c_id hcr.1 hcr.2) d_sca_15 rfl rfl ?_
      exact ⟨rfl, rfl⟩
theorem d_seq_0 : decode jdk_42_method_66_code 0 = .ok (.aload_n 0, 1) := by decide +kernel
theorem d_seq_1 : decode jdk_42_method_66_code 1 = .ok (.aload_n 1, 1) := by decide +kernel
theorem d_seq_2 : decode jdk_42_method_66_code 2 = .ok (.if_acmp .ne 5, 3) := by decide +kernel
theorem d_seq_5 : decode jdk_42_method_66_code 5 = .ok (.iconst 1, 1) := by decide +kernel
theorem d_seq_6 : decode jdk_42_method_66_code 6 = .ok (.ireturn, 1) := by decide +kernel
abbrev M_seq : own_Mi := ((⟨"java/lang/String", "equals", "(Ljava/lang/Object;)Z"⟩ : MethodName), jdk_42_method_66_code, 3, (Option.some FieldType.boolean), ({ frames := 0, cells := 0, slots := 0, locals := 0 } : Room))
theorem pn_seq : plainName "java/lang/String" = true := by first | (simp [plainName, overriddenIn]; done) | decide +kernel
set_option maxRecDepth 65536 in
set_option maxHeartbeats 40000000 in
theorem c_seqI (K : own_Cx) (a0 : Array Value) (hw : ∀ d ∈ tables_1, d.before a0 K.Z = true) (x : Addr) (h : Heap) :
    own_Met K M_seq #[.ref x, .ref x] [] h (own_ret fun w h' _ => w = .int 1 ∧ h' = h) := by
  refine own_met_2_1 (M := M_seq) pn_seq rfl (by first | rfl | exact own_cat (by assumption)) (by first | rfl | exact own_cat (by assumption)) ?_
  refine own_aload_n (pc' := 1) rfl d_seq_0 rfl (by first | rfl | assumption) ?_
  refine own_aload_n (pc' := 2) rfl d_seq_1 rfl (by first | rfl | assumption) ?_
  refine own_acmpne (pcT := 7) (pcF := 5) d_seq_2 (by decide) (by decide) rfl (by first | rfl | assumption) (by first | rfl | assumption) (fun q => ?_) (fun q => ?_)
  · exact absurd rfl q
  · skip
    refine own_iconst (v := (1 : Int32)) (pc' := 6) rfl d_seq_5 rfl ?_
    refine own_ireturnN (t := .boolean) rfl (by simp) (by first | exact own_nb0 | exact own_nb1 | rfl) d_seq_6 rfl rfl ?_
    exact ⟨rfl, rfl⟩
theorem own_atoms {a0 : Array Value} {Z : State} (hw : ∀ d ∈ tables_1, d.before a0 Z = true) : ∀ a ∈ Bundle.stringAtoms, a.before a0 Z = true := by
  intro a ha
  simp only [Bundle.stringAtoms, List.mem_cons, List.not_mem_nil, or_false] at ha
  rcases ha with rfl | rfl | rfl | rfl | rfl | rfl | rfl
  · exact (tw_7 hw)
  · exact (tw_6 hw)
  · exact (tw_24 hw)
  · exact (tw_34 hw)
  · exact (tw_32 hw)
  · exact (tw_40 hw)
  · exact (tw_41 hw)
theorem own_ofArv {Z : State} {h : Heap} {b : Addr} {k : ClassId} {ty : FieldType} {z : Int32} {vs : List Value} {d : Value} (A : Arv Z h b k ty z vs d) (hl : z.toNatClampNeg = vs.length) : own_Ary Z h b ty vs := by
  obtain ⟨c, h1, -, h3, h4, h5, -⟩ := A
  refine ⟨c, h1, ?_, by rw [← hl]; exact (back32 h4).2⟩
  apply Array.ext
  · simp [h3, hl]
  · intro i hi1 hi2
    have := h5 i hi1
    have hi3 : i < vs.length := by simpa using hi2
    simp [hi1, hi3] at this
    simpa using this
/-- what a constant's text spells -/
def own_us (text : String) : List Int32 := text.toList.map fun c => c.toNat.toInt32
theorem own_ldcS {K : own_Cx} {M : own_Mi} {Q : own_Q} {pc pc' : Nat} {Ls : List Slot} {St : List Value} {sf : List Addr} {h : Heap} {cs sl : Nat} {a0 : Array Value} {index n : Nat} {text : String}
    (hnw : K.nw = false) (hp : pc + 2 = pc') (hd : decode M.b pc = .ok (.ldc index, 2)) (w : (Jvm.Cond.stringLink M.y.cls index text).before a0 K.Z = true) (wS : ∀ a ∈ Bundle.stringAtoms, a.before a0 K.Z = true) (hEL : EW K.Z a0 K.E) (hmem : (M.y.cls, index) ∈ K.E)
    (ht : (∀ c ∈ text.toList, c.toNat < 256) ∧ text.toList.map (fun c => Value.int (Jvm.Lit.byteI c.toNat.toUInt16)) = own_ints (own_enc (own_us text))) (hlat : own_lat (own_us text) = true) (hcs : own_Chs (own_us text)) (hz : ¬ ((own_us text).length.toInt32) < 0) (hl : ((own_us text).length.toInt32).toNatClampNeg = (own_ints (own_enc (own_us text))).length) (hlen : (own_us text).length < 2 ^ 30)
    (hn : Nat.ble (4 * text.toList.length) n = true) (hbig : Nat.ble n 536870912 = true) (hc : Nat.ble (cs + 2) M.R.cells = true) (hs : Nat.ble (sl + (n + 4)) M.R.slots = true)
    (k : ∀ (a : Addr) (h' : Heap), Ext h h' → own_Str K.Z h' a (own_us text) → own_WP K M Q pc' Ls (.ref a :: St) sf h' (cs + 2) (sl + (n + 4))) : own_WP K M Q pc Ls St sf h cs sl := by
  subst hp
  intro p e s vm0 k0 m args below meth c T locs cs' sl' B X hc' hs' eT N I
  obtain ⟨i1, i2, i3, i4, i5, i6⟩ := I
  obtain ⟨b1, b2, b3, b4, b5, b6, b7, b8, b9⟩ := B
  have q3 := Nat.le_of_ble_eq_true hc
  have q4 := Nat.le_of_ble_eq_true hs
  obtain ⟨a, T', h', k1, b, kk, X', e', E, S', hk', Z', O', A1, A2, A3, A4, -, -, C, -, -, st⟩ := ldcCH X b1 b8 b4 w wS eT i1 i2 hEL hmem i4.1 ht hz hl (g := mkF m pc Ls.toArray St) rfl (hb b2 hd) (Nat.le_of_ble_eq_true hn) (Nat.le_of_ble_eq_true hbig) (by omega) (by omega)
  obtain ⟨s₂, o, h1, r⟩ := k a h' E ⟨A1, hcs, hlen, b, A3, by rw [(own_enc_lat hlat).2]; exact A2, own_ofArv A4 hl⟩ p e s T'.vm k1 m args below meth c T' locs _ _ ⟨b1, b2, b3, O', b5, b6, b7, Z', b9⟩ X' (by omega) (by omega) e' N
    ⟨S', hk', (fun q => by rw [hnw] at q; cases q), i4.trans C, fun x hx => ⟨(i5 x hx).1, Nat.lt_of_lt_of_le (i5 x hx).2.1 C.2.1, C.safe (i5 x hx).2.1 (i5 x hx).2.2⟩, own_ext_trans i6 E⟩
  exact ⟨s₂, o, st _ h1, r⟩
abbrev own_nC : String := "com/example/table_to_topic/tabletotopic/TableName"
abbrev own_sD : String := "Ljava/lang/String;"
def own_ok (c : Int) (first : Bool) : Bool := (decide (97 ≤ c) && decide (c ≤ 122)) || (decide (65 ≤ c) && decide (c ≤ 90)) || decide (c = 95) || (decide (48 ≤ c) && decide (c ≤ 57) && !first)
def own_oks (cs : List Int32) : Bool := match cs with
  | [] => true
  | c :: r => own_ok c.toInt true && r.all fun d => own_ok d.toInt false
theorem own_oks_get {cs : List Int32} (q : own_oks cs = true) {i : Nat} {c : Int32} (hc : cs[i]? = some c) : own_ok c.toInt (decide (i = 0)) = true := by
  cases cs with
  | nil => simp at hc
  | cons d r =>
    simp only [own_oks, Bool.and_eq_true, List.all_eq_true] at q
    cases i with
    | zero => simp at hc; subst hc; exact q.1
    | succ i => simp at hc; simpa using q.2 c (List.mem_of_getElem? hc)
theorem own_ok_lat {c : Int} {b : Bool} (q : own_ok c b = true) : 0 ≤ c ∧ c < 256 := by
  simp only [own_ok, Bool.or_eq_true, Bool.and_eq_true, decide_eq_true_eq] at q
  omega
theorem d_pick_0 : decode method_2_code 0 = .ok (.iload_n 1, 1) := by decide +kernel
theorem d_pick_1 : decode method_2_code 1 = .ok (.ifCond .eq 8, 3) := by decide +kernel
theorem d_pick_4 : decode method_2_code 4 = .ok (.bipush 53, 2) := by decide +kernel
theorem d_pick_6 : decode method_2_code 6 = .ok (.goto 5, 3) := by decide +kernel
theorem d_pick_9 : decode method_2_code 9 = .ok (.bipush 63, 2) := by decide +kernel
theorem d_pick_11 : decode method_2_code 11 = .ok (.istore_n 2, 1) := by decide +kernel
theorem d_pick_12 : decode method_2_code 12 = .ok (.iload_n 0, 1) := by decide +kernel
theorem d_pick_13 : decode method_2_code 13 = .ok (.ldc 7, 2) := by decide +kernel
theorem d_pick_15 : decode method_2_code 15 = .ok (.iand, 1) := by decide +kernel
theorem d_pick_16 : decode method_2_code 16 = .ok (.iload_n 2, 1) := by decide +kernel
theorem d_pick_17 : decode method_2_code 17 = .ok (.irem, 1) := by decide +kernel
theorem d_pick_18 : decode method_2_code 18 = .ok (.istore_n 3, 1) := by decide +kernel
theorem d_pick_19 : decode method_2_code 19 = .ok (.iload_n 3, 1) := by decide +kernel
theorem d_pick_20 : decode method_2_code 20 = .ok (.bipush 26, 2) := by decide +kernel
theorem d_pick_22 : decode method_2_code 22 = .ok (.if_icmp .ge 9, 3) := by decide +kernel
theorem d_pick_25 : decode method_2_code 25 = .ok (.bipush 97, 2) := by decide +kernel
theorem d_pick_27 : decode method_2_code 27 = .ok (.iload_n 3, 1) := by decide +kernel
theorem d_pick_28 : decode method_2_code 28 = .ok (.iadd, 1) := by decide +kernel
theorem d_pick_29 : decode method_2_code 29 = .ok (.i2c, 1) := by decide +kernel
theorem d_pick_30 : decode method_2_code 30 = .ok (.ireturn, 1) := by decide +kernel
theorem d_pick_31 : decode method_2_code 31 = .ok (.iload_n 3, 1) := by decide +kernel
theorem d_pick_32 : decode method_2_code 32 = .ok (.bipush 52, 2) := by decide +kernel
theorem d_pick_34 : decode method_2_code 34 = .ok (.if_icmp .ge 12, 3) := by decide +kernel
theorem d_pick_37 : decode method_2_code 37 = .ok (.bipush 65, 2) := by decide +kernel
theorem d_pick_39 : decode method_2_code 39 = .ok (.iload_n 3, 1) := by decide +kernel
theorem d_pick_40 : decode method_2_code 40 = .ok (.bipush 26, 2) := by decide +kernel
theorem d_pick_42 : decode method_2_code 42 = .ok (.isub, 1) := by decide +kernel
theorem d_pick_43 : decode method_2_code 43 = .ok (.iadd, 1) := by decide +kernel
theorem d_pick_44 : decode method_2_code 44 = .ok (.i2c, 1) := by decide +kernel
theorem d_pick_45 : decode method_2_code 45 = .ok (.ireturn, 1) := by decide +kernel
theorem d_pick_46 : decode method_2_code 46 = .ok (.iload_n 3, 1) := by decide +kernel
theorem d_pick_47 : decode method_2_code 47 = .ok (.bipush 52, 2) := by decide +kernel
theorem d_pick_49 : decode method_2_code 49 = .ok (.if_icmp .ne 6, 3) := by decide +kernel
theorem d_pick_52 : decode method_2_code 52 = .ok (.bipush 95, 2) := by decide +kernel
theorem d_pick_54 : decode method_2_code 54 = .ok (.ireturn, 1) := by decide +kernel
theorem d_pick_55 : decode method_2_code 55 = .ok (.bipush 48, 2) := by decide +kernel
theorem d_pick_57 : decode method_2_code 57 = .ok (.iload_n 3, 1) := by decide +kernel
theorem d_pick_58 : decode method_2_code 58 = .ok (.bipush 53, 2) := by decide +kernel
theorem d_pick_60 : decode method_2_code 60 = .ok (.isub, 1) := by decide +kernel
theorem d_pick_61 : decode method_2_code 61 = .ok (.iadd, 1) := by decide +kernel
theorem d_pick_62 : decode method_2_code 62 = .ok (.i2c, 1) := by decide +kernel
theorem d_pick_63 : decode method_2_code 63 = .ok (.ireturn, 1) := by decide +kernel
abbrev M_pick : own_Mi := ((⟨"com/example/table_to_topic/tabletotopic/TableNameOfPinLaw", "pick", "(IZ)C"⟩ : MethodName), method_2_code, 4, (Option.some FieldType.char), ({ frames := 0, cells := 0, slots := 0, locals := 0 } : Room))
theorem pn_pick : plainName "com/example/table_to_topic/tabletotopic/TableNameOfPinLaw" = true := by first | (simp [plainName, overriddenIn]; done) | decide +kernel
set_option maxRecDepth 65536 in
set_option maxHeartbeats 40000000 in
theorem c_pick (K : own_Cx) (a0 : Array Value) (hw : ∀ d ∈ tables_1, d.before a0 K.Z = true) (x f : Int32) (b : Bool) (h : Heap) (hf : f = if b then 1 else 0) :
    own_Met K M_pick #[.int x, .int f] [] h (own_ret fun w h' _ => ∃ c : Int32, w = .int c ∧ own_ok c.toInt b = true ∧ h' = h) := by
  have hx := c_mask x 2147483647 31 (by decide) (by decide)
  suffices key : ∀ n : Int32, n.toInt = (if b then 53 else 63) → own_WP K M_pick (own_ret fun w h' _ => ∃ c : Int32, w = .int c ∧ own_ok c.toInt b = true ∧ h' = h) 11 [.val (.int x), .val (.int f), .unset, .unset] [.int n] [] h 0 0 by
    refine own_met_2_2 (M := M_pick) pn_pick rfl (by first | rfl | exact own_cat (by assumption)) (by first | rfl | exact own_cat (by assumption)) ?_
    refine own_iload_n (pc' := 1) rfl d_pick_0 rfl ?_
    refine own_ifeq (pcT := 9) (pcF := 4) d_pick_1 (by decide) (by decide) rfl (fun q => ?_) (fun q => ?_)
    · skip
      refine own_bipush (v := (63 : Int32)) (pc' := 11) rfl d_pick_9 rfl ?_
      exact key _ (by cases b <;> simp_all)
    · skip
      refine own_bipush (v := (53 : Int32)) (pc' := 6) rfl d_pick_4 rfl ?_
      refine own_goto (pc' := 11) d_pick_6 (by decide) (by decide) ?_
      exact key _ (by cases b <;> simp_all)
  intro n hn
  have n63 : 53 ≤ n.toInt ∧ n.toInt ≤ 63 := by cases b <;> simp at hn <;> omega
  have hk := (c_iremV (x &&& 2147483647) n).1 (by rw [hx]; omega) (by omega)
  have hn0 : n ≠ 0 := by intro z; rw [z] at n63; have : (0 : Int32).toInt = 0 := rfl; omega
  refine own_istore_n2 (pc' := 12) rfl d_pick_11 (by first | exact One.u | exact One.val rfl | assumption | exact One.val (by assumption)) ?_
  refine own_iload_n (pc' := 13) rfl d_pick_12 rfl ?_
  refine own_ldcI (pc' := 15) rfl d_pick_13 (tw_4 hw) ?_
  refine own_iand (pc' := 16) rfl d_pick_15 ?_
  refine own_iload_n (pc' := 17) rfl d_pick_16 rfl ?_
  refine own_irem (pc' := 18) rfl d_pick_17 hn0 ?_
  generalize (x &&& 2147483647) % n = k at hk
  have v26 : (26 : Int32).toInt = 26 := rfl
  have v52 : (52 : Int32).toInt = 52 := rfl
  have v53 : (53 : Int32).toInt = 53 := rfl
  have v97 : (97 : Int32).toInt = 97 := rfl
  have v65 : (65 : Int32).toInt = 65 := rfl
  have v48 : (48 : Int32).toInt = 48 := rfl
  refine own_istore_n3 (pc' := 19) rfl d_pick_18 (by first | exact One.u | exact One.val rfl | assumption | exact One.val (by assumption)) ?_
  refine own_iload_n (pc' := 20) rfl d_pick_19 rfl ?_
  refine own_bipush (v := (26 : Int32)) (pc' := 22) rfl d_pick_20 rfl ?_
  refine own_icmpge (pcT := 31) (pcF := 25) d_pick_22 (by decide) (by decide) rfl (fun q1 => ?_) (fun q1 => ?_)
  · rw [Int32.lt_iff_toInt_lt] at q1
    refine own_iload_n (pc' := 32) rfl d_pick_31 rfl ?_
    refine own_bipush (v := (52 : Int32)) (pc' := 34) rfl d_pick_32 rfl ?_
    refine own_icmpge (pcT := 46) (pcF := 37) d_pick_34 (by decide) (by decide) rfl (fun q2 => ?_) (fun q2 => ?_)
    · rw [Int32.lt_iff_toInt_lt] at q2
      refine own_iload_n (pc' := 47) rfl d_pick_46 rfl ?_
      refine own_bipush (v := (52 : Int32)) (pc' := 49) rfl d_pick_47 rfl ?_
      refine own_icmpne (pcT := 55) (pcF := 52) d_pick_49 (by decide) (by decide) rfl (fun q3 => ?_) (fun q3 => ?_)
      · have : ¬ k.toInt = 52 := fun z => q3 (Int32.toInt_inj.mp (by rw [z]; rfl))
        have hb : b = false := by cases b <;> simp at hn ⊢; omega
        have e1 := own_sub (rfl : k.toInt = k.toInt) v53 (by omega) (by omega)
        have e2 := own_add v48 e1 (by omega) (by omega)
        refine own_bipush (v := (48 : Int32)) (pc' := 57) rfl d_pick_55 rfl ?_
        refine own_iload_n (pc' := 58) rfl d_pick_57 rfl ?_
        refine own_bipush (v := (53 : Int32)) (pc' := 60) rfl d_pick_58 rfl ?_
        refine own_isub (pc' := 61) rfl d_pick_60 ?_
        refine own_iadd (pc' := 62) rfl d_pick_61 ?_
        refine own_i2c (pc' := 63) rfl d_pick_62 ?_
        rw [own_i2c_id (by omega) (by omega)]
        refine own_ireturnN (t := .char) rfl (by simp) (own_i2c_id (by omega) (by omega)) d_pick_63 rfl rfl ?_
        refine ⟨_, rfl, ?_, rfl⟩
        rw [e2, hb]
        simp only [own_ok, Bool.or_eq_true, Bool.and_eq_true, decide_eq_true_eq]
        right
        refine ⟨⟨by omega, by omega⟩, rfl⟩
      · skip
        refine own_bipush (v := (95 : Int32)) (pc' := 54) rfl d_pick_52 rfl ?_
        refine own_ireturnN (t := .char) rfl (by simp) (by first | exact own_nb0 | exact own_nb1 | rfl) d_pick_54 rfl rfl ?_
        exact ⟨_, rfl, by cases b <;> decide, rfl⟩
    · rw [Int32.lt_iff_toInt_lt] at q2
      have e1 := own_sub (rfl : k.toInt = k.toInt) v26 (by omega) (by omega)
      have e2 := own_add v65 e1 (by omega) (by omega)
      refine own_bipush (v := (65 : Int32)) (pc' := 39) rfl d_pick_37 rfl ?_
      refine own_iload_n (pc' := 40) rfl d_pick_39 rfl ?_
      refine own_bipush (v := (26 : Int32)) (pc' := 42) rfl d_pick_40 rfl ?_
      refine own_isub (pc' := 43) rfl d_pick_42 ?_
      refine own_iadd (pc' := 44) rfl d_pick_43 ?_
      refine own_i2c (pc' := 45) rfl d_pick_44 ?_
      rw [own_i2c_id (by omega) (by omega)]
      refine own_ireturnN (t := .char) rfl (by simp) (own_i2c_id (by omega) (by omega)) d_pick_45 rfl rfl ?_
      refine ⟨_, rfl, ?_, rfl⟩
      rw [e2]
      simp only [own_ok, Bool.or_eq_true, Bool.and_eq_true, decide_eq_true_eq]
      left; left; right
      omega
  · rw [Int32.lt_iff_toInt_lt] at q1
    have e2 := own_add v97 (rfl : k.toInt = k.toInt) (by omega) (by omega)
    refine own_bipush (v := (97 : Int32)) (pc' := 27) rfl d_pick_25 rfl ?_
    refine own_iload_n (pc' := 28) rfl d_pick_27 rfl ?_
    refine own_iadd (pc' := 29) rfl d_pick_28 ?_
    refine own_i2c (pc' := 30) rfl d_pick_29 ?_
    rw [own_i2c_id (by omega) (by omega)]
    refine own_ireturnN (t := .char) rfl (by simp) (own_i2c_id (by omega) (by omega)) d_pick_30 rfl rfl ?_
    refine ⟨_, rfl, ?_, rfl⟩
    rw [e2]
    simp only [own_ok, Bool.or_eq_true, Bool.and_eq_true, decide_eq_true_eq]
    left; left; left
    omega
theorem d_isa_0 : decode prog_15_method_4_code 0 = .ok (.iload_n 0, 1) := by decide +kernel
theorem d_isa_1 : decode prog_15_method_4_code 1 = .ok (.bipush 97, 2) := by decide +kernel
theorem d_isa_3 : decode prog_15_method_4_code 3 = .ok (.if_icmp .lt 9, 3) := by decide +kernel
theorem d_isa_6 : decode prog_15_method_4_code 6 = .ok (.iload_n 0, 1) := by decide +kernel
theorem d_isa_7 : decode prog_15_method_4_code 7 = .ok (.bipush 122, 2) := by decide +kernel
theorem d_isa_9 : decode prog_15_method_4_code 9 = .ok (.if_icmp .le 21, 3) := by decide +kernel
theorem d_isa_12 : decode prog_15_method_4_code 12 = .ok (.iload_n 0, 1) := by decide +kernel
theorem d_isa_13 : decode prog_15_method_4_code 13 = .ok (.bipush 65, 2) := by decide +kernel
theorem d_isa_15 : decode prog_15_method_4_code 15 = .ok (.if_icmp .lt 9, 3) := by decide +kernel
theorem d_isa_18 : decode prog_15_method_4_code 18 = .ok (.iload_n 0, 1) := by decide +kernel
theorem d_isa_19 : decode prog_15_method_4_code 19 = .ok (.bipush 90, 2) := by decide +kernel
theorem d_isa_21 : decode prog_15_method_4_code 21 = .ok (.if_icmp .le 9, 3) := by decide +kernel
theorem d_isa_24 : decode prog_15_method_4_code 24 = .ok (.iload_n 0, 1) := by decide +kernel
theorem d_isa_25 : decode prog_15_method_4_code 25 = .ok (.bipush 95, 2) := by decide +kernel
theorem d_isa_27 : decode prog_15_method_4_code 27 = .ok (.if_icmp .ne 7, 3) := by decide +kernel
theorem d_isa_30 : decode prog_15_method_4_code 30 = .ok (.iconst 1, 1) := by decide +kernel
theorem d_isa_31 : decode prog_15_method_4_code 31 = .ok (.goto 4, 3) := by decide +kernel
theorem d_isa_34 : decode prog_15_method_4_code 34 = .ok (.iconst 0, 1) := by decide +kernel
theorem d_isa_35 : decode prog_15_method_4_code 35 = .ok (.istore_n 2, 1) := by decide +kernel
theorem d_isa_36 : decode prog_15_method_4_code 36 = .ok (.iload_n 0, 1) := by decide +kernel
theorem d_isa_37 : decode prog_15_method_4_code 37 = .ok (.bipush 48, 2) := by decide +kernel
theorem d_isa_39 : decode prog_15_method_4_code 39 = .ok (.if_icmp .lt 13, 3) := by decide +kernel
theorem d_isa_42 : decode prog_15_method_4_code 42 = .ok (.iload_n 0, 1) := by decide +kernel
theorem d_isa_43 : decode prog_15_method_4_code 43 = .ok (.bipush 57, 2) := by decide +kernel
theorem d_isa_45 : decode prog_15_method_4_code 45 = .ok (.if_icmp .gt 7, 3) := by decide +kernel
theorem d_isa_48 : decode prog_15_method_4_code 48 = .ok (.iconst 1, 1) := by decide +kernel
theorem d_isa_49 : decode prog_15_method_4_code 49 = .ok (.goto 4, 3) := by decide +kernel
theorem d_isa_52 : decode prog_15_method_4_code 52 = .ok (.iconst 0, 1) := by decide +kernel
theorem d_isa_53 : decode prog_15_method_4_code 53 = .ok (.istore_n 3, 1) := by decide +kernel
theorem d_isa_54 : decode prog_15_method_4_code 54 = .ok (.iload_n 2, 1) := by decide +kernel
theorem d_isa_55 : decode prog_15_method_4_code 55 = .ok (.ifCond .ne 11, 3) := by decide +kernel
theorem d_isa_58 : decode prog_15_method_4_code 58 = .ok (.iload_n 3, 1) := by decide +kernel
theorem d_isa_59 : decode prog_15_method_4_code 59 = .ok (.ifCond .eq 11, 3) := by decide +kernel
theorem d_isa_62 : decode prog_15_method_4_code 62 = .ok (.iload_n 1, 1) := by decide +kernel
theorem d_isa_63 : decode prog_15_method_4_code 63 = .ok (.ifCond .ne 7, 3) := by decide +kernel
theorem d_isa_66 : decode prog_15_method_4_code 66 = .ok (.iconst 1, 1) := by decide +kernel
theorem d_isa_67 : decode prog_15_method_4_code 67 = .ok (.goto 4, 3) := by decide +kernel
theorem d_isa_71 : decode prog_15_method_4_code 71 = .ok (.ireturn, 1) := by decide +kernel
abbrev M_isa : own_Mi := ((⟨"com/example/table_to_topic/tabletotopic/TableName", "isAllowed", "(CZ)Z"⟩ : MethodName), prog_15_method_4_code, 4, (Option.some FieldType.boolean), ({ frames := 0, cells := 0, slots := 0, locals := 0 } : Room))
theorem pn_isa : plainName "com/example/table_to_topic/tabletotopic/TableName" = true := by first | (simp [plainName, overriddenIn]; done) | decide +kernel
set_option maxRecDepth 65536 in
set_option maxHeartbeats 40000000 in
theorem c_isa (K : own_Cx) (a0 : Array Value) (hw : ∀ d ∈ tables_1, d.before a0 K.Z = true) (c f : Int32) (b : Bool) (h : Heap) (hf : f = if b then 1 else 0) (hok : own_ok c.toInt b = true) :
    own_Met K M_isa #[.int c, .int f] [] h (own_ret fun w h' _ => w = .int 1 ∧ h' = h) := by
  have v97 : (97 : Int32).toInt = 97 := rfl
  have v122 : (122 : Int32).toInt = 122 := rfl
  have v65 : (65 : Int32).toInt = 65 := rfl
  have v90 : (90 : Int32).toInt = 90 := rfl
  have v48 : (48 : Int32).toInt = 48 := rfl
  have v57 : (57 : Int32).toInt = 57 := rfl
  have v95 : (95 : Int32).toInt = 95 := rfl
  suffices keyL : ∀ l d : Int32, (l = 1 ∨ (l = 0 ∧ b = false ∧ d = 1)) → own_WP K M_isa (own_ret fun w h' _ => w = .int 1 ∧ h' = h) 54 [.val (.int c), .val (.int f), .val (.int l), .val (.int d)] [] [] h 0 0 by
    suffices keyD : ∀ l : Int32, (l = 1 ∨ (l = 0 ∧ b = false ∧ 48 ≤ c.toInt ∧ c.toInt ≤ 57)) → own_WP K M_isa (own_ret fun w h' _ => w = .int 1 ∧ h' = h) 35 [.val (.int c), .val (.int f), .unset, .unset] [.int l] [] h 0 0 by
      have yes : own_WP K M_isa (own_ret fun w h' _ => w = .int 1 ∧ h' = h) 30 [.val (.int c), .val (.int f), .unset, .unset] [] [] h 0 0 := by
        refine own_iconst (v := (1 : Int32)) (pc' := 31) rfl d_isa_30 rfl ?_
        refine own_goto (pc' := 35) d_isa_31 (by decide) (by decide) ?_
        exact keyD 1 (Or.inl rfl)
      refine own_met_2_2 (M := M_isa) pn_isa rfl (by first | rfl | exact own_cat (by assumption)) (by first | rfl | exact own_cat (by assumption)) ?_
      suffices up : ¬ (97 ≤ c.toInt ∧ c.toInt ≤ 122) → own_WP K M_isa (own_ret fun w h' _ => w = .int 1 ∧ h' = h) 12 [.val (.int c), .val (.int f), .unset, .unset] [] [] h 0 0 by
        refine own_iload_n (pc' := 1) rfl d_isa_0 rfl ?_
        refine own_bipush (v := (97 : Int32)) (pc' := 3) rfl d_isa_1 rfl ?_
        refine own_icmplt (pcT := 12) (pcF := 6) d_isa_3 (by decide) (by decide) rfl (fun q => ?_) (fun q => ?_)
        · rw [Int32.lt_iff_toInt_lt] at q
          exact up (by omega)
        rw [Int32.lt_iff_toInt_lt] at q
        refine own_iload_n (pc' := 7) rfl d_isa_6 rfl ?_
        refine own_bipush (v := (122 : Int32)) (pc' := 9) rfl d_isa_7 rfl ?_
        refine own_icmple (pcT := 30) (pcF := 12) d_isa_9 (by decide) (by decide) rfl (fun q1 => ?_) (fun q1 => ?_)
        · exact yes
        · rw [Int32.lt_iff_toInt_lt] at q1
          exact up (by omega)
      intro nl
      suffices us : ¬ (65 ≤ c.toInt ∧ c.toInt ≤ 90) → own_WP K M_isa (own_ret fun w h' _ => w = .int 1 ∧ h' = h) 24 [.val (.int c), .val (.int f), .unset, .unset] [] [] h 0 0 by
        refine own_iload_n (pc' := 13) rfl d_isa_12 rfl ?_
        refine own_bipush (v := (65 : Int32)) (pc' := 15) rfl d_isa_13 rfl ?_
        refine own_icmplt (pcT := 24) (pcF := 18) d_isa_15 (by decide) (by decide) rfl (fun q => ?_) (fun q => ?_)
        · rw [Int32.lt_iff_toInt_lt] at q
          exact us (by omega)
        rw [Int32.lt_iff_toInt_lt] at q
        refine own_iload_n (pc' := 19) rfl d_isa_18 rfl ?_
        refine own_bipush (v := (90 : Int32)) (pc' := 21) rfl d_isa_19 rfl ?_
        refine own_icmple (pcT := 30) (pcF := 24) d_isa_21 (by decide) (by decide) rfl (fun q1 => ?_) (fun q1 => ?_)
        · exact yes
        · rw [Int32.lt_iff_toInt_lt] at q1
          exact us (by omega)
      intro nu
      refine own_iload_n (pc' := 25) rfl d_isa_24 rfl ?_
      refine own_bipush (v := (95 : Int32)) (pc' := 27) rfl d_isa_25 rfl ?_
      refine own_icmpne (pcT := 34) (pcF := 30) d_isa_27 (by decide) (by decide) rfl (fun q => ?_) (fun q => ?_)
      · skip
        refine own_iconst (v := (0 : Int32)) (pc' := 35) rfl d_isa_34 rfl ?_
        refine keyD 0 (Or.inr ⟨rfl, ?_⟩)
        have : ¬ c.toInt = 95 := fun z => q (Int32.toInt_inj.mp (by rw [z]; rfl))
        simp only [own_ok, Bool.or_eq_true, Bool.and_eq_true, decide_eq_true_eq] at hok
        cases b
        · refine ⟨rfl, ?_⟩
          omega
        · simp at hok
          omega
      · exact yes
    intro l hl
    have hd : ∀ d : Int32, (48 ≤ c.toInt ∧ c.toInt ≤ 57 → d = 1) → (l = 1 ∨ (l = 0 ∧ b = false ∧ d = 1)) := by
      intro d hd
      rcases hl with z | ⟨z1, z2, z3⟩
      · exact Or.inl z
      · exact Or.inr ⟨z1, z2, hd z3⟩
    have no : ¬ (48 ≤ c.toInt ∧ c.toInt ≤ 57) → own_WP K M_isa (own_ret fun w h' _ => w = .int 1 ∧ h' = h) 52 [.val (.int c), .val (.int f), .val (.int l), .unset] [] [] h 0 0 := by
      intro nd
      refine own_iconst (v := (0 : Int32)) (pc' := 53) rfl d_isa_52 rfl ?_
      refine own_istore_n3 (pc' := 54) rfl d_isa_53 (by first | exact One.u | exact One.val rfl | assumption | exact One.val (by assumption)) ?_
      exact keyL l 0 (hd 0 fun z => absurd z nd)
    refine own_istore_n2 (pc' := 36) rfl d_isa_35 (by first | exact One.u | exact One.val rfl | assumption | exact One.val (by assumption)) ?_
    refine own_iload_n (pc' := 37) rfl d_isa_36 rfl ?_
    refine own_bipush (v := (48 : Int32)) (pc' := 39) rfl d_isa_37 rfl ?_
    refine own_icmplt (pcT := 52) (pcF := 42) d_isa_39 (by decide) (by decide) rfl (fun q => ?_) (fun q => ?_)
    · rw [Int32.lt_iff_toInt_lt] at q
      exact no (by omega)
    rw [Int32.lt_iff_toInt_lt] at q
    refine own_iload_n (pc' := 43) rfl d_isa_42 rfl ?_
    refine own_bipush (v := (57 : Int32)) (pc' := 45) rfl d_isa_43 rfl ?_
    refine own_icmpgt (pcT := 52) (pcF := 48) d_isa_45 (by decide) (by decide) rfl (fun q1 => ?_) (fun q1 => ?_)
    · rw [Int32.lt_iff_toInt_lt] at q1
      exact no (by omega)
    · skip
      refine own_iconst (v := (1 : Int32)) (pc' := 49) rfl d_isa_48 rfl ?_
      refine own_goto (pc' := 53) d_isa_49 (by decide) (by decide) ?_
      refine own_istore_n3 (pc' := 54) rfl d_isa_53 (by first | exact One.u | exact One.val rfl | assumption | exact One.val (by assumption)) ?_
      exact keyL l 1 (hd 1 fun _ => rfl)
  intro l d hl
  have yes : own_WP K M_isa (own_ret fun w h' _ => w = .int 1 ∧ h' = h) 66 [.val (.int c), .val (.int f), .val (.int l), .val (.int d)] [] [] h 0 0 := by
    refine own_iconst (v := (1 : Int32)) (pc' := 67) rfl d_isa_66 rfl ?_
    refine own_goto (pc' := 71) d_isa_67 (by decide) (by decide) ?_
    refine own_ireturnN (t := .boolean) rfl (by simp) (by first | exact own_nb0 | exact own_nb1 | rfl) d_isa_71 rfl rfl ?_
    exact ⟨rfl, rfl⟩
  refine own_iload_n (pc' := 55) rfl d_isa_54 rfl ?_
  refine own_ifne (pcT := 66) (pcF := 58) d_isa_55 (by decide) (by decide) rfl (fun q => ?_) (fun q => ?_)
  · exact yes
  refine own_iload_n (pc' := 59) rfl d_isa_58 rfl ?_
  rcases hl with z | ⟨z1, z2, z3⟩
  · rw [z] at q; exact absurd q (by decide)
  subst z3 z2
  refine own_ifeq (pcT := 70) (pcF := 62) d_isa_59 (by decide) (by decide) rfl (fun q2 => ?_) (fun q2 => ?_)
  · exact absurd q2 (by decide)
  refine own_iload_n (pc' := 63) rfl d_isa_62 rfl ?_
  refine own_ifne (pcT := 70) (pcF := 66) d_isa_63 (by decide) (by decide) rfl (fun q3 => ?_) (fun q3 => ?_)
  · exact absurd hf q3
  · exact yes
theorem d_nin_0 : decode prog_15_method_1_code 0 = .ok (.aload_n 0, 1) := by decide +kernel
theorem d_nin_1 : decode prog_15_method_1_code 1 = .ok (.invokespecial 1, 3) := by decide +kernel
theorem d_nin_4 : decode prog_15_method_1_code 4 = .ok (.aload_n 0, 1) := by decide +kernel
theorem d_nin_5 : decode prog_15_method_1_code 5 = .ok (.aload_n 1, 1) := by decide +kernel
theorem d_nin_6 : decode prog_15_method_1_code 6 = .ok (.putfield 7, 3) := by decide +kernel
theorem d_nin_9 : decode prog_15_method_1_code 9 = .ok (.return_, 1) := by decide +kernel
abbrev M_nin : own_Mi := ((⟨"com/example/table_to_topic/tabletotopic/TableName", "<init>", "(Ljava/lang/String;)V"⟩ : MethodName), prog_15_method_1_code, 2, (Option.none : Option FieldType), ({ frames := 1, cells := 0, slots := 0, locals := 12 } : Room))
theorem pn_nin : plainName "com/example/table_to_topic/tabletotopic/TableName" = true := by first | (simp [plainName, overriddenIn]; done) | decide +kernel
set_option maxRecDepth 65536 in
set_option maxHeartbeats 40000000 in
theorem c_nin (K : own_Cx) (a0 : Array Value) (hw : ∀ d ∈ tables_1, d.before a0 K.Z = true) (t x : Addr) (h : Heap) (E : Exa K.Z h t own_nC) (F1 : Fld K.Z h t own_nC "name" own_sD .null) :
    own_Met K M_nin #[.ref t, .ref x] [t] h (own_void fun h' _ => Keep h h' [t] ∧ Exa K.Z h' t own_nC ∧ Fld K.Z h' t own_nC "name" own_sD (.ref x)) := by
  refine own_met_2_0 (M := M_nin) pn_nin rfl (by first | rfl | exact own_cat (by assumption)) (by first | rfl | exact own_cat (by assumption)) ?_
  refine own_aload_n (pc' := 1) rfl d_nin_0 rfl (by first | rfl | assumption) ?_
  refine own_initO (pc' := 4) rfl d_nin_1 (tw_91 hw) (tw_17 hw) (tw_18 hw) rfl rfl rfl ?_
  refine own_aload_n (pc' := 5) rfl d_nin_4 rfl (by first | rfl | assumption) ?_
  refine own_aload_n (pc' := 6) rfl d_nin_5 rfl (by first | rfl | assumption) ?_
  refine own_putF (pc' := 9) rfl d_nin_6 (tw_92 hw) Via.refl (Or.inr ⟨(tw_93 hw), rfl, rfl⟩) (tw_87 hw) (ty := (.object "java/lang/String")) (by decide) rfl rfl F1 (by assumption) (by simp) ?_
  intro h1 W1
  refine own_return rfl d_nin_9 rfl rfl ?_
  exact ⟨Keep.of_wr W1, E.wr W1, F1.same W1⟩
theorem d_nts_0 : decode prog_15_method_3_code 0 = .ok (.aload_n 0, 1) := by decide +kernel
theorem d_nts_1 : decode prog_15_method_3_code 1 = .ok (.getfield 7, 3) := by decide +kernel
theorem d_nts_4 : decode prog_15_method_3_code 4 = .ok (.areturn, 1) := by decide +kernel
abbrev M_nts : own_Mi := ((⟨"com/example/table_to_topic/tabletotopic/TableName", "toString", "()Ljava/lang/String;"⟩ : MethodName), prog_15_method_3_code, 1, (Option.some (FieldType.object "java/lang/String")), ({ frames := 0, cells := 0, slots := 0, locals := 0 } : Room))
theorem pn_nts : plainName "com/example/table_to_topic/tabletotopic/TableName" = true := by first | (simp [plainName, overriddenIn]; done) | decide +kernel
set_option maxRecDepth 65536 in
set_option maxHeartbeats 40000000 in
theorem c_nts (K : own_Cx) (a0 : Array Value) (hw : ∀ d ∈ tables_1, d.before a0 K.Z = true) (t x : Addr) (h : Heap) (F : Fld K.Z h t own_nC "name" own_sD (.ref x)) : own_Met K M_nts #[.ref t] [] h (own_ret fun w h' _ => w = .ref x ∧ h' = h) := by
  refine own_met_1_0 (M := M_nts) pn_nts rfl (by first | rfl | exact own_cat (by assumption)) ?_
  refine own_aload_n (pc' := 1) rfl d_nts_0 rfl (by first | rfl | assumption) ?_
  refine own_getF (pc' := 4) rfl d_nts_1 (tw_92 hw) Via.refl (by assumption) ?_
  refine own_areturn rfl rfl (by first | rfl | assumption) d_nts_4 rfl rfl ?_
  exact ⟨rfl, rfl⟩
theorem d_rnn_0 : decode jdk_31_method_11_code 0 = .ok (.aload_n 0, 1) := by decide +kernel
theorem d_rnn_1 : decode jdk_31_method_11_code 1 = .ok (.ifnonnull 12, 3) := by decide +kernel
theorem d_rnn_13 : decode jdk_31_method_11_code 13 = .ok (.aload_n 0, 1) := by decide +kernel
theorem d_rnn_14 : decode jdk_31_method_11_code 14 = .ok (.areturn, 1) := by decide +kernel
abbrev M_rnn : own_Mi := ((⟨"java/util/Objects", "requireNonNull", "(Ljava/lang/Object;Ljava/lang/String;)Ljava/lang/Object;"⟩ : MethodName), jdk_31_method_11_code, 2, (Option.some (FieldType.object "java/lang/Object")), ({ frames := 0, cells := 0, slots := 0, locals := 0 } : Room))
theorem pn_rnn : plainName "java/util/Objects" = true := by first | (simp [plainName, overriddenIn]; done) | decide +kernel
set_option maxRecDepth 65536 in
set_option maxHeartbeats 40000000 in
theorem c_rnn (K : own_Cx) (a0 : Array Value) (hw : ∀ d ∈ tables_1, d.before a0 K.Z = true) (x r : Addr) (h : Heap) :
    own_Met K M_rnn #[.ref x, .ref r] [] h (own_ret fun w h' _ => w = .ref x ∧ h' = h) := by
  refine own_met_2_0 (M := M_rnn) pn_rnn rfl (by first | rfl | exact own_cat (by assumption)) (by first | rfl | exact own_cat (by assumption)) ?_
  refine own_aload_n (pc' := 1) rfl d_rnn_0 rfl (by first | rfl | assumption) ?_
  refine own_ifnonnull_y (pc' := 13) d_rnn_1 (by decide) (by decide) ?_
  refine own_aload_n (pc' := 14) rfl d_rnn_13 rfl (by first | rfl | assumption) ?_
  refine own_areturn rfl rfl (by first | rfl | assumption) d_rnn_14 rfl rfl ?_
  exact ⟨rfl, rfl⟩
theorem d_nof_0 : decode prog_15_method_2_code 0 = .ok (.aload_n 0, 1) := by decide +kernel
theorem d_nof_1 : decode prog_15_method_2_code 1 = .ok (.ldc 13, 2) := by decide +kernel
theorem d_nof_3 : decode prog_15_method_2_code 3 = .ok (.invokestatic 14, 3) := by decide +kernel
theorem d_nof_6 : decode prog_15_method_2_code 6 = .ok (.pop, 1) := by decide +kernel
theorem d_nof_7 : decode prog_15_method_2_code 7 = .ok (.aload_n 0, 1) := by decide +kernel
theorem d_nof_8 : decode prog_15_method_2_code 8 = .ok (.invokevirtual 20, 3) := by decide +kernel
theorem d_nof_11 : decode prog_15_method_2_code 11 = .ok (.ifCond .ne 12, 3) := by decide +kernel
theorem d_nof_14 : decode prog_15_method_2_code 14 = .ok (.aload_n 0, 1) := by decide +kernel
theorem d_nof_15 : decode prog_15_method_2_code 15 = .ok (.invokevirtual 26, 3) := by decide +kernel
theorem d_nof_18 : decode prog_15_method_2_code 18 = .ok (.bipush 63, 2) := by decide +kernel
theorem d_nof_20 : decode prog_15_method_2_code 20 = .ok (.if_icmp .le 40, 3) := by decide +kernel
theorem d_nof_60 : decode prog_15_method_2_code 60 = .ok (.iconst 0, 1) := by decide +kernel
theorem d_nof_61 : decode prog_15_method_2_code 61 = .ok (.istore_n 1, 1) := by decide +kernel
theorem d_nof_62 : decode prog_15_method_2_code 62 = .ok (.iload_n 1, 1) := by decide +kernel
theorem d_nof_63 : decode prog_15_method_2_code 63 = .ok (.aload_n 0, 1) := by decide +kernel
theorem d_nof_64 : decode prog_15_method_2_code 64 = .ok (.invokevirtual 26, 3) := by decide +kernel
theorem d_nof_67 : decode prog_15_method_2_code 67 = .ok (.if_icmp .ge 74, 3) := by decide +kernel
theorem d_nof_70 : decode prog_15_method_2_code 70 = .ok (.aload_n 0, 1) := by decide +kernel
theorem d_nof_71 : decode prog_15_method_2_code 71 = .ok (.iload_n 1, 1) := by decide +kernel
theorem d_nof_72 : decode prog_15_method_2_code 72 = .ok (.invokevirtual 47, 3) := by decide +kernel
theorem d_nof_75 : decode prog_15_method_2_code 75 = .ok (.istore_n 2, 1) := by decide +kernel
theorem d_nof_76 : decode prog_15_method_2_code 76 = .ok (.iload_n 2, 1) := by decide +kernel
theorem d_nof_77 : decode prog_15_method_2_code 77 = .ok (.iload_n 1, 1) := by decide +kernel
theorem d_nof_78 : decode prog_15_method_2_code 78 = .ok (.ifCond .ne 7, 3) := by decide +kernel
theorem d_nof_81 : decode prog_15_method_2_code 81 = .ok (.iconst 1, 1) := by decide +kernel
theorem d_nof_82 : decode prog_15_method_2_code 82 = .ok (.goto 4, 3) := by decide +kernel
theorem d_nof_85 : decode prog_15_method_2_code 85 = .ok (.iconst 0, 1) := by decide +kernel
theorem d_nof_86 : decode prog_15_method_2_code 86 = .ok (.invokestatic 51, 3) := by decide +kernel
theorem d_nof_89 : decode prog_15_method_2_code 89 = .ok (.ifCond .ne 46, 3) := by decide +kernel
theorem d_nof_135 : decode prog_15_method_2_code 135 = .ok (.iinc 1 1, 3) := by decide +kernel
theorem d_nof_138 : decode prog_15_method_2_code 138 = .ok (.goto (-76), 3) := by decide +kernel
theorem d_nof_141 : decode prog_15_method_2_code 141 = .ok (.new 8, 3) := by decide +kernel
theorem d_nof_144 : decode prog_15_method_2_code 144 = .ok (.dup, 1) := by decide +kernel
theorem d_nof_145 : decode prog_15_method_2_code 145 = .ok (.aload_n 0, 1) := by decide +kernel
theorem d_nof_146 : decode prog_15_method_2_code 146 = .ok (.invokespecial 66, 3) := by decide +kernel
theorem d_nof_149 : decode prog_15_method_2_code 149 = .ok (.areturn, 1) := by decide +kernel
abbrev M_nof : own_Mi := ((⟨"com/example/table_to_topic/tabletotopic/TableName", "of", "(Ljava/lang/String;)Lcom/example/table_to_topic/tabletotopic/TableName;"⟩ : MethodName), prog_15_method_2_code, 4, (Option.some (FieldType.object "com/example/table_to_topic/tabletotopic/TableName")), ({ frames := 4, cells := 3, slots := 21, locals := 53 } : Room))
theorem pn_nof : plainName "com/example/table_to_topic/tabletotopic/TableName" = true := by first | (simp [plainName, overriddenIn]; done) | decide +kernel
def Q_nof (K : own_Cx) (x : Addr) (h : Heap) : Value → Heap → List Addr → Prop := fun w h' _ => ∃ t : Addr, w = .ref t ∧ Ext h h' ∧ Exa K.Z h' t own_nC ∧ Fld K.Z h' t own_nC "name" own_sD (.ref x)
set_option maxRecDepth 65536 in
set_option maxHeartbeats 40000000 in
theorem c_nof (K : own_Cx) (a0 : Array Value) (hw : ∀ d ∈ tables_1, d.before a0 K.Z = true) (hnw : K.nw = false) (hEL : EW K.Z a0 K.E) (hme : ("com/example/table_to_topic/tabletotopic/TableName", 13) ∈ K.E) (g : Int32) (SC : Sta K.Z K.Z.heap own_sC "COMPACT_STRINGS" "Z" (.int g)) (hg : ¬ g = 0) (rf : Value) (hrf : rf.isRef = true) (SF : Sta K.Z K.Z.heap "jdk/internal/util/Preconditions" "SIOOBE_FORMATTER" "Ljava/util/function/BiFunction;" rf)
    (x : Addr) (cs : List Int32) (h : Heap) (S : own_Str K.Z h x cs) (h1 : 0 < cs.length) (h2 : cs.length ≤ 63) (hok : own_oks cs = true) (ql : own_lat cs = true) :
    own_Met K M_nof #[.ref x] [] h (own_ret (Q_nof K x h)) := by
  have hn : (cs.length.toInt32).toInt = cs.length := own_lit _ (by omega)
  have v63 : (63 : Int32).toInt = 63 := rfl
  refine own_met_1_3 (M := M_nof) pn_nof rfl (by first | rfl | exact own_cat (by assumption)) ?_
  refine own_aload_n (pc' := 1) rfl d_nof_0 rfl (by first | rfl | assumption) ?_
  refine own_ldcS (n := 16) hnw (pc' := 3) rfl d_nof_1 (hw _ (List.mem_of_getElem? (i := 39) rfl)) (own_atoms hw) hEL hme (by decide +kernel) (by decide +kernel) (by decide +kernel) (by decide +kernel) (by decide +kernel) (by decide +kernel) (by decide +kernel) rfl rfl rfl ?_
  intro e3 h3 E3 S3
  have S := S.ext E3
  refine own_static2v (M' := M_rnn) d_nof_3 (pc' := 6) rfl (tw_42 hw) (tw_43 hw) (tw_44 hw) (tw_45 hw) (by decide) rfl (own_lenOf pd_9 rfl) rfl rfl rfl rfl (c_rnn K a0 hw x e3 h3) (by simp) ?_
  rintro w h4 xs4 ⟨rfl, rfl⟩
  refine own_pop (pc' := 7) rfl d_nof_6 (by first | rfl | assumption) ?_
  refine own_aload_n (pc' := 8) rfl d_nof_7 rfl (by first | rfl | assumption) ?_
  refine own_virtual0v (M' := M_ise) d_nof_8 (pc' := 11) rfl (tw_46 hw) (tw_47 hw) (tw_49 hw) (tw_48 hw) (tw_7 hw) (tw_50 hw) (by decide) rfl (own_lenOf pd_7 rfl) rfl rfl rfl rfl S.1 (c_ise K a0 hw x cs h4 S) (by simp) ?_
  rintro w h5 xs5 ⟨rfl, rfl⟩
  rw [if_neg (by intro z; rw [z] at h1; simp at h1)]
  refine own_ifne (pcT := 23) (pcF := 14) d_nof_11 (by decide) (by decide) rfl (fun q => ?_) (fun q => ?_)
  · exact absurd rfl q
  refine own_aload_n (pc' := 15) rfl d_nof_14 rfl (by first | rfl | assumption) ?_
  refine own_virtual0v (M' := M_sl) d_nof_15 (pc' := 18) rfl (tw_51 hw) (tw_52 hw) (tw_54 hw) (tw_53 hw) (tw_7 hw) (tw_55 hw) (by decide) rfl (own_lenOf pd_10 rfl) rfl rfl rfl rfl S.1 (c_sl K a0 hw g SC hg x cs h5 S) (by simp) ?_
  rintro w h6 xs6 ⟨rfl, rfl⟩
  refine own_bipush (v := (63 : Int32)) (pc' := 20) rfl d_nof_18 rfl ?_
  refine own_icmple (pcT := 60) (pcF := 23) d_nof_20 (by decide) (by decide) rfl (fun q1 => ?_) (fun q1 => ?_)
  rotate_left 1
  · rw [Int32.lt_iff_toInt_lt] at q1; omega
  refine own_iconst (v := (0 : Int32)) (pc' := 61) rfl d_nof_60 rfl ?_
  refine own_istore_n1 (pc' := 62) rfl d_nof_61 (by first | exact One.u | exact One.val rfl | assumption | exact One.val (by assumption)) ?_
  suffices key : ∀ (k i : Nat) (j : Int32) (sf : List Addr) (o : Slot), i + k = cs.length → j.toInt = i → One o → own_WP K M_nof (own_ret (Q_nof K x h)) 62 [.val (.ref x), .val (.int j), o, .unset] [] sf h6 2 20 from
    own_weak (key cs.length 0 0 _ .unset (by simp) rfl One.u) (fun x hx => hx) (by exact Nat.le_of_ble_eq_true rfl) (by exact Nat.le_of_ble_eq_true rfl)
  intro k
  induction k with
  | zero =>
    intro i j sf o hik hj ho
    refine own_iload_n (pc' := 63) rfl d_nof_62 rfl ?_
    refine own_aload_n (pc' := 64) rfl d_nof_63 rfl (by first | rfl | assumption) ?_
    refine own_virtual0v (M' := M_sl) d_nof_64 (pc' := 67) rfl (tw_51 hw) (tw_52 hw) (tw_54 hw) (tw_53 hw) (tw_7 hw) (tw_55 hw) (by decide) rfl (own_lenOf pd_10 rfl) rfl rfl rfl rfl S.1 (c_sl K a0 hw g SC hg x cs h6 S) (by simp) ?_
    rintro w h7 xs7 ⟨rfl, rfl⟩
    refine own_icmpge (pcT := 141) (pcF := 70) d_nof_67 (by decide) (by decide) rfl (fun q2 => ?_) (fun q2 => ?_)
    rotate_left 1
    · rw [Int32.lt_iff_toInt_lt] at q2; omega
    refine own_new (pc' := 144) rfl d_nof_141 (tw_86 hw) (tw_87 hw) (tw_37 hw) rfl rfl ?_
    intro t h8 et E8 X8 D8
    refine own_dup (pc' := 145) rfl d_nof_144 (by first | rfl | assumption) ?_
    refine own_aload_n (pc' := 146) rfl d_nof_145 rfl (by first | rfl | assumption) ?_
    refine own_special1n (M' := M_nin) d_nof_146 (pc' := 149) rfl rfl rfl (tw_88 hw) (tw_89 hw) (tw_37 hw) (tw_90 hw) (by decide) rfl (own_lenOf pd_11 rfl) rfl rfl rfl rfl (c_nin K a0 hw t x h8 X8 (D8 (Or.inr (tw_93 hw)) (ty := .object "java/lang/String") (by decide))) (by simp) ?_
    rintro h9 xs9 ⟨k9, X9, F9⟩
    refine own_areturn rfl rfl (by first | rfl | assumption) d_nof_149 rfl rfl ?_
    exact ⟨t, rfl, own_ext_trans E3 (own_ext_keep E8 k9 (by intro z hz; cases List.mem_singleton.mp hz; omega)), X9, F9⟩
  | succ k ih =>
    intro i j sf o hik hj ho
    have hi : i < cs.length := by omega
    obtain ⟨c, hc⟩ : ∃ c, cs[i]? = some c := ⟨cs[i], by simp [hi]⟩
    have hoc := own_oks_get hok hc
    refine own_iload_n (pc' := 63) rfl d_nof_62 rfl ?_
    refine own_aload_n (pc' := 64) rfl d_nof_63 rfl (by first | rfl | assumption) ?_
    refine own_virtual0v (M' := M_sl) d_nof_64 (pc' := 67) rfl (tw_51 hw) (tw_52 hw) (tw_54 hw) (tw_53 hw) (tw_7 hw) (tw_55 hw) (by decide) rfl (own_lenOf pd_10 rfl) rfl rfl rfl rfl S.1 (c_sl K a0 hw g SC hg x cs h6 S) (by simp) ?_
    rintro w h7 xs7 ⟨rfl, rfl⟩
    refine own_icmpge (pcT := 141) (pcF := 70) d_nof_67 (by decide) (by decide) rfl (fun q2 => ?_) (fun q2 => ?_)
    · exact absurd (by rw [Int32.lt_iff_toInt_lt]; omega) q2
    refine own_aload_n (pc' := 71) rfl d_nof_70 rfl (by first | rfl | assumption) ?_
    refine own_iload_n (pc' := 72) rfl d_nof_71 rfl ?_
    refine own_virtual1v (M' := M_sca) d_nof_72 (pc' := 75) rfl (tw_61 hw) (tw_62 hw) (tw_64 hw) (tw_63 hw) (tw_7 hw) (tw_65 hw) (by decide) rfl (own_lenOf pd_12 rfl) rfl rfl rfl rfl S.1 (c_sca K a0 hw g SC hg rf hrf SF x cs j i c h7 S (by omega) hj hc ql) (by simp) ?_
    rintro w h8 xs8 ⟨rfl, rfl⟩
    refine own_istore_n2 (pc' := 76) rfl d_nof_75 (by first | exact One.u | exact One.val rfl | assumption | exact One.val (by assumption)) ?_
    refine own_iload_n (pc' := 77) rfl d_nof_76 rfl ?_
    refine own_iload_n (pc' := 78) rfl d_nof_77 rfl ?_
    have fin : ∀ (f : Int32) (sf : List Addr), f = (if (decide (i = 0)) then 1 else 0) → own_WP K M_nof (own_ret (Q_nof K x h)) 86 [.val (.ref x), .val (.int j), .val (.int c), .unset] [.int f, .int c] sf h8 2 20 := by
      intro f sf hf
      refine own_static2v (M' := M_isa) d_nof_86 (pc' := 89) rfl (tw_83 hw) (tw_84 hw) (tw_37 hw) (tw_85 hw) (by decide) rfl (own_lenOf pd_13 rfl) rfl rfl rfl rfl (c_isa K a0 hw c f _ h8 hf hoc) (by simp) ?_
      rintro w h9 xs9 ⟨rfl, rfl⟩
      refine own_ifne (pcT := 135) (pcF := 92) d_nof_89 (by decide) (by decide) rfl (fun q3 => ?_) (fun q3 => ?_)
      rotate_left 1
      · exact absurd q3 (by decide)
      refine own_iinc_1 (z := (1 : Int32)) (pc' := 138) rfl d_nof_135 rfl ?_
      refine own_goto (pc' := 62) d_nof_138 (by decide) (by decide) ?_
      exact own_weak (ih (i + 1) (j + 1) _ _ (by omega) (by rw [own_add hj (by rfl : (1 : Int32).toInt = 1)] <;> omega) (One.val rfl)) (fun x hx => hx) (by exact Nat.le_of_ble_eq_true rfl) (by exact Nat.le_of_ble_eq_true rfl)
    refine own_ifne (pcT := 85) (pcF := 81) d_nof_78 (by decide) (by decide) rfl (fun q4 => ?_) (fun q4 => ?_)
    · skip
      refine own_iconst (v := (0 : Int32)) (pc' := 86) rfl d_nof_85 rfl ?_
      refine fin 0 _ ?_
      rw [if_neg]
      intro z
      have z := of_decide_eq_true z
      exact q4 (Int32.toInt_inj.mp (by rw [hj, z]; rfl))
    · skip
      refine own_iconst (v := (1 : Int32)) (pc' := 82) rfl d_nof_81 rfl ?_
      refine own_goto (pc' := 86) d_nof_82 (by decide) (by decide) ?_
      refine fin 1 _ ?_
      rw [if_pos]
      apply decide_eq_true
      rw [q4] at hj
      have : (0 : Int32).toInt = 0 := rfl
      omega
theorem own_okc {c : Int32} {b : Bool} (q : own_ok c.toInt b = true) : nar .char c = c := own_i2c_id (own_ok_lat q).1 (by have := own_ok_lat q; omega)
theorem own_oks_chs {cs : List Int32} (q : own_oks cs = true) : own_Chs cs ∧ own_lat cs = true := by
  have key : ∀ c ∈ cs, 0 ≤ c.toInt ∧ c.toInt < 256 := by
    intro c hc
    obtain ⟨i, hi⟩ := List.getElem?_of_mem hc
    exact own_ok_lat (own_oks_get q hi)
  refine ⟨fun c hc => by have := key c hc; omega, ?_⟩
  simp only [own_lat, List.all_eq_true, decide_eq_true_eq]
  exact fun c hc => (key c hc).2
abbrev M_law : own_Mi := (x, code, maxLocals, ret, room_1)
theorem pn_law : plainName "com/example/table_to_topic/tabletotopic/TableNameOfPinLaw" = true := by first | (simp [plainName, overriddenIn]; done) | decide +kernel
set_option maxRecDepth 65536 in
set_option maxHeartbeats 40000000 in
theorem c_law (K : own_Cx) (a0 : Array Value) (hw : ∀ d ∈ tables_1, d.before a0 K.Z = true) (hnw : K.nw = false) (hEL : EW K.Z a0 K.E) (hme1 : ("com/example/table_to_topic/tabletotopic/TableName", 13) ∈ K.E) (hme : ("com/example/table_to_topic/tabletotopic/TableNameOfPinLaw", 8) ∈ K.E) (g : Int32) (SC : Sta K.Z K.Z.heap "java/lang/String" "COMPACT_STRINGS" "Z" (.int g)) (hg : ¬ g = 0) (rf : Value) (hrf : rf.isRef = true) (SF : Sta K.Z K.Z.heap "jdk/internal/util/Preconditions" "SIOOBE_FORMATTER" "Ljava/util/function/BiFunction;" rf) (p0 p1 p2 p3 p4 : Int32) (h : Heap) :
    own_Met K M_law #[.int p0, .int p1, .int p2, .int p3, .int p4] [] h (own_ret fun w _ _ => w = .int 1) := by
  suffices key : ∀ (sf : List Addr) (cs sl : Nat) (h1 : Heap) (o7 o8 o9 o10 o11 : Slot) (x : Addr) (us : List Int32) (n5 : Int32), One o7 → One o8 → One o9 → One o10 → One o11 → cs ≤ 8 → sl ≤ 300 → own_Str K.Z h1 x us → 0 < us.length → us.length ≤ 63 → own_oks us = true → own_WP K M_law (own_ret fun w _ _ => w = .int 1) 182 [.val (.int p0), .val (.int p1), .val (.int p2), .val (.int p3), .val (.int p4), .val (.int n5), .val (.ref x), o7, o8, o9, o10, o11] [] sf h1 cs sl by
    refine own_met_5_7 (M := M_law) pn_law rfl (by first | rfl | exact own_cat (by assumption)) (by first | rfl | exact own_cat (by assumption)) (by first | rfl | exact own_cat (by assumption)) (by first | rfl | exact own_cat (by assumption)) (by first | rfl | exact own_cat (by assumption)) ?_
    refine own_iload_n (pc' := 1) rfl at_0 rfl ?_
    refine own_bipush (v := (7 : Int32)) (pc' := 3) rfl at_1 rfl ?_
    refine own_iand (pc' := 4) rfl at_3 ?_
    refine own_istore_5 (pc' := 6) rfl at_4 (by first | exact One.u | exact One.val rfl | assumption | exact One.val (by assumption)) ?_
    refine own_iload (pc' := 8) rfl at_6 rfl ?_
    refine own_bipush (v := (7 : Int32)) (pc' := 10) rfl at_8 rfl ?_
    generalize p0 &&& 7 = sel
    refine own_icmpne (pcT := 20) (pcF := 13) at_10 (by decide) (by decide) rfl (fun q => ?_) (fun q => ?_)
    rotate_left 1
    · skip
      refine own_ldcS (n := 252) hnw (pc' := 15) rfl at_13 (hw _ (List.mem_of_getElem? (i := 104) rfl)) (own_atoms hw) hEL hme (by decide +kernel) (by decide +kernel) (by decide +kernel) (by decide +kernel) (by decide +kernel) (by decide +kernel) (by decide +kernel) rfl rfl rfl ?_
      intro x h1 E1 S1
      refine own_astore_6 (pc' := 17) rfl at_15 (by first | exact One.u | exact One.val rfl | assumption | exact One.val (by assumption)) (by first | rfl | assumption) ?_
      refine own_goto (pc' := 182) at_17 (by decide) (by decide) ?_
      exact key _ _ _ _ _ _ _ _ _ x _ _ One.u One.u One.u One.u One.u (by exact Nat.le_of_ble_eq_true rfl) (by exact Nat.le_of_ble_eq_true rfl) S1 (by decide +kernel) (by decide +kernel) (by decide +kernel)
    refine own_iload (pc' := 22) rfl at_20 rfl ?_
    refine own_iconst (v := (3 : Int32)) (pc' := 23) rfl at_22 rfl ?_
    refine own_iand (pc' := 24) rfl at_23 ?_
    refine own_iconst (v := (1 : Int32)) (pc' := 25) rfl at_24 rfl ?_
    refine own_iadd (pc' := 26) rfl at_25 ?_
    refine own_istore_7 (pc' := 28) rfl at_26 (by first | exact One.u | exact One.val rfl | assumption | exact One.val (by assumption)) ?_
    refine own_iload_n (pc' := 29) rfl at_28 rfl ?_
    refine own_iconst (v := (1 : Int32)) (pc' := 30) rfl at_29 rfl ?_
    refine own_static2v (M' := M_pick) at_30 (pc' := 33) rfl (tw_0 hw) (tw_1 hw) (tw_2 hw) (tw_3 hw) (by decide) rfl (own_lenOf pd_14 rfl) rfl rfl rfl rfl (c_pick K a0 hw p1 1 true h rfl) (by simp) ?_
    rintro w h1 xs1 ⟨ca, rfl, ha1, rfl⟩
    refine own_istore_8 (pc' := 35) rfl at_33 (by first | exact One.u | exact One.val rfl | assumption | exact One.val (by assumption)) ?_
    refine own_iload_n (pc' := 36) rfl at_35 rfl ?_
    refine own_iconst (v := (0 : Int32)) (pc' := 37) rfl at_36 rfl ?_
    refine own_static2v (M' := M_pick) at_37 (pc' := 40) rfl (tw_0 hw) (tw_1 hw) (tw_2 hw) (tw_3 hw) (by decide) rfl (own_lenOf pd_14 rfl) rfl rfl rfl rfl (c_pick K a0 hw p2 0 false h1 rfl) (by simp) ?_
    rintro w h2 xs2 ⟨cb, rfl, hb1, rfl⟩
    refine own_istore_9 (pc' := 42) rfl at_40 (by first | exact One.u | exact One.val rfl | assumption | exact One.val (by assumption)) ?_
    refine own_iload_n (pc' := 43) rfl at_42 rfl ?_
    refine own_iconst (v := (0 : Int32)) (pc' := 44) rfl at_43 rfl ?_
    refine own_static2v (M' := M_pick) at_44 (pc' := 47) rfl (tw_0 hw) (tw_1 hw) (tw_2 hw) (tw_3 hw) (by decide) rfl (own_lenOf pd_14 rfl) rfl rfl rfl rfl (c_pick K a0 hw p3 0 false h2 rfl) (by simp) ?_
    rintro w h3 xs3 ⟨cc, rfl, hc1', rfl⟩
    refine own_istore_10 (pc' := 49) rfl at_47 (by first | exact One.u | exact One.val rfl | assumption | exact One.val (by assumption)) ?_
    refine own_iload (pc' := 51) rfl at_49 rfl ?_
    refine own_iconst (v := (0 : Int32)) (pc' := 52) rfl at_51 rfl ?_
    refine own_static2v (M' := M_pick) at_52 (pc' := 55) rfl (tw_0 hw) (tw_1 hw) (tw_2 hw) (tw_3 hw) (by decide) rfl (own_lenOf pd_14 rfl) rfl rfl rfl rfl (c_pick K a0 hw p4 0 false h3 rfl) (by simp) ?_
    rintro w h4 xs4 ⟨cd, rfl, hd1, rfl⟩
    refine own_istore_11 (pc' := 57) rfl at_55 (by first | exact One.u | exact One.val rfl | assumption | exact One.val (by assumption)) ?_
    refine own_iload (pc' := 59) rfl at_57 rfl ?_
    refine own_iconst (v := (1 : Int32)) (pc' := 60) rfl at_59 rfl ?_
    refine own_icmpne (pcT := 83) (pcF := 63) at_60 (by decide) (by decide) rfl (fun q1 => ?_) (fun q1 => ?_)
    · skip
      refine own_iload (pc' := 85) rfl at_83 rfl ?_
      refine own_iconst (v := (2 : Int32)) (pc' := 86) rfl at_85 rfl ?_
      refine own_icmpne (pcT := 114) (pcF := 89) at_86 (by decide) (by decide) rfl (fun q2 => ?_) (fun q2 => ?_)
      · skip
        refine own_iload (pc' := 116) rfl at_114 rfl ?_
        refine own_iconst (v := (3 : Int32)) (pc' := 117) rfl at_116 rfl ?_
        refine own_icmpne (pcT := 150) (pcF := 120) at_117 (by decide) (by decide) rfl (fun q3 => ?_) (fun q3 => ?_)
        · skip
          refine own_new (pc' := 153) rfl at_150 (tw_5 hw) (tw_6 hw) (tw_7 hw) rfl rfl ?_
          intro x hx ex Ex X D
          have FVx := D (Or.inr (tw_34 hw)) (ty := .array .byte) (by decide)
          have FCx := D (Or.inr (tw_32 hw)) (ty := .byte) (by decide)
          refine own_dup (pc' := 154) rfl at_153 (by first | rfl | assumption) ?_
          refine own_iconst (v := (4 : Int32)) (pc' := 155) rfl at_154 rfl ?_
          refine own_newarray (pc' := 157) rfl at_155 (tw_8 hw) (N := 4) (cap := 4) (by decide) (by decide) rfl rfl rfl ?_
          intro a ha ea E0 A0
          refine own_dup (pc' := 158) rfl at_157 (by first | rfl | assumption) ?_
          refine own_iconst (v := (0 : Int32)) (pc' := 159) rfl at_158 rfl ?_
          refine own_iload (pc' := 161) rfl at_159 rfl ?_
          refine own_castore (pc' := 162) rfl at_161 A0 (i := 0) (by decide) (by simp) (own_okc ha1) (by simp) ?_
          intro hc1 kc1 A1
          have E1 := own_ext_keep E0 kc1 (by intro z hz; cases List.mem_singleton.mp hz; omega)
          refine own_dup (pc' := 163) rfl at_162 (by first | rfl | assumption) ?_
          refine own_iconst (v := (1 : Int32)) (pc' := 164) rfl at_163 rfl ?_
          refine own_iload (pc' := 166) rfl at_164 rfl ?_
          refine own_castore (pc' := 167) rfl at_166 A1 (i := 1) (by decide) (by simp) (own_okc hb1) (by simp) ?_
          intro hc2 kc2 A2
          have E2 := own_ext_keep E1 kc2 (by intro z hz; cases List.mem_singleton.mp hz; omega)
          refine own_dup (pc' := 168) rfl at_167 (by first | rfl | assumption) ?_
          refine own_iconst (v := (2 : Int32)) (pc' := 169) rfl at_168 rfl ?_
          refine own_iload (pc' := 171) rfl at_169 rfl ?_
          refine own_castore (pc' := 172) rfl at_171 A2 (i := 2) (by decide) (by simp) (own_okc hc1') (by simp) ?_
          intro hc3 kc3 A3
          have E3 := own_ext_keep E2 kc3 (by intro z hz; cases List.mem_singleton.mp hz; omega)
          refine own_dup (pc' := 173) rfl at_172 (by first | rfl | assumption) ?_
          refine own_iconst (v := (3 : Int32)) (pc' := 174) rfl at_173 rfl ?_
          refine own_iload (pc' := 176) rfl at_174 rfl ?_
          refine own_castore (pc' := 177) rfl at_176 A3 (i := 3) (by decide) (by simp) (own_okc hd1) (by simp) ?_
          intro hc4 kc4 A4
          have E4 := own_ext_keep E3 kc4 (by intro z hz; cases List.mem_singleton.mp hz; omega)
          have hcs : own_oks [ca, cb, cc, cd] = true := by simp [own_oks, ha1, hb1, hc1', hd1]
          refine own_special1n (M' := M_si1) at_177 (pc' := 180) rfl rfl rfl (tw_9 hw) (tw_10 hw) (tw_7 hw) (tw_11 hw) (by decide) rfl (own_lenOf pd_15 rfl) rfl rfl rfl rfl (c_si1 K a0 hw x a g [ca, cb, cc, cd] hc4 (by simp) (by simp) (own_oks_chs hcs).1 A4 (X.ext E4) (FVx.ext E4) (FCx.ext E4) SC hg (own_oks_chs hcs).2) (by simp) ?_
          rintro hs xs ⟨ks, S⟩
          refine own_astore_6 (pc' := 182) rfl at_180 (by first | exact One.u | exact One.val rfl | assumption | exact One.val (by assumption)) (by first | rfl | assumption) ?_
          exact key _ _ _ _ _ _ _ _ _ x _ _ (One.val rfl) (One.val rfl) (One.val rfl) (One.val rfl) (One.val rfl) (by exact Nat.le_of_ble_eq_true rfl) (by exact Nat.le_of_ble_eq_true rfl) S (by simp) (by simp) hcs
        · skip
          refine own_new (pc' := 123) rfl at_120 (tw_5 hw) (tw_6 hw) (tw_7 hw) rfl rfl ?_
          intro x hx ex Ex X D
          have FVx := D (Or.inr (tw_34 hw)) (ty := .array .byte) (by decide)
          have FCx := D (Or.inr (tw_32 hw)) (ty := .byte) (by decide)
          refine own_dup (pc' := 124) rfl at_123 (by first | rfl | assumption) ?_
          refine own_iconst (v := (3 : Int32)) (pc' := 125) rfl at_124 rfl ?_
          refine own_newarray (pc' := 127) rfl at_125 (tw_8 hw) (N := 3) (cap := 3) (by decide) (by decide) rfl rfl rfl ?_
          intro a ha ea E0 A0
          refine own_dup (pc' := 128) rfl at_127 (by first | rfl | assumption) ?_
          refine own_iconst (v := (0 : Int32)) (pc' := 129) rfl at_128 rfl ?_
          refine own_iload (pc' := 131) rfl at_129 rfl ?_
          refine own_castore (pc' := 132) rfl at_131 A0 (i := 0) (by decide) (by simp) (own_okc ha1) (by simp) ?_
          intro hc1 kc1 A1
          have E1 := own_ext_keep E0 kc1 (by intro z hz; cases List.mem_singleton.mp hz; omega)
          refine own_dup (pc' := 133) rfl at_132 (by first | rfl | assumption) ?_
          refine own_iconst (v := (1 : Int32)) (pc' := 134) rfl at_133 rfl ?_
          refine own_iload (pc' := 136) rfl at_134 rfl ?_
          refine own_castore (pc' := 137) rfl at_136 A1 (i := 1) (by decide) (by simp) (own_okc hb1) (by simp) ?_
          intro hc2 kc2 A2
          have E2 := own_ext_keep E1 kc2 (by intro z hz; cases List.mem_singleton.mp hz; omega)
          refine own_dup (pc' := 138) rfl at_137 (by first | rfl | assumption) ?_
          refine own_iconst (v := (2 : Int32)) (pc' := 139) rfl at_138 rfl ?_
          refine own_iload (pc' := 141) rfl at_139 rfl ?_
          refine own_castore (pc' := 142) rfl at_141 A2 (i := 2) (by decide) (by simp) (own_okc hc1') (by simp) ?_
          intro hc3 kc3 A3
          have E3 := own_ext_keep E2 kc3 (by intro z hz; cases List.mem_singleton.mp hz; omega)
          have hcs : own_oks [ca, cb, cc] = true := by simp [own_oks, ha1, hb1, hc1', hd1]
          refine own_special1n (M' := M_si1) at_142 (pc' := 145) rfl rfl rfl (tw_9 hw) (tw_10 hw) (tw_7 hw) (tw_11 hw) (by decide) rfl (own_lenOf pd_15 rfl) rfl rfl rfl rfl (c_si1 K a0 hw x a g [ca, cb, cc] hc3 (by simp) (by simp) (own_oks_chs hcs).1 A3 (X.ext E3) (FVx.ext E3) (FCx.ext E3) SC hg (own_oks_chs hcs).2) (by simp) ?_
          rintro hs xs ⟨ks, S⟩
          refine own_astore_6 (pc' := 147) rfl at_145 (by first | exact One.u | exact One.val rfl | assumption | exact One.val (by assumption)) (by first | rfl | assumption) ?_
          refine own_goto (pc' := 182) at_147 (by decide) (by decide) ?_
          exact key _ _ _ _ _ _ _ _ _ x _ _ (One.val rfl) (One.val rfl) (One.val rfl) (One.val rfl) (One.val rfl) (by exact Nat.le_of_ble_eq_true rfl) (by exact Nat.le_of_ble_eq_true rfl) S (by simp) (by simp) hcs
      · skip
        refine own_new (pc' := 92) rfl at_89 (tw_5 hw) (tw_6 hw) (tw_7 hw) rfl rfl ?_
        intro x hx ex Ex X D
        have FVx := D (Or.inr (tw_34 hw)) (ty := .array .byte) (by decide)
        have FCx := D (Or.inr (tw_32 hw)) (ty := .byte) (by decide)
        refine own_dup (pc' := 93) rfl at_92 (by first | rfl | assumption) ?_
        refine own_iconst (v := (2 : Int32)) (pc' := 94) rfl at_93 rfl ?_
        refine own_newarray (pc' := 96) rfl at_94 (tw_8 hw) (N := 2) (cap := 2) (by decide) (by decide) rfl rfl rfl ?_
        intro a ha ea E0 A0
        refine own_dup (pc' := 97) rfl at_96 (by first | rfl | assumption) ?_
        refine own_iconst (v := (0 : Int32)) (pc' := 98) rfl at_97 rfl ?_
        refine own_iload (pc' := 100) rfl at_98 rfl ?_
        refine own_castore (pc' := 101) rfl at_100 A0 (i := 0) (by decide) (by simp) (own_okc ha1) (by simp) ?_
        intro hc1 kc1 A1
        have E1 := own_ext_keep E0 kc1 (by intro z hz; cases List.mem_singleton.mp hz; omega)
        refine own_dup (pc' := 102) rfl at_101 (by first | rfl | assumption) ?_
        refine own_iconst (v := (1 : Int32)) (pc' := 103) rfl at_102 rfl ?_
        refine own_iload (pc' := 105) rfl at_103 rfl ?_
        refine own_castore (pc' := 106) rfl at_105 A1 (i := 1) (by decide) (by simp) (own_okc hb1) (by simp) ?_
        intro hc2 kc2 A2
        have E2 := own_ext_keep E1 kc2 (by intro z hz; cases List.mem_singleton.mp hz; omega)
        have hcs : own_oks [ca, cb] = true := by simp [own_oks, ha1, hb1, hc1', hd1]
        refine own_special1n (M' := M_si1) at_106 (pc' := 109) rfl rfl rfl (tw_9 hw) (tw_10 hw) (tw_7 hw) (tw_11 hw) (by decide) rfl (own_lenOf pd_15 rfl) rfl rfl rfl rfl (c_si1 K a0 hw x a g [ca, cb] hc2 (by simp) (by simp) (own_oks_chs hcs).1 A2 (X.ext E2) (FVx.ext E2) (FCx.ext E2) SC hg (own_oks_chs hcs).2) (by simp) ?_
        rintro hs xs ⟨ks, S⟩
        refine own_astore_6 (pc' := 111) rfl at_109 (by first | exact One.u | exact One.val rfl | assumption | exact One.val (by assumption)) (by first | rfl | assumption) ?_
        refine own_goto (pc' := 182) at_111 (by decide) (by decide) ?_
        exact key _ _ _ _ _ _ _ _ _ x _ _ (One.val rfl) (One.val rfl) (One.val rfl) (One.val rfl) (One.val rfl) (by exact Nat.le_of_ble_eq_true rfl) (by exact Nat.le_of_ble_eq_true rfl) S (by simp) (by simp) hcs
    · skip
      refine own_new (pc' := 66) rfl at_63 (tw_5 hw) (tw_6 hw) (tw_7 hw) rfl rfl ?_
      intro x hx ex Ex X D
      have FVx := D (Or.inr (tw_34 hw)) (ty := .array .byte) (by decide)
      have FCx := D (Or.inr (tw_32 hw)) (ty := .byte) (by decide)
      refine own_dup (pc' := 67) rfl at_66 (by first | rfl | assumption) ?_
      refine own_iconst (v := (1 : Int32)) (pc' := 68) rfl at_67 rfl ?_
      refine own_newarray (pc' := 70) rfl at_68 (tw_8 hw) (N := 1) (cap := 1) (by decide) (by decide) rfl rfl rfl ?_
      intro a ha ea E0 A0
      refine own_dup (pc' := 71) rfl at_70 (by first | rfl | assumption) ?_
      refine own_iconst (v := (0 : Int32)) (pc' := 72) rfl at_71 rfl ?_
      refine own_iload (pc' := 74) rfl at_72 rfl ?_
      refine own_castore (pc' := 75) rfl at_74 A0 (i := 0) (by decide) (by simp) (own_okc ha1) (by simp) ?_
      intro hc1 kc1 A1
      have E1 := own_ext_keep E0 kc1 (by intro z hz; cases List.mem_singleton.mp hz; omega)
      have hcs : own_oks [ca] = true := by simp [own_oks, ha1, hb1, hc1', hd1]
      refine own_special1n (M' := M_si1) at_75 (pc' := 78) rfl rfl rfl (tw_9 hw) (tw_10 hw) (tw_7 hw) (tw_11 hw) (by decide) rfl (own_lenOf pd_15 rfl) rfl rfl rfl rfl (c_si1 K a0 hw x a g [ca] hc1 (by simp) (by simp) (own_oks_chs hcs).1 A1 (X.ext E1) (FVx.ext E1) (FCx.ext E1) SC hg (own_oks_chs hcs).2) (by simp) ?_
      rintro hs xs ⟨ks, S⟩
      refine own_astore_6 (pc' := 80) rfl at_78 (by first | exact One.u | exact One.val rfl | assumption | exact One.val (by assumption)) (by first | rfl | assumption) ?_
      refine own_goto (pc' := 182) at_80 (by decide) (by decide) ?_
      exact key _ _ _ _ _ _ _ _ _ x _ _ (One.val rfl) (One.val rfl) (One.val rfl) (One.val rfl) (One.val rfl) (by exact Nat.le_of_ble_eq_true rfl) (by exact Nat.le_of_ble_eq_true rfl) S (by simp) (by simp) hcs
  intro sf cs sl h1 o7 o8 o9 o10 o11 x us n5 z7 z8 z9 z10 z11 hcs hsl S1 l1 l2 hok
  refine own_weak (cs1 := 8) (sl1 := 300) (sf' := []) ?_ (by simp) hcs hsl
  refine own_aload (pc' := 184) rfl at_182 rfl (by first | rfl | assumption) ?_
  refine own_static1v (M' := M_nof) at_184 (pc' := 187) rfl (tw_35 hw) (tw_36 hw) (tw_37 hw) (tw_38 hw) (by decide) rfl (own_lenOf pd_16 rfl) rfl rfl rfl rfl (c_nof K a0 hw hnw hEL hme1 g SC hg rf hrf SF x us h1 S1 l1 l2 hok (own_oks_chs hok).2) (by simp) ?_
  rintro w h2 xs2 ⟨t, rfl, E2, X2, F2⟩
  refine own_astore_7 (pc' := 189) rfl at_187 (by first | exact One.u | exact One.val rfl | assumption | exact One.val (by assumption)) (by first | rfl | assumption) ?_
  refine own_aload (pc' := 191) rfl at_189 rfl (by first | rfl | assumption) ?_
  refine own_ifnull_n (pc' := 194) rfl at_191 ?_
  refine own_aload (pc' := 196) rfl at_194 rfl (by first | rfl | assumption) ?_
  refine own_virtual0v (M' := M_nts) at_196 (pc' := 199) rfl (tw_94 hw) (tw_95 hw) (tw_97 hw) (tw_96 hw) (tw_37 hw) (tw_98 hw) (by decide) rfl (own_lenOf pd_17 rfl) rfl rfl rfl rfl X2 (c_nts K a0 hw t x h2 F2) (by simp) ?_
  rintro w h3 xs3 ⟨rfl, rfl⟩
  refine own_aload (pc' := 201) rfl at_199 rfl (by first | rfl | assumption) ?_
  refine own_virtual1v (M' := M_seq) at_201 (pc' := 204) rfl (tw_99 hw) (tw_100 hw) (tw_102 hw) (tw_101 hw) (tw_7 hw) (tw_103 hw) (by decide) rfl (own_lenOf pd_18 rfl) rfl rfl rfl rfl (S1.1.ext E2) (c_seqI K a0 hw x h3) (by simp) ?_
  rintro w h4 xs4 ⟨rfl, rfl⟩
  refine own_ifeq (pcT := 211) (pcF := 207) at_204 (by decide) (by decide) rfl (fun q => ?_) (fun q => ?_)
  · exact absurd q (by decide)
  refine own_iconst (v := (1 : Int32)) (pc' := 208) rfl at_207 rfl ?_
  refine own_goto (pc' := 212) at_208 (by decide) (by decide) ?_
  refine own_ireturnN (t := .boolean) rfl (by simp) (by first | exact own_nb0 | exact own_nb1 | rfl) at_212 rfl rfl ?_
  rfl
abbrev own_EL : List (String × Nat) := [("com/example/table_to_topic/tabletotopic/TableName", 13), ("com/example/table_to_topic/tabletotopic/TableNameOfPinLaw", 8)]
theorem own_EW {a0 : Array Value} {Z : State} (hw : ∀ d ∈ tables_1, d.before a0 Z = true) : EW Z a0 own_EL := (EW.cons (hw _ (List.mem_of_getElem? (i := 39) rfl)) (by decide +kernel) (EW.cons (hw _ (List.mem_of_getElem? (i := 104) rfl)) (by decide +kernel) EW.nil))
set_option maxRecDepth 65536 in
set_option maxHeartbeats 40000000 in
theorem comes_1 {Post : Tables → Env → Array Value → State → Outcome → State → Prop} (hpost : ∀ tb e args s v u, (limb_1_1.after args s (.returned v) u = true ∧ limb_1_2.after args s (.returned v) u = true ∧ True) → ReturnedEndW s (.returned v) u (Jvm.fieldLocs frame_1_writes args s ++ Jvm.arrayLocs frame_1_arrays args s ++ Jvm.staticLocs frame_1_statics s) 24 2176 → Post tb e args s (.returned v) u) :
    ArmFor flags0 classFile x code maxLocals ret World_1 tables_1 room_1 Calls_1 rest_1 Pre_1 Post := by
  intro l hfl _ _ p e ha hc hk s m args below hf hA hF happ hP
  obtain ⟨hcalls, hrest, hpre⟩ := hP
  obtain ⟨-, -, -, hnamed, -, -, -, hat⟩ := (Spec.applies_iff hf).mp happ
  obtain ⟨hg, hn⟩ := and_e (Cond.before_iff.mp (show (Jvm.Cond.and given_1 narrow_1).before args s = true from hpre))
  obtain ⟨gc, gv⟩ := and_e hg
  obtain ⟨g0, gv⟩ := and_e gv
  obtain ⟨g1, gv⟩ := and_e gv
  obtain ⟨g2, gv⟩ := and_e gv
  obtain ⟨g3, gv⟩ := and_e gv
  obtain ⟨w0, w1, w2, w3, w4, rfl⟩ : ∃ w0 w1 w2 w3 w4 : Value, args = #[w0, w1, w2, w3, w4] := by
    have hs : args.size = 5 := by simpa [Cond.value, given_1] using gc
    obtain ⟨L⟩ := args
    match L, hs with
    | [w0, w1, w2, w3, w4], _ => exact ⟨w0, w1, w2, w3, w4, rfl⟩
  have hw := fun d (hd : d ∈ tables_1) => atoms_spec (ws := Jvm.Cond.code x code maxLocals ret :: tables_1) hat d (List.mem_cons_of_mem _ hd)
  obtain ⟨hsets, hown0⟩ := atoms_of _ (rest_1_c_eq ▸ (show rest_1_c.before _ s = true from hrest))
  have hfit : Fit s := fun {y c} hc i hi => by
    obtain ⟨ha, rfl⟩ := Array.getElem?_eq_some_iff.mp hc
    have q := List.all_eq_true.mp ((Array.all_eq_true_iff_forall_mem.mp hF) _ (Array.getElem_mem ha)) i (List.mem_range.mpr hi)
    simpa [Array.getElem?_eq_getElem hi] using q
  obtain ⟨p0, ev0⟩ := is_v g0
  obtain rfl : w0 = (.int p0) := Option.some.inj ev0
  obtain ⟨p1, ev1⟩ := is_v g1
  obtain rfl : w1 = (.int p1) := Option.some.inj ev1
  obtain ⟨p2, ev2⟩ := is_v g2
  obtain rfl : w2 = (.int p2) := Option.some.inj ev2
  obtain ⟨p3, ev3⟩ := is_v g3
  obtain rfl : w3 = (.int p3) := Option.some.inj ev3
  obtain ⟨p4, ev4⟩ := is_v gv
  obtain rfl : w4 = (.int p4) := Option.some.inj ev4
  obtain ⟨gcs, ecs⟩ := is_v (Cond.before_iff.mp (hsets _ (List.mem_of_getElem? (i := 1) rfl)))
  have SC : Sta s s.heap "java/lang/String" "COMPACT_STRINGS" "Z" (.int gcs) := Sta.start ecs (Or.inl (hsets _ (List.mem_of_getElem? (i := 0) rfl)))
  have hgc : ¬ (gcs = (0 : Int32)) := gotF (Cond.eq_ints ecs (Term.int_eval (0))) (not_v (Cond.before_iff.mp (hsets _ (List.mem_of_getElem? (i := 2) rfl))))
  have hEW := own_EW hw
  have hCH : CHv s own_EL s.vm s.heap := CHv.start hEW (fun p hp => hcalls.1 p (by simpa [consts_1] using hp)) (hsets _ (List.mem_of_getElem? (i := 2) rfl)) (tw_24 hw) (tw_6 hw)
  obtain ⟨rf, erf, hrf⟩ := isR_v (Cond.before_iff.mp (hsets _ (List.mem_of_getElem? (i := 8) rfl)))
  have SF : Sta s s.heap "jdk/internal/util/Preconditions" "SIOOBE_FORMATTER" "Ljava/util/function/BiFunction;" rf := Sta.start erf (Or.inl (hsets _ (List.mem_of_getElem? (i := 7) rfl)))
  have main := c_law (l, s, own_EL, false) _ hw rfl hEW (by show _ ∈ own_EL; simp [own_EL]) (by show _ ∈ own_EL; simp [own_EL]) gcs SC hgc rf hrf SF p0 p1 p2 p3 p4 s.heap
  obtain ⟨n, o, h1, h2, h3, v, L, xs, rfl, ⟨w, e0, hq⟩, N, hC, hS, hE, hR, hwm⟩ := main tables_1 p e ha hc hk s m _ below hf ((Spec.applies_iff_loose hf).mp happ).1 ⟨rfl, State.Warmed39.refl s, rfl, ⟨_, hEW⟩, hCH, (fun x hx => nomatch hx), own_ext_refl _⟩ trivial
  subst e0
  subst hq
  refine ⟨n, _, h1, h2, h3, hpost _ _ _ _ _ _ ⟨Cond.after_iff.mpr rfl, Cond.after_iff.mpr (eq_i res_at (Term.int_eval (1)) rfl), trivial⟩ ⟨⟨_, rfl⟩, hR.2.1, hR.2.2.1, (hR.2.2.2.sift fun y hy => Or.inr (N y hy)).mono (by decide) (by decide)⟩⟩
theorem main_1_1 : Claimed_1_1 := comes_1 fun _ _ _ _ _ _ h hF => ⟨h.1, hF⟩
theorem main_1_2 : Claimed_1_2 := comes_1 fun _ _ _ _ _ _ h hF => ⟨h.2.1, hF⟩
end Jvm.Pilot.@@N@@
namespace Jvm.Pilot.@@N@@
open Jvm Jvm.ClassFile Sem Op Lib Jvm.Free Jvm.Stand Jvm.Pilot.@@N@@.Jvm.D
/-! MADE BY PROGRAM (witnessworld.py) out of the Statement's table words and the real class files: 21 classes; the members and pool entries that the words name. The judged class is class 1, her method 2. -/
namespace start1
open Jvm.ClassFile
def u (s : String) : CpInfo := .utf8 (stringToUtf16 s)
/-- a pool by its gaps: so many unusable entries, then the entry; so many at the end -/
def gap : Nat → List CpInfo → List CpInfo
  | 0, r => r
  | n + 1, r => .unusable :: gap n r
def poolList (es : List (Nat × CpInfo)) (last : Nat) : List CpInfo := es.foldr (fun e r => gap e.1 (e.2 :: r)) (gap last [])
def pool (es : List (Nat × CpInfo)) (last : Nat) : Array CpInfo := ⟨poolList es last⟩
def fileOf (pool : Array CpInfo) (this : Nat) (attrs : Array Attribute := #[]) (ms : Array MethodInfo := #[]) (fl : Nat := 33) (sup : Nat := 0) (ifs : Array Nat := #[]) (fds : Array FieldInfo := #[]) : ClassFile where
  minorVersion := 0
  majorVersion := 65
  constantPool := pool
  accessFlags := fl
  thisClass := this
  superClass := sup
  interfaces := ifs
  fields := fds
  methods := ms
  attributes := attrs
def plain (name : String) (sup : Option ClassId) : Class where
  name := name
  kind := .ordinary
  loader := none
  accessFlags := 33
  super := sup
  interfaces := #[]
  cf := none
  fields := #[]
  methods := #[]
  instanceTypes := #[]
  staticTypes := #[]
  resolved := #[]
  callSites := []
  init := .initialized
  statics := none
  mirror := none

def pool0 : Array CpInfo := pool [(5, u "<init>"), (0, u "()V"), (1, .class_ 10), (1, u "java/lang/Object")] 113

def k0c0 : Code := { maxStack := 0, maxLocals := 1, code := object_method_1_code, exceptionTable := #[], attributes := #[] }
def k0m0 : Method := { name := "<init>", desc := "()V", sig := { parameters := [], returnType := none }, accessFlags := 1, code := some k0c0 }
/-- java/lang/Object -/
def k0 : Class := { plain "java/lang/Object" none with
  accessFlags := 33
  interfaces := #[]
  cf := some (fileOf pool0 8 #[] #[{ accessFlags := 1, nameIndex := 5, descriptorIndex := 6, attributes := #[] }] 33 0 #[] #[])
  fields := #[]
  methods := #[k0m0]
  instanceTypes := #[]
  staticTypes := #[]
  resolved := Array.replicate 124 none
  statics := none }

def pool1 : Array CpInfo := pool [(2, .class_ 4), (1, u "java/lang/Object"), (0, u "<init>"), (0, u "()V"), (0, .integer 2147483647), (0, .string 9), (0, u "_abcdefghijklmnopqrstuvwxyzABCDEFGHIJKLMNOPQRSTUVWXYZ0123456789"), (0, .methodref 11 12), (0, .class_ 13), (0, .nameAndType 14 15), (0, u "com/example/table_to_topic/tabletotopic/TableNameOfPinLaw"), (0, u "pick"), (0, u "(IZ)C"), (0, .class_ 17), (0, u "java/lang/String"), (0, .methodref 16 19), (0, .nameAndType 5 20), (0, u "([C)V"), (0, .methodref 22 23), (0, .class_ 24), (0, .nameAndType 25 26), (0, u "com/example/table_to_topic/tabletotopic/TableName"), (0, u "of"), (0, u "(Ljava/lang/String;)Lcom/example/table_to_topic/tabletotopic/TableName;"), (0, .methodref 22 28), (0, .nameAndType 29 30), (0, u "toString"), (0, u "()Ljava/lang/String;"), (0, .methodref 16 32), (0, .nameAndType 33 34), (0, u "equals"), (0, u "(Ljava/lang/Object;)Z"), (3, u "law"), (0, u "(IIIII)Z")] 2

def k1m0 : Method := { name := "<init>", desc := "()V", sig := { parameters := [], returnType := none }, accessFlags := 2, code := none }
def k1c1 : Code := { maxStack := 3, maxLocals := 4, code := method_2_code, exceptionTable := #[], attributes := #[] }
def k1m1 : Method := { name := "pick", desc := "(IZ)C", sig := { parameters := [.int, .boolean], returnType := some .char }, accessFlags := 10, code := some k1c1 }
def k1c2 : Code := { maxStack := 6, maxLocals := 12, code := code, exceptionTable := #[], attributes := #[] }
def k1m2 : Method := { name := "law", desc := "(IIIII)Z", sig := { parameters := [.int, .int, .int, .int, .int], returnType := some .boolean }, accessFlags := 9, code := some k1c2 }
/-- com/example/table_to_topic/tabletotopic/TableNameOfPinLaw -/
def k1 : Class := { plain "com/example/table_to_topic/tabletotopic/TableNameOfPinLaw" (some 0) with
  accessFlags := 49
  interfaces := #[]
  cf := some (fileOf pool1 11 #[] #[{ accessFlags := 2, nameIndex := 5, descriptorIndex := 6, attributes := #[] }, { accessFlags := 10, nameIndex := 14, descriptorIndex := 15, attributes := #[] }, { accessFlags := 9, nameIndex := 38, descriptorIndex := 39, attributes := #[] }] 49 2 #[] #[])
  fields := #[]
  methods := #[k1m0, k1m1, k1m2]
  instanceTypes := #[]
  staticTypes := #[]
  resolved := Array.replicate 42 none
  statics := none }

def pool2 : Array CpInfo := pool [(1, .class_ 2), (0, u "java/io/Serializable"), (0, .class_ 4), (0, u "java/lang/Object")] 2

/-- java/io/Serializable -/
def k2 : Class := { plain "java/io/Serializable" (some 0) with
  accessFlags := 1537
  interfaces := #[]
  cf := some (fileOf pool2 1 #[] #[] 1537 3 #[] #[])
  fields := #[]
  methods := #[]
  instanceTypes := #[]
  staticTypes := #[]
  resolved := Array.replicate 7 none
  statics := none }

def pool3 : Array CpInfo := pool [(1, .class_ 2), (0, u "java/lang/Comparable"), (0, .class_ 4), (0, u "java/lang/Object")] 7

/-- java/lang/Comparable -/
def k3 : Class := { plain "java/lang/Comparable" (some 0) with
  accessFlags := 1537
  interfaces := #[]
  cf := some (fileOf pool3 1 #[] #[] 1537 3 #[] #[])
  fields := #[]
  methods := #[]
  instanceTypes := #[]
  staticTypes := #[]
  resolved := Array.replicate 12 none
  statics := none }

def pool4 : Array CpInfo := pool [(2, .class_ 4), (1, u "java/lang/CharSequence"), (42, .class_ 48), (0, u "java/lang/CharSequence$1CodePointIterator"), (10, .class_ 60), (0, u "java/lang/CharSequence$1CharIterator"), (5, .class_ 67), (0, u "java/lang/Object")] 63

/-- java/lang/CharSequence -/
def k4 : Class := { plain "java/lang/CharSequence" (some 0) with
  accessFlags := 1537
  interfaces := #[]
  cf := some (fileOf pool4 2 #[.nestMembers #[47, 59]] #[] 1537 66 #[] #[])
  fields := #[]
  methods := #[]
  instanceTypes := #[]
  staticTypes := #[]
  resolved := Array.replicate 131 none
  statics := none }

def pool5 : Array CpInfo := pool [(1, .class_ 2), (0, u "java/lang/constant/Constable"), (0, .class_ 4), (0, u "java/lang/Object")] 6

/-- java/lang/constant/Constable -/
def k5 : Class := { plain "java/lang/constant/Constable" (some 0) with
  accessFlags := 1537
  interfaces := #[]
  cf := some (fileOf pool5 1 #[] #[] 1537 3 #[] #[])
  fields := #[]
  methods := #[]
  instanceTypes := #[]
  staticTypes := #[]
  resolved := Array.replicate 11 none
  statics := none }

def pool6 : Array CpInfo := pool [(1, .class_ 2), (0, u "java/lang/constant/ConstantDesc"), (0, .class_ 4), (0, u "java/lang/Object")] 32

/-- java/lang/constant/ConstantDesc -/
def k6 : Class := { plain "java/lang/constant/ConstantDesc" (some 0) with
  accessFlags := 1537
  interfaces := #[]
  cf := some (fileOf pool6 1 #[] #[] 1537 3 #[] #[])
  fields := #[]
  methods := #[]
  instanceTypes := #[]
  staticTypes := #[]
  resolved := Array.replicate 37 none
  statics := none }

def pool7 : Array CpInfo := pool [(1, .methodref 2 3), (0, .class_ 4), (0, .nameAndType 5 6), (0, u "java/lang/Object"), (0, u "<init>"), (0, u "()V"), (2, .fieldref 10 11), (0, .class_ 12), (0, .nameAndType 13 14), (0, u "java/lang/String"), (0, u "value"), (0, u "[B"), (0, .fieldref 10 16), (0, .nameAndType 17 18), (0, u "coder"), (0, u "B"), (2, u "hash"), (0, u "I"), (2, u "hashIsZero"), (0, u "Z"), (0, .methodref 10 28), (0, .nameAndType 5 29), (0, u "([CIILjava/lang/Void;)V"), (8, .fieldref 10 39), (0, .nameAndType 40 26), (0, u "COMPACT_STRINGS"), (1, .class_ 44), (1, u "java/lang/StringUTF16"), (0, u "compress"), (1, .methodref 42 48), (0, .nameAndType 49 50), (0, u "coderFromArrayLen"), (0, u "([BI)B"), (56, .class_ 109), (1, u "java/lang/StringLatin1"), (32, u "()Z"), (34, .methodref 42 178), (0, .nameAndType 45 179), (0, u "([CII)[B"), (154, u "()I"), (0, .methodref 10 336), (0, .nameAndType 17 337), (0, u "()B"), (25, u "([BI)C"), (27, u "(II)V"), (35, u "(I)C"), (64, .methodref 10 493), (0, .nameAndType 494 142), (0, u "isLatin1"), (0, .methodref 107 496), (0, .nameAndType 497 363), (0, u "charAt"), (3, u "checkIndex"), (5, u "length"), (35, u "equals"), (29, u "(Ljava/lang/Object;)Z"), (1, .class_ 576), (0, u "java/lang/CharSequence"), (22, u "CASE_INSENSITIVE_ORDER"), (0, u "Ljava/util/Comparator;"), (91, u "isEmpty"), (317, u "([C)V"), (42, .fieldref 1054 1055), (0, .class_ 1056), (0, .nameAndType 1057 1058), (0, u "jdk/internal/util/Preconditions"), (0, u "SIOOBE_FORMATTER"), (0, u "Ljava/util/function/BiFunction;"), (0, .methodref 1054 1060), (0, .nameAndType 501 1061), (0, u "(IILjava/util/function/BiFunction;)I"), (39, u "serialPersistentFields"), (0, u "[Ljava/io/ObjectStreamField;"), (0, .class_ 1104), (0, u "java/lang/String$CaseInsensitiveComparator"), (1, .class_ 1107), (0, u "java/io/Serializable"), (0, .class_ 1109), (0, u "java/lang/Comparable"), (0, .class_ 1111), (0, u "java/lang/constant/Constable"), (0, .class_ 1113), (0, u "java/lang/constant/ConstantDesc"), (2, u "serialVersionUID"), (0, u "J"), (3, u "REPL"), (0, u "C"), (2, u "LATIN1"), (1, u "UTF16")] 323

def k7m0 : Method := { name := "<init>", desc := "()V", sig := { parameters := [], returnType := none }, accessFlags := 1, code := none }
def k7c1 : Code := { maxStack := 5, maxLocals := 2, code := jdk_42_method_3_code, exceptionTable := #[], attributes := #[] }
def k7m1 : Method := { name := "<init>", desc := "([C)V", sig := { parameters := [(.array .char)], returnType := none }, accessFlags := 1, code := some k7c1 }
def k7c2 : Code := { maxStack := 2, maxLocals := 1, code := jdk_42_method_54_code, exceptionTable := #[], attributes := #[] }
def k7m2 : Method := { name := "length", desc := "()I", sig := { parameters := [], returnType := some .int }, accessFlags := 1, code := some k7c2 }
def k7c3 : Code := { maxStack := 1, maxLocals := 1, code := jdk_42_method_55_code, exceptionTable := #[], attributes := #[] }
def k7m3 : Method := { name := "isEmpty", desc := "()Z", sig := { parameters := [], returnType := some .boolean }, accessFlags := 1, code := some k7c3 }
def k7c4 : Code := { maxStack := 2, maxLocals := 2, code := jdk_42_method_56_code, exceptionTable := #[], attributes := #[] }
def k7m4 : Method := { name := "charAt", desc := "(I)C", sig := { parameters := [.int], returnType := some .char }, accessFlags := 1, code := some k7c4 }
def k7c5 : Code := { maxStack := 2, maxLocals := 3, code := jdk_42_method_66_code, exceptionTable := #[], attributes := #[] }
def k7m5 : Method := { name := "equals", desc := "(Ljava/lang/Object;)Z", sig := { parameters := [(.object "java/lang/Object")], returnType := some .boolean }, accessFlags := 1, code := some k7c5 }
def k7c6 : Code := { maxStack := 4, maxLocals := 6, code := jdk_42_method_149_code, exceptionTable := #[], attributes := #[] }
def k7m6 : Method := { name := "<init>", desc := "([CIILjava/lang/Void;)V", sig := { parameters := [(.array .char), .int, .int, (.object "java/lang/Void")], returnType := none }, accessFlags := 2, code := some k7c6 }
def k7c7 : Code := { maxStack := 1, maxLocals := 1, code := jdk_42_method_152_code, exceptionTable := #[], attributes := #[] }
def k7m7 : Method := { name := "coder", desc := "()B", sig := { parameters := [], returnType := some .byte }, accessFlags := 0, code := some k7c7 }
def k7c8 : Code := { maxStack := 1, maxLocals := 1, code := jdk_42_method_154_code, exceptionTable := #[], attributes := #[] }
def k7m8 : Method := { name := "isLatin1", desc := "()Z", sig := { parameters := [], returnType := some .boolean }, accessFlags := 0, code := some k7c8 }
def k7c9 : Code := { maxStack := 3, maxLocals := 2, code := jdk_42_method_155_code, exceptionTable := #[], attributes := #[] }
def k7m9 : Method := { name := "checkIndex", desc := "(II)V", sig := { parameters := [.int, .int], returnType := none }, accessFlags := 8, code := some k7c9 }
/-- java/lang/String -/
def k7 : Class := { plain "java/lang/String" (some 0) with
  accessFlags := 49
  interfaces := #[2, 3, 4, 5, 6]
  cf := some (fileOf pool7 10 #[.nestMembers #[1103]] #[{ accessFlags := 1, nameIndex := 5, descriptorIndex := 6, attributes := #[] }, { accessFlags := 1, nameIndex := 5, descriptorIndex := 1010, attributes := #[] }, { accessFlags := 1, nameIndex := 507, descriptorIndex := 334, attributes := #[] }, { accessFlags := 1, nameIndex := 692, descriptorIndex := 142, attributes := #[] }, { accessFlags := 1, nameIndex := 497, descriptorIndex := 427, attributes := #[] }, { accessFlags := 1, nameIndex := 543, descriptorIndex := 573, attributes := #[] }, { accessFlags := 2, nameIndex := 5, descriptorIndex := 29, attributes := #[] }, { accessFlags := 0, nameIndex := 17, descriptorIndex := 337, attributes := #[] }, { accessFlags := 0, nameIndex := 494, descriptorIndex := 142, attributes := #[] }, { accessFlags := 8, nameIndex := 501, descriptorIndex := 391, attributes := #[] }] 49 2 #[1106, 1108, 575, 1110, 1112] #[{ accessFlags := 18, nameIndex := 13, descriptorIndex := 14, attributes := #[] }, { accessFlags := 18, nameIndex := 17, descriptorIndex := 18, attributes := #[] }, { accessFlags := 2, nameIndex := 21, descriptorIndex := 22, attributes := #[] }, { accessFlags := 2, nameIndex := 25, descriptorIndex := 26, attributes := #[] }, { accessFlags := 26, nameIndex := 1116, descriptorIndex := 1117, attributes := #[] }, { accessFlags := 24, nameIndex := 40, descriptorIndex := 26, attributes := #[] }, { accessFlags := 26, nameIndex := 1101, descriptorIndex := 1102, attributes := #[] }, { accessFlags := 26, nameIndex := 1121, descriptorIndex := 1122, attributes := #[] }, { accessFlags := 25, nameIndex := 599, descriptorIndex := 600, attributes := #[] }, { accessFlags := 24, nameIndex := 1125, descriptorIndex := 18, attributes := #[] }, { accessFlags := 24, nameIndex := 1127, descriptorIndex := 18, attributes := #[] }])
  fields := #[{ name := "value", type := (.array .byte), accessFlags := 18, slot := 0, constantValue := 0 }, { name := "coder", type := .byte, accessFlags := 18, slot := 1, constantValue := 0 }, { name := "hash", type := .int, accessFlags := 2, slot := 2, constantValue := 0 }, { name := "hashIsZero", type := .boolean, accessFlags := 2, slot := 3, constantValue := 0 }, { name := "serialVersionUID", type := .long, accessFlags := 26, slot := 0, constantValue := 0 }, { name := "COMPACT_STRINGS", type := .boolean, accessFlags := 24, slot := 1, constantValue := 0 }, { name := "serialPersistentFields", type := (.array (.object "java/io/ObjectStreamField")), accessFlags := 26, slot := 2, constantValue := 0 }, { name := "REPL", type := .char, accessFlags := 26, slot := 3, constantValue := 0 }, { name := "CASE_INSENSITIVE_ORDER", type := (.object "java/util/Comparator"), accessFlags := 25, slot := 4, constantValue := 0 }, { name := "LATIN1", type := .byte, accessFlags := 24, slot := 5, constantValue := 0 }, { name := "UTF16", type := .byte, accessFlags := 24, slot := 6, constantValue := 0 }]
  methods := #[k7m0, k7m1, k7m2, k7m3, k7m4, k7m5, k7m6, k7m7, k7m8, k7m9]
  instanceTypes := #[(.array .byte), .byte, .int, .boolean]
  staticTypes := #[.long, .boolean, (.array (.object "java/io/ObjectStreamField")), .char, (.object "java/util/Comparator"), .byte, .byte]
  resolved := Array.replicate 1451 none
  statics := some 0 }

def pool8 : Array CpInfo := pool [(6, .class_ 8), (1, u "java/lang/Object"), (0, u "<init>"), (0, u "()V"), (1, .class_ 14), (1, u "java/lang/StringUTF16"), (31, u "$assertionsDisabled"), (0, u "Z"), (13, u "HI_BYTE_SHIFT"), (0, u "I"), (2, u "LO_BYTE_SHIFT"), (49, .methodref 12 116), (0, .nameAndType 117 118), (0, u "compress"), (0, u "([CI[BII)I"), (3, u "([CII)[B"), (138, u "coderFromArrayLen"), (0, u "([BI)B"), (106, .class_ 371), (1, u "java/lang/StringUTF16$LinesSpliterator"), (58, u "MAX_LENGTH"), (196, .class_ 628), (0, u "java/lang/StringUTF16$CodePointsSpliterator"), (0, .class_ 630), (0, u "java/lang/StringUTF16$CharsSpliterator")] 4

def k8m0 : Method := { name := "<init>", desc := "()V", sig := { parameters := [], returnType := none }, accessFlags := 0, code := none }
def k8c1 : Code := { maxStack := 2, maxLocals := 2, code := jdk_52_method_15_code, exceptionTable := #[], attributes := #[] }
def k8m1 : Method := { name := "coderFromArrayLen", desc := "([BI)B", sig := { parameters := [(.array .byte), .int], returnType := some .byte }, accessFlags := 8, code := some k8c1 }
def k8c2 : Code := { maxStack := 5, maxLocals := 6, code := jdk_52_method_16_code, exceptionTable := #[], attributes := #[] }
def k8m2 : Method := { name := "compress", desc := "([CII)[B", sig := { parameters := [(.array .char), .int, .int], returnType := some (.array .byte) }, accessFlags := 9, code := some k8c2 }
def k8c3 : Code := { maxStack := 3, maxLocals := 7, code := jdk_52_method_21_code, exceptionTable := #[], attributes := #[] }
def k8m3 : Method := { name := "compress", desc := "([CI[BII)I", sig := { parameters := [(.array .char), .int, (.array .byte), .int, .int], returnType := some .int }, accessFlags := 9, code := some k8c3 }
/-- java/lang/StringUTF16 -/
def k8 : Class := { plain "java/lang/StringUTF16" (some 0) with
  accessFlags := 48
  interfaces := #[]
  cf := some (fileOf pool8 12 #[.nestMembers #[627, 629, 369]] #[{ accessFlags := 0, nameIndex := 9, descriptorIndex := 10, attributes := #[] }, { accessFlags := 8, nameIndex := 261, descriptorIndex := 262, attributes := #[] }, { accessFlags := 9, nameIndex := 117, descriptorIndex := 122, attributes := #[] }, { accessFlags := 9, nameIndex := 117, descriptorIndex := 118, attributes := #[] }] 48 6 #[] #[{ accessFlags := 26, nameIndex := 61, descriptorIndex := 62, attributes := #[] }, { accessFlags := 26, nameIndex := 65, descriptorIndex := 62, attributes := #[] }, { accessFlags := 24, nameIndex := 430, descriptorIndex := 62, attributes := #[] }, { accessFlags := 4120, nameIndex := 46, descriptorIndex := 47, attributes := #[] }])
  fields := #[{ name := "HI_BYTE_SHIFT", type := .int, accessFlags := 26, slot := 0, constantValue := 0 }, { name := "LO_BYTE_SHIFT", type := .int, accessFlags := 26, slot := 1, constantValue := 0 }, { name := "MAX_LENGTH", type := .int, accessFlags := 24, slot := 2, constantValue := 0 }, { name := "$assertionsDisabled", type := .boolean, accessFlags := 4120, slot := 3, constantValue := 0 }]
  methods := #[k8m0, k8m1, k8m2, k8m3]
  instanceTypes := #[]
  staticTypes := #[.int, .int, .int, .boolean]
  resolved := Array.replicate 635 none
  statics := none }

def pool9 : Array CpInfo := pool [(1, .methodref 2 3), (0, .class_ 4), (0, .nameAndType 5 6), (0, u "java/lang/Object"), (0, u "<init>"), (0, u "()V"), (0, .fieldref 8 9), (0, .class_ 10), (0, .nameAndType 11 12), (0, u "com/example/table_to_topic/tabletotopic/TableName"), (0, u "name"), (0, u "Ljava/lang/String;"), (0, .string 11), (0, .methodref 15 16), (0, .class_ 17), (0, .nameAndType 18 19), (0, u "java/util/Objects"), (0, u "requireNonNull"), (0, u "(Ljava/lang/Object;Ljava/lang/String;)Ljava/lang/Object;"), (0, .methodref 21 22), (0, .class_ 23), (0, .nameAndType 24 25), (0, u "java/lang/String"), (0, u "isEmpty"), (0, u "()Z"), (0, .methodref 21 27), (0, .nameAndType 28 29), (0, u "length"), (0, u "()I"), (15, .nameAndType 5 46), (0, u "(Ljava/lang/String;)V"), (0, .methodref 21 48), (0, .nameAndType 49 50), (0, u "charAt"), (0, u "(I)C"), (0, .methodref 8 52), (0, .nameAndType 53 54), (0, u "isAllowed"), (0, u "(CZ)Z"), (11, .methodref 8 45), (0, u "MAX_LENGTH"), (0, u "I"), (4, u "of"), (0, u "(Ljava/lang/String;)Lcom/example/table_to_topic/tabletotopic/TableName;"), (1, u "toString"), (0, u "()Ljava/lang/String;")] 2

def k9c0 : Code := { maxStack := 2, maxLocals := 2, code := prog_15_method_1_code, exceptionTable := #[], attributes := #[] }
def k9m0 : Method := { name := "<init>", desc := "(Ljava/lang/String;)V", sig := { parameters := [(.object "java/lang/String")], returnType := none }, accessFlags := 2, code := some k9c0 }
def k9c1 : Code := { maxStack := 7, maxLocals := 4, code := prog_15_method_2_code, exceptionTable := #[], attributes := #[] }
def k9m1 : Method := { name := "of", desc := "(Ljava/lang/String;)Lcom/example/table_to_topic/tabletotopic/TableName;", sig := { parameters := [(.object "java/lang/String")], returnType := some (.object "com/example/table_to_topic/tabletotopic/TableName") }, accessFlags := 9, code := some k9c1 }
def k9c2 : Code := { maxStack := 1, maxLocals := 1, code := prog_15_method_3_code, exceptionTable := #[], attributes := #[] }
def k9m2 : Method := { name := "toString", desc := "()Ljava/lang/String;", sig := { parameters := [], returnType := some (.object "java/lang/String") }, accessFlags := 1, code := some k9c2 }
def k9c3 : Code := { maxStack := 2, maxLocals := 4, code := prog_15_method_4_code, exceptionTable := #[], attributes := #[] }
def k9m3 : Method := { name := "isAllowed", desc := "(CZ)Z", sig := { parameters := [.char, .boolean], returnType := some .boolean }, accessFlags := 10, code := some k9c3 }
/-- com/example/table_to_topic/tabletotopic/TableName -/
def k9 : Class := { plain "com/example/table_to_topic/tabletotopic/TableName" (some 0) with
  accessFlags := 33
  interfaces := #[]
  cf := some (fileOf pool9 8 #[] #[{ accessFlags := 2, nameIndex := 5, descriptorIndex := 46, attributes := #[] }, { accessFlags := 9, nameIndex := 73, descriptorIndex := 74, attributes := #[] }, { accessFlags := 1, nameIndex := 76, descriptorIndex := 77, attributes := #[] }, { accessFlags := 10, nameIndex := 53, descriptorIndex := 54, attributes := #[] }] 33 2 #[] #[{ accessFlags := 26, nameIndex := 67, descriptorIndex := 68, attributes := #[] }, { accessFlags := 18, nameIndex := 11, descriptorIndex := 12, attributes := #[] }])
  fields := #[{ name := "MAX_LENGTH", type := .int, accessFlags := 26, slot := 0, constantValue := 0 }, { name := "name", type := (.object "java/lang/String"), accessFlags := 18, slot := 0, constantValue := 0 }]
  methods := #[k9m0, k9m1, k9m2, k9m3]
  instanceTypes := #[(.object "java/lang/String")]
  staticTypes := #[.int]
  resolved := Array.replicate 80 none
  statics := none }

def pool10 : Array CpInfo := pool [(2, .class_ 4), (1, u "java/lang/Object"), (0, u "<init>"), (0, u "()V"), (35, .class_ 44), (1, u "java/util/Objects"), (0, u "requireNonNull"), (48, u "(Ljava/lang/Object;Ljava/lang/String;)Ljava/lang/Object;")] 89

def k10m0 : Method := { name := "<init>", desc := "()V", sig := { parameters := [], returnType := none }, accessFlags := 2, code := none }
def k10c1 : Code := { maxStack := 3, maxLocals := 2, code := jdk_31_method_11_code, exceptionTable := #[], attributes := #[] }
def k10m1 : Method := { name := "requireNonNull", desc := "(Ljava/lang/Object;Ljava/lang/String;)Ljava/lang/Object;", sig := { parameters := [(.object "java/lang/Object"), (.object "java/lang/String")], returnType := some (.object "java/lang/Object") }, accessFlags := 9, code := some k10c1 }
/-- java/util/Objects -/
def k10 : Class := { plain "java/util/Objects" (some 0) with
  accessFlags := 49
  interfaces := #[]
  cf := some (fileOf pool10 42 #[] #[{ accessFlags := 2, nameIndex := 5, descriptorIndex := 6, attributes := #[] }, { accessFlags := 9, nameIndex := 45, descriptorIndex := 94, attributes := #[] }] 49 2 #[] #[])
  fields := #[]
  methods := #[k10m0, k10m1]
  instanceTypes := #[]
  staticTypes := #[]
  resolved := Array.replicate 184 none
  statics := none }

def pool11 : Array CpInfo := pool [(1, .class_ 2), (0, u "java/lang/String"), (1, .class_ 6), (1, u "java/lang/Object"), (0, u "<init>"), (0, u "()V"), (0, .methodref 1 10), (0, .nameAndType 11 12), (0, u "checkIndex"), (0, u "(II)V"), (1, .class_ 16), (1, u "java/lang/StringLatin1"), (36, u "([BI)C"), (67, u "$assertionsDisabled"), (0, u "Z"), (98, .class_ 223), (1, u "java/lang/StringLatin1$LinesSpliterator"), (28, u "charAt"), (137, .class_ 391), (0, u "java/lang/StringLatin1$CharsSpliterator")] 3

def k11m0 : Method := { name := "<init>", desc := "()V", sig := { parameters := [], returnType := none }, accessFlags := 0, code := none }
def k11c1 : Code := { maxStack := 2, maxLocals := 2, code := jdk_43_method_2_code, exceptionTable := #[], attributes := #[] }
def k11m1 : Method := { name := "charAt", desc := "([BI)C", sig := { parameters := [(.array .byte), .int], returnType := some .char }, accessFlags := 9, code := some k11c1 }
/-- java/lang/StringLatin1 -/
def k11 : Class := { plain "java/lang/StringLatin1" (some 0) with
  accessFlags := 48
  interfaces := #[]
  cf := some (fileOf pool11 14 #[.nestMembers #[390, 221]] #[{ accessFlags := 0, nameIndex := 7, descriptorIndex := 8, attributes := #[] }, { accessFlags := 9, nameIndex := 252, descriptorIndex := 53, attributes := #[] }] 48 4 #[] #[{ accessFlags := 4120, nameIndex := 121, descriptorIndex := 122, attributes := #[] }])
  fields := #[{ name := "$assertionsDisabled", type := .boolean, accessFlags := 4120, slot := 0, constantValue := 0 }]
  methods := #[k11m0, k11m1]
  instanceTypes := #[]
  staticTypes := #[.boolean]
  resolved := Array.replicate 395 none
  statics := none }

def pool12 : Array CpInfo := pool [(2, .class_ 4), (1, u "java/lang/Object"), (0, u "<init>"), (0, u "()V"), (17, .class_ 26), (1, u "jdk/internal/util/Preconditions"), (6, u "checkIndex"), (21, .class_ 56), (0, u "jdk/internal/util/Preconditions$4"), (57, .class_ 115), (0, u "jdk/internal/util/Preconditions$1"), (7, u "SIOOBE_FORMATTER"), (0, u "Ljava/util/function/BiFunction;"), (0, .class_ 126), (0, u "jdk/internal/util/Preconditions$2"), (3, u "AIOOBE_FORMATTER"), (0, .class_ 132), (0, u "jdk/internal/util/Preconditions$3"), (3, u "IOOBE_FORMATTER"), (41, u "(IILjava/util/function/BiFunction;)I")] 15

def k12m0 : Method := { name := "<init>", desc := "()V", sig := { parameters := [], returnType := none }, accessFlags := 1, code := none }
def k12c1 : Code := { maxStack := 3, maxLocals := 3, code := jdk_41_method_11_code, exceptionTable := #[], attributes := #[] }
def k12m1 : Method := { name := "checkIndex", desc := "(IILjava/util/function/BiFunction;)I", sig := { parameters := [.int, .int, (.object "java/util/function/BiFunction")], returnType := some .int }, accessFlags := 9, code := some k12c1 }
/-- jdk/internal/util/Preconditions -/
def k12 : Class := { plain "jdk/internal/util/Preconditions" (some 0) with
  accessFlags := 33
  interfaces := #[]
  cf := some (fileOf pool12 24 #[.nestMembers #[55, 131, 125, 114]] #[{ accessFlags := 1, nameIndex := 5, descriptorIndex := 6, attributes := #[] }, { accessFlags := 9, nameIndex := 33, descriptorIndex := 178, attributes := #[] }] 33 2 #[] #[{ accessFlags := 25, nameIndex := 123, descriptorIndex := 124, attributes := #[] }, { accessFlags := 25, nameIndex := 130, descriptorIndex := 124, attributes := #[] }, { accessFlags := 25, nameIndex := 136, descriptorIndex := 124, attributes := #[] }])
  fields := #[{ name := "SIOOBE_FORMATTER", type := (.object "java/util/function/BiFunction"), accessFlags := 25, slot := 0, constantValue := 0 }, { name := "AIOOBE_FORMATTER", type := (.object "java/util/function/BiFunction"), accessFlags := 25, slot := 1, constantValue := 0 }, { name := "IOOBE_FORMATTER", type := (.object "java/util/function/BiFunction"), accessFlags := 25, slot := 2, constantValue := 0 }]
  methods := #[k12m0, k12m1]
  instanceTypes := #[]
  staticTypes := #[(.object "java/util/function/BiFunction"), (.object "java/util/function/BiFunction"), (.object "java/util/function/BiFunction")]
  resolved := Array.replicate 194 none
  statics := some 1 }

def pool13 : Array CpInfo := pool [(9, u "<init>"), (6, .class_ 18), (1, u "java/lang/Object"), (0, u "()V"), (1, .class_ 23), (1, u "jdk/internal/util/ArraysSupport"), (0, u "LOG2_ARRAY_LONG_INDEX_SCALE"), (0, u "I"), (2, u "U"), (0, u "Ljdk/internal/misc/Unsafe;"), (8, u "BIG_ENDIAN"), (0, u "Z"), (8, u "LOG2_BYTE_BIT_SIZE"), (4, u "LOG2_ARRAY_INT_INDEX_SCALE"), (54, u "JLA"), (0, u "Ljdk/internal/access/JavaLangAccess;"), (11, u "LOG2_ARRAY_BOOLEAN_INDEX_SCALE"), (9, u "LOG2_ARRAY_BYTE_INDEX_SCALE"), (5, u "LOG2_ARRAY_CHAR_INDEX_SCALE"), (5, u "LOG2_ARRAY_SHORT_INDEX_SCALE"), (18, u "LOG2_ARRAY_FLOAT_INDEX_SCALE"), (24, u "LOG2_ARRAY_DOUBLE_INDEX_SCALE"), (89, u "T_BOOLEAN"), (2, u "T_CHAR"), (1, u "T_FLOAT"), (1, u "T_DOUBLE"), (1, u "T_BYTE"), (1, u "T_SHORT"), (1, u "T_INT"), (1, u "T_LONG"), (1, u "SOFT_MAX_ARRAY_LENGTH")] 83

def k13m0 : Method := { name := "<init>", desc := "()V", sig := { parameters := [], returnType := none }, accessFlags := 2, code := none }
/-- jdk/internal/util/ArraysSupport -/
def k13 : Class := { plain "jdk/internal/util/ArraysSupport" (some 0) with
  accessFlags := 33
  interfaces := #[]
  cf := some (fileOf pool13 21 #[] #[{ accessFlags := 2, nameIndex := 9, descriptorIndex := 19, attributes := #[] }] 33 16 #[] #[{ accessFlags := 24, nameIndex := 28, descriptorIndex := 29, attributes := #[] }, { accessFlags := 26, nameIndex := 38, descriptorIndex := 39, attributes := #[] }, { accessFlags := 25, nameIndex := 121, descriptorIndex := 25, attributes := #[] }, { accessFlags := 25, nameIndex := 131, descriptorIndex := 25, attributes := #[] }, { accessFlags := 25, nameIndex := 137, descriptorIndex := 25, attributes := #[] }, { accessFlags := 25, nameIndex := 143, descriptorIndex := 25, attributes := #[] }, { accessFlags := 25, nameIndex := 53, descriptorIndex := 25, attributes := #[] }, { accessFlags := 25, nameIndex := 24, descriptorIndex := 25, attributes := #[] }, { accessFlags := 25, nameIndex := 162, descriptorIndex := 25, attributes := #[] }, { accessFlags := 25, nameIndex := 187, descriptorIndex := 25, attributes := #[] }, { accessFlags := 26, nameIndex := 48, descriptorIndex := 25, attributes := #[] }, { accessFlags := 25, nameIndex := 277, descriptorIndex := 25, attributes := #[] }, { accessFlags := 25, nameIndex := 280, descriptorIndex := 25, attributes := #[] }, { accessFlags := 25, nameIndex := 282, descriptorIndex := 25, attributes := #[] }, { accessFlags := 25, nameIndex := 284, descriptorIndex := 25, attributes := #[] }, { accessFlags := 25, nameIndex := 286, descriptorIndex := 25, attributes := #[] }, { accessFlags := 25, nameIndex := 288, descriptorIndex := 25, attributes := #[] }, { accessFlags := 25, nameIndex := 290, descriptorIndex := 25, attributes := #[] }, { accessFlags := 25, nameIndex := 292, descriptorIndex := 25, attributes := #[] }, { accessFlags := 26, nameIndex := 108, descriptorIndex := 109, attributes := #[] }, { accessFlags := 25, nameIndex := 294, descriptorIndex := 25, attributes := #[] }])
  fields := #[{ name := "U", type := (.object "jdk/internal/misc/Unsafe"), accessFlags := 24, slot := 0, constantValue := 0 }, { name := "BIG_ENDIAN", type := .boolean, accessFlags := 26, slot := 1, constantValue := 0 }, { name := "LOG2_ARRAY_BOOLEAN_INDEX_SCALE", type := .int, accessFlags := 25, slot := 2, constantValue := 0 }, { name := "LOG2_ARRAY_BYTE_INDEX_SCALE", type := .int, accessFlags := 25, slot := 3, constantValue := 0 }, { name := "LOG2_ARRAY_CHAR_INDEX_SCALE", type := .int, accessFlags := 25, slot := 4, constantValue := 0 }, { name := "LOG2_ARRAY_SHORT_INDEX_SCALE", type := .int, accessFlags := 25, slot := 5, constantValue := 0 }, { name := "LOG2_ARRAY_INT_INDEX_SCALE", type := .int, accessFlags := 25, slot := 6, constantValue := 0 }, { name := "LOG2_ARRAY_LONG_INDEX_SCALE", type := .int, accessFlags := 25, slot := 7, constantValue := 0 }, { name := "LOG2_ARRAY_FLOAT_INDEX_SCALE", type := .int, accessFlags := 25, slot := 8, constantValue := 0 }, { name := "LOG2_ARRAY_DOUBLE_INDEX_SCALE", type := .int, accessFlags := 25, slot := 9, constantValue := 0 }, { name := "LOG2_BYTE_BIT_SIZE", type := .int, accessFlags := 26, slot := 10, constantValue := 0 }, { name := "T_BOOLEAN", type := .int, accessFlags := 25, slot := 11, constantValue := 0 }, { name := "T_CHAR", type := .int, accessFlags := 25, slot := 12, constantValue := 0 }, { name := "T_FLOAT", type := .int, accessFlags := 25, slot := 13, constantValue := 0 }, { name := "T_DOUBLE", type := .int, accessFlags := 25, slot := 14, constantValue := 0 }, { name := "T_BYTE", type := .int, accessFlags := 25, slot := 15, constantValue := 0 }, { name := "T_SHORT", type := .int, accessFlags := 25, slot := 16, constantValue := 0 }, { name := "T_INT", type := .int, accessFlags := 25, slot := 17, constantValue := 0 }, { name := "T_LONG", type := .int, accessFlags := 25, slot := 18, constantValue := 0 }, { name := "JLA", type := (.object "jdk/internal/access/JavaLangAccess"), accessFlags := 26, slot := 19, constantValue := 0 }, { name := "SOFT_MAX_ARRAY_LENGTH", type := .int, accessFlags := 25, slot := 20, constantValue := 0 }]
  methods := #[k13m0]
  instanceTypes := #[]
  staticTypes := #[(.object "jdk/internal/misc/Unsafe"), .boolean, .int, .int, .int, .int, .int, .int, .int, .int, .int, .int, .int, .int, .int, .int, .int, .int, .int, (.object "jdk/internal/access/JavaLangAccess"), .int]
  resolved := Array.replicate 378 none
  statics := none }

def pool14 : Array CpInfo := pool [(1, u "java/lang/Cloneable"), (0, .class_ 1), (0, u "java/lang/Object"), (0, .class_ 3)] 3

/-- java/lang/Cloneable -/
def k14 : Class := { plain "java/lang/Cloneable" (some 0) with
  accessFlags := 1537
  interfaces := #[]
  cf := some (fileOf pool14 2 #[] #[] 1537 4 #[] #[])
  fields := #[]
  methods := #[]
  instanceTypes := #[]
  staticTypes := #[]
  resolved := Array.replicate 8 none
  statics := none }

/-- the primitive byte -/
def k15 : Class := { plain "byte" none with kind := .primitive 'B', accessFlags := 0x411 }
/-- [B -/
def k16 : Class := { plain "[B" (some 0) with kind := .array 15 .byte, interfaces := #[14, 2], accessFlags := 1041 }

/-- the primitive char -/
def k17 : Class := { plain "char" none with kind := .primitive 'C', accessFlags := 0x411 }
/-- [C -/
def k18 : Class := { plain "[C" (some 0) with kind := .array 17 .char, interfaces := #[14, 2], accessFlags := 1041 }

/-- the primitive int -/
def k19 : Class := { plain "int" none with kind := .primitive 'I', accessFlags := 0x411 }
/-- [I -/
def k20 : Class := { plain "[I" (some 0) with kind := .array 19 .int, interfaces := #[14, 2], accessFlags := 1041 }

def heap : Heap := #[{ cls := 7, slots := #[.long 0, .int 1, .null, .int 0, .null, .int 0, .int 0], vm := .statics 7 },
  { cls := 12, slots := #[.null, .null, .null], vm := .statics 12 }]
def classes : Array Class := #[k0, k1, k2, k3, k4, k5, k6, k7, k8, k9, k10, k11, k12, k13, k14, k15, k16, k17, k18, k19, k20]
def interned : List (Array UInt16 × Addr) := []
def slotsUsed : Nat := 10
def theMethod : MethodId := ⟨1, 2⟩
def args0 : Array Value := #[.int 5, .int 6, .int 7, .int 8, .int 9]
def aboutOver (below : List Frame) : State where
  vm := { classes := classes, interned := interned.toArray }
  heap := heap
  slotsUsed := slotsUsed
  threads := #[{ frames := .invoking theMethod args0 :: below }]
def below0 : List Frame := [.native { method := ⟨0, 0⟩, args := #[] }]
def about1 : State := aboutOver below0
def p0 : Program := .bare "" "" ""
def e0 : Env := launch0.env 0 0 0
theorem w_frames : about1.frames = Frame.invoking theMethod args0 :: below0 := rfl
set_option maxRecDepth 65536 in
theorem w_args : argsFit about1.vm theMethod args0 = true := by decide +kernel
set_option maxRecDepth 65536 in
theorem w_heap : heapFits about1 = true := by decide +kernel
set_option maxRecDepth 65536 in
theorem w_runnable : about1.curStatus? = some .runnable := by decide +kernel
set_option maxRecDepth 65536 in
theorem w_alone : about1.alone = true := by decide +kernel
set_option maxRecDepth 65536 in
theorem w_named : about1.methodNamed? x = some theMethod := by decide +kernel
set_option maxRecDepth 65536 in
theorem w_hears : about1.hears theMethod below0 = true := by decide +kernel
set_option maxRecDepth 65536 in
theorem w_ripe : about1.ripe theMethod args0 below0 = true := by decide +kernel
theorem w_running : about1.status = .running := rfl
set_option maxRecDepth 65536 in
theorem w_room : about1.hasRoom e0.platform room_1 = true :=
  launch0.hasRoom_least _ room_1 (by decide +kernel) (by decide +kernel) (by decide +kernel) (by decide +kernel) (by decide +kernel) (by decide +kernel)
theorem allAtoms_all (ts : List Jvm.Cond) (a : Array Jvm.Value) (st : Jvm.State) : (allAtoms ts).before a st = ts.all (fun c => c.before a st) := by
  induction ts with
  | nil => rfl
  | cons c t ih =>
    show (Jvm.Cond.and c (allAtoms t)).before a st = _
    rw [Jvm.Cond.before_and, ih, List.all_cons]
def words1 : List Jvm.Cond := Jvm.Cond.code x code maxLocals ret :: tables_1
/-- a 'code' word, met by the world's own term for the bytes: nothing is compared byte by byte -/
theorem code_word {y : MethodName} {bytes : ByteArray} {mx : Nat} {rt : Option FieldType} {a : Array Value} {s : State} {m : MethodId} {meth : Method} {c : Code} (h1 : s.methodNamed? y = some m) (h2 : s.vm.method? m = some meth) (h3 : meth.code = some c) (h4 : c.code = bytes)
    (h5 : (c.maxLocals == mx && c.exceptionTable.isEmpty && decide (c.maxStack ≤ mostOperands) && decide (meth.sig.returnType = rt) && !meth.locks && decide (parseMethodDescriptor y.desc = some meth.sig)) = true) : (Jvm.Cond.code y bytes mx rt).before a s = true := by
  simp only [Bool.and_eq_true, beq_iff_eq, Bool.not_eq_true', decide_eq_true_eq] at h5
  obtain ⟨⟨⟨⟨⟨g1, g2⟩, g3⟩, g4⟩, g5⟩, g6⟩ := h5
  simp [Cond.before, Cond.holds, Cond.value, h1, h2, h3, h4, g1, g2, g3, g4, g5, g6]
def isCode : Jvm.Cond → Bool
  | .code _ _ _ _ => true
  | _ => false
theorem all_split {L : List Jvm.Cond} {P : Jvm.Cond → Bool} (h1 : L.all (fun c => isCode c || P c) = true) (h2 : ∀ c ∈ L.filter isCode, P c = true) : L.all P = true := by
  refine List.all_eq_true.mpr fun c hc => ?_
  have h := List.all_eq_true.mp h1 c hc
  rcases Bool.eq_false_or_eq_true (isCode c) with hi | hi
  · exact h2 c (List.mem_filter.mpr ⟨hc, hi⟩)
  · simpa [hi] using h
set_option maxRecDepth 65536 in
theorem w_c0 : (Jvm.Cond.code x code maxLocals ret).before args0 about1 = true := code_word (m := ⟨1, 2⟩) (meth := k1m2) (c := k1c2) (by decide +kernel) rfl rfl rfl (by decide +kernel)
set_option maxRecDepth 65536 in
theorem w_c1 : (Jvm.Cond.code ({ cls := "com/example/table_to_topic/tabletotopic/TableNameOfPinLaw", name := "pick", desc := "(IZ)C" } : Jvm.MethodName) method_2_code (4 : Nat) (Option.some Jvm.ClassFile.FieldType.char)).before args0 about1 = true := code_word (m := ⟨1, 1⟩) (meth := k1m1) (c := k1c1) (by decide +kernel) rfl rfl rfl (by decide +kernel)
set_option maxRecDepth 65536 in
theorem w_c2 : (Jvm.Cond.code ({ cls := "java/lang/String", name := "<init>", desc := "([C)V" } : Jvm.MethodName) jdk_42_method_3_code (2 : Nat) (Option.none : Option Jvm.ClassFile.FieldType)).before args0 about1 = true := code_word (m := ⟨7, 1⟩) (meth := k7m1) (c := k7c1) (by decide +kernel) rfl rfl rfl (by decide +kernel)
set_option maxRecDepth 65536 in
theorem w_c3 : (Jvm.Cond.code ({ cls := "java/lang/String", name := "<init>", desc := "([CIILjava/lang/Void;)V" } : Jvm.MethodName) jdk_42_method_149_code (6 : Nat) (Option.none : Option Jvm.ClassFile.FieldType)).before args0 about1 = true := code_word (m := ⟨7, 6⟩) (meth := k7m6) (c := k7c6) (by decide +kernel) rfl rfl rfl (by decide +kernel)
set_option maxRecDepth 65536 in
theorem w_c4 : (Jvm.Cond.code ({ cls := "java/lang/Object", name := "<init>", desc := "()V" } : Jvm.MethodName) object_method_1_code (1 : Nat) (Option.none : Option Jvm.ClassFile.FieldType)).before args0 about1 = true := code_word (m := ⟨0, 0⟩) (meth := k0m0) (c := k0c0) (by decide +kernel) rfl rfl rfl (by decide +kernel)
set_option maxRecDepth 65536 in
theorem w_c5 : (Jvm.Cond.code ({ cls := "java/lang/StringUTF16", name := "compress", desc := "([CII)[B" } : Jvm.MethodName) jdk_52_method_16_code (6 : Nat) (Option.some (Jvm.ClassFile.FieldType.array Jvm.ClassFile.FieldType.byte))).before args0 about1 = true := code_word (m := ⟨8, 2⟩) (meth := k8m2) (c := k8c2) (by decide +kernel) rfl rfl rfl (by decide +kernel)
set_option maxRecDepth 65536 in
theorem w_c6 : (Jvm.Cond.code ({ cls := "java/lang/StringUTF16", name := "compress", desc := "([CI[BII)I" } : Jvm.MethodName) jdk_52_method_21_code (7 : Nat) (Option.some Jvm.ClassFile.FieldType.int)).before args0 about1 = true := code_word (m := ⟨8, 3⟩) (meth := k8m3) (c := k8c3) (by decide +kernel) rfl rfl rfl (by decide +kernel)
set_option maxRecDepth 65536 in
theorem w_c7 : (Jvm.Cond.code ({ cls := "java/lang/StringUTF16", name := "coderFromArrayLen", desc := "([BI)B" } : Jvm.MethodName) jdk_52_method_15_code (2 : Nat) (Option.some Jvm.ClassFile.FieldType.byte)).before args0 about1 = true := code_word (m := ⟨8, 1⟩) (meth := k8m1) (c := k8c1) (by decide +kernel) rfl rfl rfl (by decide +kernel)
set_option maxRecDepth 65536 in
theorem w_c8 : (Jvm.Cond.code ({ cls := "com/example/table_to_topic/tabletotopic/TableName", name := "of", desc := "(Ljava/lang/String;)Lcom/example/table_to_topic/tabletotopic/TableName;" } : Jvm.MethodName) prog_15_method_2_code (4 : Nat) (Option.some (Jvm.ClassFile.FieldType.object "com/example/table_to_topic/tabletotopic/TableName"))).before args0 about1 = true := code_word (m := ⟨9, 1⟩) (meth := k9m1) (c := k9c1) (by decide +kernel) rfl rfl rfl (by decide +kernel)
set_option maxRecDepth 65536 in
theorem w_c9 : (Jvm.Cond.code ({ cls := "java/util/Objects", name := "requireNonNull", desc := "(Ljava/lang/Object;Ljava/lang/String;)Ljava/lang/Object;" } : Jvm.MethodName) jdk_31_method_11_code (2 : Nat) (Option.some (Jvm.ClassFile.FieldType.object "java/lang/Object"))).before args0 about1 = true := code_word (m := ⟨10, 1⟩) (meth := k10m1) (c := k10c1) (by decide +kernel) rfl rfl rfl (by decide +kernel)
set_option maxRecDepth 65536 in
theorem w_c10 : (Jvm.Cond.code ({ cls := "java/lang/String", name := "isEmpty", desc := "()Z" } : Jvm.MethodName) jdk_42_method_55_code (1 : Nat) (Option.some Jvm.ClassFile.FieldType.boolean)).before args0 about1 = true := code_word (m := ⟨7, 3⟩) (meth := k7m3) (c := k7c3) (by decide +kernel) rfl rfl rfl (by decide +kernel)
set_option maxRecDepth 65536 in
theorem w_c11 : (Jvm.Cond.code ({ cls := "java/lang/String", name := "length", desc := "()I" } : Jvm.MethodName) jdk_42_method_54_code (1 : Nat) (Option.some Jvm.ClassFile.FieldType.int)).before args0 about1 = true := code_word (m := ⟨7, 2⟩) (meth := k7m2) (c := k7c2) (by decide +kernel) rfl rfl rfl (by decide +kernel)
set_option maxRecDepth 65536 in
theorem w_c12 : (Jvm.Cond.code ({ cls := "java/lang/String", name := "coder", desc := "()B" } : Jvm.MethodName) jdk_42_method_152_code (1 : Nat) (Option.some Jvm.ClassFile.FieldType.byte)).before args0 about1 = true := code_word (m := ⟨7, 7⟩) (meth := k7m7) (c := k7c7) (by decide +kernel) rfl rfl rfl (by decide +kernel)
set_option maxRecDepth 65536 in
theorem w_c13 : (Jvm.Cond.code ({ cls := "java/lang/String", name := "charAt", desc := "(I)C" } : Jvm.MethodName) jdk_42_method_56_code (2 : Nat) (Option.some Jvm.ClassFile.FieldType.char)).before args0 about1 = true := code_word (m := ⟨7, 4⟩) (meth := k7m4) (c := k7c4) (by decide +kernel) rfl rfl rfl (by decide +kernel)
set_option maxRecDepth 65536 in
theorem w_c14 : (Jvm.Cond.code ({ cls := "java/lang/String", name := "isLatin1", desc := "()Z" } : Jvm.MethodName) jdk_42_method_154_code (1 : Nat) (Option.some Jvm.ClassFile.FieldType.boolean)).before args0 about1 = true := code_word (m := ⟨7, 8⟩) (meth := k7m8) (c := k7c8) (by decide +kernel) rfl rfl rfl (by decide +kernel)
set_option maxRecDepth 65536 in
theorem w_c15 : (Jvm.Cond.code ({ cls := "java/lang/StringLatin1", name := "charAt", desc := "([BI)C" } : Jvm.MethodName) jdk_43_method_2_code (2 : Nat) (Option.some Jvm.ClassFile.FieldType.char)).before args0 about1 = true := code_word (m := ⟨11, 1⟩) (meth := k11m1) (c := k11c1) (by decide +kernel) rfl rfl rfl (by decide +kernel)
set_option maxRecDepth 65536 in
theorem w_c16 : (Jvm.Cond.code ({ cls := "java/lang/String", name := "checkIndex", desc := "(II)V" } : Jvm.MethodName) jdk_42_method_155_code (2 : Nat) (Option.none : Option Jvm.ClassFile.FieldType)).before args0 about1 = true := code_word (m := ⟨7, 9⟩) (meth := k7m9) (c := k7c9) (by decide +kernel) rfl rfl rfl (by decide +kernel)
set_option maxRecDepth 65536 in
theorem w_c17 : (Jvm.Cond.code ({ cls := "jdk/internal/util/Preconditions", name := "checkIndex", desc := "(IILjava/util/function/BiFunction;)I" } : Jvm.MethodName) jdk_41_method_11_code (3 : Nat) (Option.some Jvm.ClassFile.FieldType.int)).before args0 about1 = true := code_word (m := ⟨12, 1⟩) (meth := k12m1) (c := k12c1) (by decide +kernel) rfl rfl rfl (by decide +kernel)
set_option maxRecDepth 65536 in
theorem w_c18 : (Jvm.Cond.code ({ cls := "com/example/table_to_topic/tabletotopic/TableName", name := "isAllowed", desc := "(CZ)Z" } : Jvm.MethodName) prog_15_method_4_code (4 : Nat) (Option.some Jvm.ClassFile.FieldType.boolean)).before args0 about1 = true := code_word (m := ⟨9, 3⟩) (meth := k9m3) (c := k9c3) (by decide +kernel) rfl rfl rfl (by decide +kernel)
set_option maxRecDepth 65536 in
theorem w_c19 : (Jvm.Cond.code ({ cls := "com/example/table_to_topic/tabletotopic/TableName", name := "<init>", desc := "(Ljava/lang/String;)V" } : Jvm.MethodName) prog_15_method_1_code (2 : Nat) (Option.none : Option Jvm.ClassFile.FieldType)).before args0 about1 = true := code_word (m := ⟨9, 0⟩) (meth := k9m0) (c := k9c0) (by decide +kernel) rfl rfl rfl (by decide +kernel)
set_option maxRecDepth 65536 in
theorem w_c20 : (Jvm.Cond.code ({ cls := "com/example/table_to_topic/tabletotopic/TableName", name := "toString", desc := "()Ljava/lang/String;" } : Jvm.MethodName) prog_15_method_3_code (1 : Nat) (Option.some (Jvm.ClassFile.FieldType.object "java/lang/String"))).before args0 about1 = true := code_word (m := ⟨9, 2⟩) (meth := k9m2) (c := k9c2) (by decide +kernel) rfl rfl rfl (by decide +kernel)
set_option maxRecDepth 65536 in
theorem w_c21 : (Jvm.Cond.code ({ cls := "java/lang/String", name := "equals", desc := "(Ljava/lang/Object;)Z" } : Jvm.MethodName) jdk_42_method_66_code (3 : Nat) (Option.some Jvm.ClassFile.FieldType.boolean)).before args0 about1 = true := code_word (m := ⟨7, 5⟩) (meth := k7m5) (c := k7c5) (by decide +kernel) rfl rfl rfl (by decide +kernel)
def codes1 : List Jvm.Cond := [Jvm.Cond.code x code maxLocals ret, Jvm.Cond.code ({ cls := "com/example/table_to_topic/tabletotopic/TableNameOfPinLaw", name := "pick", desc := "(IZ)C" } : Jvm.MethodName) method_2_code (4 : Nat) (Option.some Jvm.ClassFile.FieldType.char), Jvm.Cond.code ({ cls := "java/lang/String", name := "<init>", desc := "([C)V" } : Jvm.MethodName) jdk_42_method_3_code (2 : Nat) (Option.none : Option Jvm.ClassFile.FieldType), Jvm.Cond.code ({ cls := "java/lang/String", name := "<init>", desc := "([CIILjava/lang/Void;)V" } : Jvm.MethodName) jdk_42_method_149_code (6 : Nat) (Option.none : Option Jvm.ClassFile.FieldType), Jvm.Cond.code ({ cls := "java/lang/Object", name := "<init>", desc := "()V" } : Jvm.MethodName) object_method_1_code (1 : Nat) (Option.none : Option Jvm.ClassFile.FieldType), Jvm.Cond.code ({ cls := "java/lang/StringUTF16", name := "compress", desc := "([CII)[B" } : Jvm.MethodName) jdk_52_method_16_code (6 : Nat) (Option.some (Jvm.ClassFile.FieldType.array Jvm.ClassFile.FieldType.byte)), Jvm.Cond.code ({ cls := "java/lang/StringUTF16", name := "compress", desc := "([CI[BII)I" } : Jvm.MethodName) jdk_52_method_21_code (7 : Nat) (Option.some Jvm.ClassFile.FieldType.int), Jvm.Cond.code ({ cls := "java/lang/StringUTF16", name := "coderFromArrayLen", desc := "([BI)B" } : Jvm.MethodName) jdk_52_method_15_code (2 : Nat) (Option.some Jvm.ClassFile.FieldType.byte), Jvm.Cond.code ({ cls := "com/example/table_to_topic/tabletotopic/TableName", name := "of", desc := "(Ljava/lang/String;)Lcom/example/table_to_topic/tabletotopic/TableName;" } : Jvm.MethodName) prog_15_method_2_code (4 : Nat) (Option.some (Jvm.ClassFile.FieldType.object "com/example/table_to_topic/tabletotopic/TableName")), Jvm.Cond.code ({ cls := "java/util/Objects", name := "requireNonNull", desc := "(Ljava/lang/Object;Ljava/lang/String;)Ljava/lang/Object;" } : Jvm.MethodName) jdk_31_method_11_code (2 : Nat) (Option.some (Jvm.ClassFile.FieldType.object "java/lang/Object")), Jvm.Cond.code ({ cls := "java/lang/String", name := "isEmpty", desc := "()Z" } : Jvm.MethodName) jdk_42_method_55_code (1 : Nat) (Option.some Jvm.ClassFile.FieldType.boolean), Jvm.Cond.code ({ cls := "java/lang/String", name := "length", desc := "()I" } : Jvm.MethodName) jdk_42_method_54_code (1 : Nat) (Option.some Jvm.ClassFile.FieldType.int), Jvm.Cond.code ({ cls := "java/lang/String", name := "coder", desc := "()B" } : Jvm.MethodName) jdk_42_method_152_code (1 : Nat) (Option.some Jvm.ClassFile.FieldType.byte), Jvm.Cond.code ({ cls := "java/lang/String", name := "charAt", desc := "(I)C" } : Jvm.MethodName) jdk_42_method_56_code (2 : Nat) (Option.some Jvm.ClassFile.FieldType.char), Jvm.Cond.code ({ cls := "java/lang/String", name := "isLatin1", desc := "()Z" } : Jvm.MethodName) jdk_42_method_154_code (1 : Nat) (Option.some Jvm.ClassFile.FieldType.boolean), Jvm.Cond.code ({ cls := "java/lang/StringLatin1", name := "charAt", desc := "([BI)C" } : Jvm.MethodName) jdk_43_method_2_code (2 : Nat) (Option.some Jvm.ClassFile.FieldType.char), Jvm.Cond.code ({ cls := "java/lang/String", name := "checkIndex", desc := "(II)V" } : Jvm.MethodName) jdk_42_method_155_code (2 : Nat) (Option.none : Option Jvm.ClassFile.FieldType), Jvm.Cond.code ({ cls := "jdk/internal/util/Preconditions", name := "checkIndex", desc := "(IILjava/util/function/BiFunction;)I" } : Jvm.MethodName) jdk_41_method_11_code (3 : Nat) (Option.some Jvm.ClassFile.FieldType.int), Jvm.Cond.code ({ cls := "com/example/table_to_topic/tabletotopic/TableName", name := "isAllowed", desc := "(CZ)Z" } : Jvm.MethodName) prog_15_method_4_code (4 : Nat) (Option.some Jvm.ClassFile.FieldType.boolean), Jvm.Cond.code ({ cls := "com/example/table_to_topic/tabletotopic/TableName", name := "<init>", desc := "(Ljava/lang/String;)V" } : Jvm.MethodName) prog_15_method_1_code (2 : Nat) (Option.none : Option Jvm.ClassFile.FieldType), Jvm.Cond.code ({ cls := "com/example/table_to_topic/tabletotopic/TableName", name := "toString", desc := "()Ljava/lang/String;" } : Jvm.MethodName) prog_15_method_3_code (1 : Nat) (Option.some (Jvm.ClassFile.FieldType.object "java/lang/String")), Jvm.Cond.code ({ cls := "java/lang/String", name := "equals", desc := "(Ljava/lang/Object;)Z" } : Jvm.MethodName) jdk_42_method_66_code (3 : Nat) (Option.some Jvm.ClassFile.FieldType.boolean)]
set_option maxRecDepth 65536 in
theorem codes_eq : words1.filter isCode = codes1 := rfl
theorem w_codes : ∀ c ∈ words1.filter isCode, c.before args0 about1 = true := by
  rw [codes_eq]
  intro c hc
  simp only [codes1, List.mem_cons, List.not_mem_nil, or_false] at hc
  rcases hc with rfl | rfl | rfl | rfl | rfl | rfl | rfl | rfl | rfl | rfl | rfl | rfl | rfl | rfl | rfl | rfl | rfl | rfl | rfl | rfl | rfl | rfl
  · exact w_c0
  · exact w_c1
  · exact w_c2
  · exact w_c3
  · exact w_c4
  · exact w_c5
  · exact w_c6
  · exact w_c7
  · exact w_c8
  · exact w_c9
  · exact w_c10
  · exact w_c11
  · exact w_c12
  · exact w_c13
  · exact w_c14
  · exact w_c15
  · exact w_c16
  · exact w_c17
  · exact w_c18
  · exact w_c19
  · exact w_c20
  · exact w_c21
set_option maxRecDepth 65536 in
theorem w_t1 : (words1.take 24).all (fun c => isCode c || c.before args0 about1) = true := by decide +kernel
set_option maxRecDepth 65536 in
theorem w_t2 : ((words1.drop 24).take 24).all (fun c => isCode c || c.before args0 about1) = true := by decide +kernel
set_option maxRecDepth 65536 in
theorem w_t3 : (((words1.drop 24).drop 24).take 24).all (fun c => isCode c || c.before args0 about1) = true := by decide +kernel
set_option maxRecDepth 65536 in
theorem w_t4 : ((((words1.drop 24).drop 24).drop 24).take 24).all (fun c => isCode c || c.before args0 about1) = true := by decide +kernel
set_option maxRecDepth 65536 in
theorem w_t5 : ((((words1.drop 24).drop 24).drop 24).drop 24).all (fun c => isCode c || c.before args0 about1) = true := by decide +kernel
theorem w_tables : (allAtoms (Jvm.Cond.code x code maxLocals ret :: tables_1)).before args0 about1 = true := by
  rw [allAtoms_all]
  show words1.all (fun c => c.before args0 about1) = true
  refine all_split ?_ w_codes
  rw [← List.take_append_drop 24 words1, List.all_append, w_t1, ← List.take_append_drop 24 (words1.drop 24), List.all_append, w_t2, ← List.take_append_drop 24 ((words1.drop 24).drop 24), List.all_append, w_t3, ← List.take_append_drop 24 (((words1.drop 24).drop 24).drop 24), List.all_append, w_t4, w_t5]
  rfl
set_option maxRecDepth 65536 in
theorem w_rest : rest_1_c.before args0 about1 = true := by decide +kernel
set_option maxRecDepth 65536 in
theorem w_case : (Jvm.Cond.and given_1 narrow_1).before args0 about1 = true := by decide +kernel
set_option maxRecDepth 65536 in
theorem w_consts : constsHeld consts_1 about1 := Jvm.Lit.constsHeldB_iff.mp (by decide +kernel)
theorem w_applies : (headSpec (Jvm.Cond.code x code maxLocals ret :: tables_1) room_1).applies x e0.platform about1 = true :=
  (Spec.applies_iff w_frames).mpr ⟨w_running, w_runnable, w_alone, w_named, w_hears, w_ripe, w_room, w_tables⟩
theorem atStart : AtStart classFile x code maxLocals ret World_1 tables_1 room_1 Calls_1 rest_1 Pre_1 launch0 p0 e0 about1 theMethod args0 below0 :=
  ⟨lists_1, trivial, launch0.admits_env _ _ _, launch0.least_env, fairChoices_fair.cas, fairChoices_fair.clock, w_frames, w_args, w_heap, w_applies, ⟨w_consts, trivial⟩, w_rest, w_case⟩
end start1
theorem witness_1 : WitnessClaimed_1 := ⟨start1.p0, start1.e0, start1.about1, start1.theMethod, start1.args0, start1.below0, start1.atStart⟩
end Jvm.Pilot.@@N@@
